import JvmDerived
import JvmDerived.Pilot.@@N@@Statement
import JvmDerived.Pilot.@@N@@Code
set_option linter.unusedVariables false
set_option linter.unusedSimpArgs false
@@BLOCK:NumsL.lean.txt@@
namespace Jvm.RoadKit
open Sem ClassFile Op Lib Jvm.Stand Jvm.Free Jvm.LawKit
section New
variable {p : Program} {l : Launch} {e : Env} {R : Room} {s : State} {m : MethodId} {args : Array Value} {below : List Frame} {meth : Method} {c : Code} {T : State} {locs : List Loc} {cells slots : Nat}
theorem retI (X : Stand p l e R s m args below meth c T locs cells slots) (hx : p.tables.exec = Jvm.exec) {pc : Nat} {Ls : Array Slot} {z : Int32} {rest : List Value} (hret : meth.sig.returnType = some .int) (hd : decode c.code pc = .ok (.ireturn, 1)) {fs : List Frame}
    (hl : ∀ (f : JFrame) (acts : List Action), f.method = m → f.locked = none → f.entered = [] → (doReturn e (T.setTop f) acts (some (.int z))).1 = T.setFrames fs) : Steps p.tables e below (T.setTop (mkF m pc Ls (.int z :: rest))) (T.setFrames fs) := by
  have hm' : T.vm.method? m = some meth := X.method'
  have hn : narrow .int (.int z) = .int z := rfl
  show Steps p.tables e below (T.setTop { method := m, pc := pc, locals := Ls, stack := _ :: rest, locked := none }) _
  jvm_step X.here [X.here.top, hx, hd, hm', hret, hn]
  first | (intro acts; rw [hl _ acts rfl rfl rfl]) | rw [hl _ _ rfl rfl rfl]
  exact Steps.refl _
end New
end Jvm.RoadKit
namespace Jvm.Pilot.@@N@@
open Jvm Jvm.ClassFile Sem Op Lib Jvm.Free Jvm.Stand Jvm.LawKit Jvm.RoadKit Bundle Jvm.Pilot.@@N@@.Jvm.D
def own_QT (n0 : Nat) (v : Option Value) (L : List Loc) : Prop := v = some (.int (1 : Int32)) ∧ Fr n0 L
theorem own_b8 (x : Int32) : nar .byte (x.toInt8.toInt32) = x.toInt8.toInt32 := by simp [nar]
theorem own_nost {Z : State} {h : Heap} {a : Addr} {C : String} (F : Exa Z h a C) : ∃ cell : Cell, h[a]? = some cell ∧ cell.vm.isStatics = false := by
  obtain ⟨cell, k, h1, -, -, h4, -⟩ := F; exact ⟨cell, h1, h4⟩
theorem own_nostV {Z : State} {h : Heap} {a : Addr} {k : ClassId} {ty : FieldType} {z : Int32} {vs : List Value} {dv : Value} (F : Arv Z h a k ty z vs dv) : ∃ cell : Cell, h[a]? = some cell ∧ cell.vm.isStatics = false := by
  obtain ⟨cell, A, -⟩ := F; exact ⟨cell, A.1, A.plain⟩
theorem own_arr_keep {Z : State} {h h' : Heap} {ws : List Addr} {a : Addr} {c : Cell} {ty : FieldType} (F : Arr Z h a c ty) (K : Keep h h' ws) (q : a ∉ ws) : Arr Z h' a c ty := ⟨K.2.1 a c F.1 q, F.2⟩
theorem own_sta_keep {Z : State} {h h' : Heap} {ws : List Addr} {C n d : String} {v : Value} (F : Sta Z h C n d v) (K : Keep h h' ws) (q : ∀ x ∈ ws, ∃ cell : Cell, h[x]? = some cell ∧ cell.vm.isStatics = false) : Sta Z h' C n d v := by
  obtain ⟨cf, i, k, f, st, cell, h1, h2, h3, h4, h5, h6, h7⟩ := F
  refine ⟨cf, i, k, f, st, cell, h1, h2, h3, h4, K.2.1 _ _ h5 fun hm => ?_, h6, h7⟩
  obtain ⟨c2, g1, g2⟩ := q _ hm
  cases h5.symm.trans g1
  rw [h6] at g2; cases g2
theorem own_fld_int {Z : State} {args : Array Value} {ts : Term} {C n d : String} {k : Int32} {x : Addr} (ev : ts.eval args Z none [] Z = some (.ref x)) (h : (Jvm.Cond.eq (.field ts C n d) (.int k)).value args Z none Z [] = some true) : Fld Z Z.heap x C n d (.int k) := by
  apply Fld.start
  obtain ⟨u, w, e1, e2, k1, k2⟩ := cmp_v (Or.inl h)
  rw [fld_at ev] at e1
  have e3 : w = .int k := (Option.some.inj (e2.symm.trans (Term.int_eval k)))
  subst e3
  obtain ⟨z, rfl⟩ : ∃ z, u = .int z := k2
  have e4 : (Term.field ts C n d).eval args Z none [] Z = some (.int z) := (fld_at ev).trans e1
  have : z = k := by simpa [Cond.value, e4, e2] using h
  rw [e1, this]
theorem own_fld_long {Z : State} {args : Array Value} {ts : Term} {C n d : String} {k : Int64} {x : Addr} (ev : ts.eval args Z none [] Z = some (.ref x)) (h : (Jvm.Cond.eq (.field ts C n d) (.long k)).value args Z none Z [] = some true) : Fld Z Z.heap x C n d (.long k) := by
  apply Fld.start
  obtain ⟨u, w, e1, e2, k1, k2⟩ := cmp_v (Or.inl h)
  rw [fld_at ev] at e1
  have e3 : w = .long k := (Option.some.inj (e2.symm.trans (long_at k)))
  subst e3
  obtain ⟨z, rfl⟩ : ∃ z, u = .long z := k2
  have e4 : (Term.field ts C n d).eval args Z none [] Z = some (.long z) := (fld_at ev).trans e1
  have : z = k := by simpa [Cond.value, e4, e2] using h
  rw [e1, this]
theorem own_fld_ref {Z : State} {args : Array Value} {ts us : Term} {C n d : String} {x y : Addr} (ev : ts.eval args Z none [] Z = some (.ref x)) (eu : us.eval args Z none [] Z = some (.ref y)) (h : (Jvm.Cond.eq (.field ts C n d) us).value args Z none Z [] = some true) : Fld Z Z.heap x C n d (.ref y) := by
  apply Fld.start
  obtain ⟨u, w, e1, e2, k1, k2⟩ := cmp_v (Or.inl h)
  rw [fld_at ev] at e1
  cases e2.symm.trans eu
  have e4 : (Term.field ts C n d).eval args Z none [] Z = some u := (fld_at ev).trans e1
  have hu : u.isRef = true := k2.2
  have : u = .ref y := gotT (eq_R e4 e2 hu rfl) h
  rw [e1, this]
theorem own_fld_null {Z : State} {args : Array Value} {ts : Term} {C n d : String} {x : Addr} (ev : ts.eval args Z none [] Z = some (.ref x)) (h : (Jvm.Cond.eq (.field ts C n d) .null).value args Z none Z [] = some true) : Fld Z Z.heap x C n d .null :=
  Fld.start ((fld_at ev).symm.trans (null_v h))
theorem own_len {Z : State} {args : Array Value} {ts : Term} {k : Int32} {x : Addr} {c : Cell} {ty : FieldType} (A : Arr Z Z.heap x c ty) (ev : ts.eval args Z none [] Z = some (.ref x)) (h : (Jvm.Cond.eq (.length ts) (.int k)).value args Z none Z [] = some true) : c.slots.size < 2 ^ 31 ∧ c.slots.size.toInt32 = k := by
  obtain ⟨u, w, e1, e2, k1, k2⟩ := cmp_v (Or.inl h)
  have hA := Arr.fin (Vm.Alike.refl _) A
  have hl : c.slots.size < 2 ^ 31 := by
    apply Decidable.byContradiction
    intro hn
    have hn' : ¬ c.slots.size < 2147483648 := hn
    simp [Term.eval, ev, hA, hn'] at e1
  have e4 := len_f ev hA hl
  have e3 : w = .int k := (Option.some.inj (e2.symm.trans (Term.int_eval k)))
  subst e3
  exact ⟨hl, by simpa [Cond.value, e4, e2] using h⟩
theorem own_elem_ref {Z : State} {args : Array Value} {ts us : Term} {j : Int32} {x y : Addr} {c : Cell} {ty : FieldType} (A : Arr Z Z.heap x c ty) (ev : ts.eval args Z none [] Z = some (.ref x)) (eu : us.eval args Z none [] Z = some (.ref y)) (h : (Jvm.Cond.eq (.elem ts (.int j)) us).value args Z none Z [] = some true) (i : Nat) (hi : j.toNatClampNeg = i) : c.slots[i]? = some (.ref y) := by
  obtain ⟨u, w, e1, e2, k1, k2⟩ := cmp_v (Or.inl h)
  cases e2.symm.trans eu
  have hu : u.isRef = true := k2.2
  have e5 : u = .ref y := gotT (eq_R e1 e2 hu rfl) h
  rw [← hi, (elem_in e1 ev (Term.int_eval j) A.1).2, e5]
theorem own_elem_int {Z : State} {args : Array Value} {ts : Term} {j k : Int32} {x : Addr} {c : Cell} {ty : FieldType} (A : Arr Z Z.heap x c ty) (ev : ts.eval args Z none [] Z = some (.ref x)) (h : (Jvm.Cond.eq (.elem ts (.int j)) (.int k)).value args Z none Z [] = some true) (i : Nat) (hi : j.toNatClampNeg = i) : c.slots[i]? = some (.int k) := by
  obtain ⟨u, w, e1, e2, k1, k2⟩ := cmp_v (Or.inl h)
  have e3 : w = .int k := (Option.some.inj (e2.symm.trans (Term.int_eval k)))
  subst e3
  obtain ⟨z, rfl⟩ : ∃ z, u = .int z := k2
  have e5 : z = k := by simpa [Cond.value, e1, e2] using h
  rw [← hi, (elem_in e1 ev (Term.int_eval j) A.1).2, e5]
theorem own_sub {Z : State} {args : Array Value} {j k : Int32} (nn : ¬ j < 0) : (Term.sub (Term.index 0) (Term.int k)).eval args Z none [j.toNatClampNeg] Z = some (.int (j - k)) := by
  have e1 : (Term.index 0).eval args Z none [j.toNatClampNeg] Z = some (.int j) := idx_at nn
  have e2 : (Term.int k).eval args Z none [j.toNatClampNeg] Z = some (.int k) := Term.int_eval k
  simp [Term.eval] at e1 e2 ⊢
  simp [e1]
theorem own_ne_int {a b : Int32} (h : a ≠ b) : Value.int a ≠ Value.int b := fun q => h (Value.int.inj q)

theorem d1_0 : decode method_2_code 0 = .ok (.aload_n 0, 1) := by decide +kernel
theorem d1_1 : decode method_2_code 1 = .ok (.iload_n 1, 1) := by decide +kernel
theorem d1_2 : decode method_2_code 2 = .ok (.lload_n 2, 1) := by decide +kernel
theorem d1_3 : decode method_2_code 3 = .ok (.bipush 56, 2) := by decide +kernel
theorem d1_5 : decode method_2_code 5 = .ok (.lushr, 1) := by decide +kernel
theorem d1_6 : decode method_2_code 6 = .ok (.l2i, 1) := by decide +kernel
theorem d1_7 : decode method_2_code 7 = .ok (.i2b, 1) := by decide +kernel
theorem d1_8 : decode method_2_code 8 = .ok (.bastore, 1) := by decide +kernel
theorem d1_9 : decode method_2_code 9 = .ok (.aload_n 0, 1) := by decide +kernel
theorem d1_10 : decode method_2_code 10 = .ok (.iload_n 1, 1) := by decide +kernel
theorem d1_11 : decode method_2_code 11 = .ok (.iconst 1, 1) := by decide +kernel
theorem d1_12 : decode method_2_code 12 = .ok (.iadd, 1) := by decide +kernel
theorem d1_13 : decode method_2_code 13 = .ok (.lload_n 2, 1) := by decide +kernel
theorem d1_14 : decode method_2_code 14 = .ok (.bipush 48, 2) := by decide +kernel
theorem d1_16 : decode method_2_code 16 = .ok (.lushr, 1) := by decide +kernel
theorem d1_17 : decode method_2_code 17 = .ok (.l2i, 1) := by decide +kernel
theorem d1_18 : decode method_2_code 18 = .ok (.i2b, 1) := by decide +kernel
theorem d1_19 : decode method_2_code 19 = .ok (.bastore, 1) := by decide +kernel
theorem d1_20 : decode method_2_code 20 = .ok (.aload_n 0, 1) := by decide +kernel
theorem d1_21 : decode method_2_code 21 = .ok (.iload_n 1, 1) := by decide +kernel
theorem d1_22 : decode method_2_code 22 = .ok (.iconst 2, 1) := by decide +kernel
theorem d1_23 : decode method_2_code 23 = .ok (.iadd, 1) := by decide +kernel
theorem d1_24 : decode method_2_code 24 = .ok (.lload_n 2, 1) := by decide +kernel
theorem d1_25 : decode method_2_code 25 = .ok (.bipush 40, 2) := by decide +kernel
theorem d1_27 : decode method_2_code 27 = .ok (.lushr, 1) := by decide +kernel
theorem d1_28 : decode method_2_code 28 = .ok (.l2i, 1) := by decide +kernel
theorem d1_29 : decode method_2_code 29 = .ok (.i2b, 1) := by decide +kernel
theorem d1_30 : decode method_2_code 30 = .ok (.bastore, 1) := by decide +kernel
theorem d1_31 : decode method_2_code 31 = .ok (.aload_n 0, 1) := by decide +kernel
theorem d1_32 : decode method_2_code 32 = .ok (.iload_n 1, 1) := by decide +kernel
theorem d1_33 : decode method_2_code 33 = .ok (.iconst 3, 1) := by decide +kernel
theorem d1_34 : decode method_2_code 34 = .ok (.iadd, 1) := by decide +kernel
theorem d1_35 : decode method_2_code 35 = .ok (.lload_n 2, 1) := by decide +kernel
theorem d1_36 : decode method_2_code 36 = .ok (.bipush 32, 2) := by decide +kernel
theorem d1_38 : decode method_2_code 38 = .ok (.lushr, 1) := by decide +kernel
theorem d1_39 : decode method_2_code 39 = .ok (.l2i, 1) := by decide +kernel
theorem d1_40 : decode method_2_code 40 = .ok (.i2b, 1) := by decide +kernel
theorem d1_41 : decode method_2_code 41 = .ok (.bastore, 1) := by decide +kernel
theorem d1_42 : decode method_2_code 42 = .ok (.aload_n 0, 1) := by decide +kernel
theorem d1_43 : decode method_2_code 43 = .ok (.iload_n 1, 1) := by decide +kernel
theorem d1_44 : decode method_2_code 44 = .ok (.iconst 4, 1) := by decide +kernel
theorem d1_45 : decode method_2_code 45 = .ok (.iadd, 1) := by decide +kernel
theorem d1_46 : decode method_2_code 46 = .ok (.lload_n 2, 1) := by decide +kernel
theorem d1_47 : decode method_2_code 47 = .ok (.bipush 24, 2) := by decide +kernel
theorem d1_49 : decode method_2_code 49 = .ok (.lushr, 1) := by decide +kernel
theorem d1_50 : decode method_2_code 50 = .ok (.l2i, 1) := by decide +kernel
theorem d1_51 : decode method_2_code 51 = .ok (.i2b, 1) := by decide +kernel
theorem d1_52 : decode method_2_code 52 = .ok (.bastore, 1) := by decide +kernel
theorem d1_53 : decode method_2_code 53 = .ok (.aload_n 0, 1) := by decide +kernel
theorem d1_54 : decode method_2_code 54 = .ok (.iload_n 1, 1) := by decide +kernel
theorem d1_55 : decode method_2_code 55 = .ok (.iconst 5, 1) := by decide +kernel
theorem d1_56 : decode method_2_code 56 = .ok (.iadd, 1) := by decide +kernel
theorem d1_57 : decode method_2_code 57 = .ok (.lload_n 2, 1) := by decide +kernel
theorem d1_58 : decode method_2_code 58 = .ok (.bipush 16, 2) := by decide +kernel
theorem d1_60 : decode method_2_code 60 = .ok (.lushr, 1) := by decide +kernel
theorem d1_61 : decode method_2_code 61 = .ok (.l2i, 1) := by decide +kernel
theorem d1_62 : decode method_2_code 62 = .ok (.i2b, 1) := by decide +kernel
theorem d1_63 : decode method_2_code 63 = .ok (.bastore, 1) := by decide +kernel
theorem d1_64 : decode method_2_code 64 = .ok (.aload_n 0, 1) := by decide +kernel
theorem d1_65 : decode method_2_code 65 = .ok (.iload_n 1, 1) := by decide +kernel
theorem d1_66 : decode method_2_code 66 = .ok (.bipush 6, 2) := by decide +kernel
theorem d1_68 : decode method_2_code 68 = .ok (.iadd, 1) := by decide +kernel
theorem d1_69 : decode method_2_code 69 = .ok (.lload_n 2, 1) := by decide +kernel
theorem d1_70 : decode method_2_code 70 = .ok (.bipush 8, 2) := by decide +kernel
theorem d1_72 : decode method_2_code 72 = .ok (.lushr, 1) := by decide +kernel
theorem d1_73 : decode method_2_code 73 = .ok (.l2i, 1) := by decide +kernel
theorem d1_74 : decode method_2_code 74 = .ok (.i2b, 1) := by decide +kernel
theorem d1_75 : decode method_2_code 75 = .ok (.bastore, 1) := by decide +kernel
theorem d1_76 : decode method_2_code 76 = .ok (.aload_n 0, 1) := by decide +kernel
theorem d1_77 : decode method_2_code 77 = .ok (.iload_n 1, 1) := by decide +kernel
theorem d1_78 : decode method_2_code 78 = .ok (.bipush 7, 2) := by decide +kernel
theorem d1_80 : decode method_2_code 80 = .ok (.iadd, 1) := by decide +kernel
theorem d1_81 : decode method_2_code 81 = .ok (.lload_n 2, 1) := by decide +kernel
theorem d1_82 : decode method_2_code 82 = .ok (.l2i, 1) := by decide +kernel
theorem d1_83 : decode method_2_code 83 = .ok (.i2b, 1) := by decide +kernel
theorem d1_84 : decode method_2_code 84 = .ok (.bastore, 1) := by decide +kernel
theorem d1_85 : decode method_2_code 85 = .ok (.return_, 1) := by decide +kernel
theorem ef_1_RIJ (m : MethodId) (x0 : Addr) (x1 : Int32) (x2 : Int64) : entryFrame m #[(.ref x0), (.int x1), (.long x2)] 4 = mkF m 0 #[.val (.ref x0), .val (.int x1), .val (.long x2), .second] [] := by first | (simp [entryFrame, mkF, argsToLocals, Value.category]; done) | rfl
theorem pn_1 : plainName "com/example/lasting_names/lastingnames/Ed25519SubjectPublicKeyInfoPinLaw" = true := by first | (simp [plainName, overriddenIn]; done) | decide +kernel
def Q1_1 (Z : State) (a1 : Addr) (q2 : Int64) (k_a1 : ClassId) (h0 : Heap) (n0 : Nat) (v : Option Value) (h : Heap) (L : List Loc) : Prop := v = none ∧ Fr n0 L ∧ Keep h0 h [a1] ∧ Arv Z h a1 k_a1 .byte (32 : Int32) [(.int ((((q2.toUInt64 >>> ((56 : Int32) &&& 0x3f).toInt64.toUInt64).toInt64).toInt32).toInt8.toInt32)), (.int ((((q2.toUInt64 >>> ((48 : Int32) &&& 0x3f).toInt64.toUInt64).toInt64).toInt32).toInt8.toInt32)), (.int ((((q2.toUInt64 >>> ((40 : Int32) &&& 0x3f).toInt64.toUInt64).toInt64).toInt32).toInt8.toInt32)), (.int ((((q2.toUInt64 >>> ((32 : Int32) &&& 0x3f).toInt64.toUInt64).toInt64).toInt32).toInt8.toInt32)), (.int ((((q2.toUInt64 >>> ((24 : Int32) &&& 0x3f).toInt64.toUInt64).toInt64).toInt32).toInt8.toInt32)), (.int ((((q2.toUInt64 >>> ((16 : Int32) &&& 0x3f).toInt64.toUInt64).toInt64).toInt32).toInt8.toInt32)), (.int ((((q2.toUInt64 >>> ((8 : Int32) &&& 0x3f).toInt64.toUInt64).toInt64).toInt32).toInt8.toInt32)), (.int ((q2.toInt32).toInt8.toInt32)), (.int (0 : Int32)), (.int (0 : Int32)), (.int (0 : Int32)), (.int (0 : Int32)), (.int (0 : Int32)), (.int (0 : Int32)), (.int (0 : Int32)), (.int (0 : Int32)), (.int (0 : Int32)), (.int (0 : Int32)), (.int (0 : Int32)), (.int (0 : Int32)), (.int (0 : Int32)), (.int (0 : Int32)), (.int (0 : Int32)), (.int (0 : Int32)), (.int (0 : Int32)), (.int (0 : Int32)), (.int (0 : Int32)), (.int (0 : Int32)), (.int (0 : Int32)), (.int (0 : Int32)), (.int (0 : Int32)), (.int (0 : Int32))] (.int (0 : Int32))
set_option maxRecDepth 65536 in
set_option maxHeartbeats 40000000 in
theorem rm1_1 (l : Launch) (Z : State) (a0 : Array Value) (hw : ∀ d ∈ tables_1, d.before a0 Z = true) (ws : List Jvm.Cond) (a1 : Addr) (q2 : Int64) (k_a1 : ClassId) (h0 : Heap) (n0 : Nat) (Z0 : n0 ≤ h0.size) (V_a1 : Arv Z h0 a1 k_a1 .byte (32 : Int32) [(.int (0 : Int32)), (.int (0 : Int32)), (.int (0 : Int32)), (.int (0 : Int32)), (.int (0 : Int32)), (.int (0 : Int32)), (.int (0 : Int32)), (.int (0 : Int32)), (.int (0 : Int32)), (.int (0 : Int32)), (.int (0 : Int32)), (.int (0 : Int32)), (.int (0 : Int32)), (.int (0 : Int32)), (.int (0 : Int32)), (.int (0 : Int32)), (.int (0 : Int32)), (.int (0 : Int32)), (.int (0 : Int32)), (.int (0 : Int32)), (.int (0 : Int32)), (.int (0 : Int32)), (.int (0 : Int32)), (.int (0 : Int32)), (.int (0 : Int32)), (.int (0 : Int32)), (.int (0 : Int32)), (.int (0 : Int32)), (.int (0 : Int32)), (.int (0 : Int32)), (.int (0 : Int32)), (.int (0 : Int32))] (.int (0 : Int32))) (g_a1 : n0 ≤ a1) :
    MetFree l (⟨"com/example/lasting_names/lastingnames/Ed25519SubjectPublicKeyInfoPinLaw", "put", "([BIJ)V"⟩ : MethodName) (head1 (Jvm.Cond.code (⟨"com/example/lasting_names/lastingnames/Ed25519SubjectPublicKeyInfoPinLaw", "put", "([BIJ)V"⟩ : MethodName) method_2_code 4 none :: ws) ({ frames := 0, cells := 0, slots := 0, locals := 0 } : Room)) (fun a U => a = #[(.ref a1), (.int (0 : Int32)), (.long q2)] ∧ Z.Warmed39 U.vm ∧ U.heap = h0) (fun _ _ _ _ _ => True) (fun _ U o U' => ∃ v L, o = .returned v ∧ Q1_1 Z a1 q2 k_a1 h0 n0 v U'.heap L ∧ FrameEnd U o U' L ({ frames := 0, cells := 0, slots := 0, locals := 0 } : Room).cells ({ frames := 0, cells := 0, slots := 0, locals := 0 } : Room).slots) := by
  refine MetFree.of_bodySF (plainFor_of_name pn_1) hisR ?_
  intro p e s m args below meth c s₁ Bd hml0 hP hK
  obtain ⟨rfl, hZ, hh⟩ := hP
  have hx := Bd.exec
  have hby := Bd.bytes
  have hml : c.maxLocals = 4 := hml0
  have hown : s.vm.findClass "com/example/lasting_names/lastingnames/Ed25519SubjectPublicKeyInfoPinLaw" = some m.cls := findClass_of_methodNamed Bd.named
  have hnm := (name_of_methodNamed Bd.named Bd.method).1
  have X0 : Stand p l e ({ frames := 0, cells := 0, slots := 0, locals := 0 } : Room) s m #[(.ref a1), (.int (0 : Int32)), (.long q2)] below meth c s₁ [] 0 0 := Stand.of_body Bd
  have e0 : s₁.heap = h0 := by rw [← hh, Bd.state]; rfl
  have N0 := Fr.nil n0
  have pre0 : ∀ t, Steps p.tables e below (s₁.setTop (mkF m 0 #[.val (.ref a1), .val (.int (0 : Int32)), .val (.long q2), .second] [])) t → Steps p.tables e below (s₁.setTop (entryFrame m #[(.ref a1), (.int (0 : Int32)), (.long q2)] 4)) t := fun t k => castTop (ef_1_RIJ m a1 (0 : Int32) q2) k
  obtain ⟨cl3, Ar3, q3, S3, N_3, H3, G3⟩ := id V_a1
  have hin3 : ¬ ((0 : Int32) < 0 ∨ cl3.slots.size ≤ ((0 : Int32)).toNatClampNeg) := inb_of S3 ⟨by decide, (by decide : (0 : Int32) < (32 : Int32))⟩
  obtain ⟨T4, h4, X4, e4, W4, st4⟩ := stB X0 hx hZ e0 Ar3 (j := (0 : Int32)) hin3 (g := (mkF m 8 #[.val (.ref a1), .val (.int (0 : Int32)), .val (.long q2), .second] [(.int ((((q2.toUInt64 >>> ((56 : Int32) &&& 0x3f).toInt64.toUInt64).toInt64).toInt32).toInt8.toInt32)), (.int (0 : Int32)), (.ref a1)])) rfl rfl (hb hby d1_8)
  rw [own_b8] at W4
  have K0_4 : Keep h0 h4 [a1] := (Keep.refl h0 [a1]).wr W4 (Or.inl (List.mem_of_getElem? (i := 0) rfl))
  have N4 := Fr.snoc X4 N0 g_a1
  have Z4 : n0 ≤ h4.size := Nat.le_trans Z0 (Keep.of_wr W4).1
  have V4 : Arv Z h4 a1 k_a1 .byte (32 : Int32) [(.int ((((q2.toUInt64 >>> ((56 : Int32) &&& 0x3f).toInt64.toUInt64).toInt64).toInt32).toInt8.toInt32)), (.int (0 : Int32)), (.int (0 : Int32)), (.int (0 : Int32)), (.int (0 : Int32)), (.int (0 : Int32)), (.int (0 : Int32)), (.int (0 : Int32)), (.int (0 : Int32)), (.int (0 : Int32)), (.int (0 : Int32)), (.int (0 : Int32)), (.int (0 : Int32)), (.int (0 : Int32)), (.int (0 : Int32)), (.int (0 : Int32)), (.int (0 : Int32)), (.int (0 : Int32)), (.int (0 : Int32)), (.int (0 : Int32)), (.int (0 : Int32)), (.int (0 : Int32)), (.int (0 : Int32)), (.int (0 : Int32)), (.int (0 : Int32)), (.int (0 : Int32)), (.int (0 : Int32)), (.int (0 : Int32)), (.int (0 : Int32)), (.int (0 : Int32)), (.int (0 : Int32)), (.int (0 : Int32))] (.int (0 : Int32)) := Arv.set Ar3 q3 S3 N_3 H3 G3 (fits_nar_byte _) W4 0 rfl (Nat.le_of_ble_eq_true rfl)
  obtain ⟨cl5, Ar5, q5, S5, N_5, H5, G5⟩ := id V4
  have hin5 : ¬ ((1 : Int32) < 0 ∨ cl5.slots.size ≤ ((1 : Int32)).toNatClampNeg) := inb_of S5 ⟨by decide, (by decide : (1 : Int32) < (32 : Int32))⟩
  obtain ⟨T6, h6, X6, e6, W6, st6⟩ := stB X4 hx hZ e4 Ar5 (j := (1 : Int32)) hin5 (g := (mkF m 19 #[.val (.ref a1), .val (.int (0 : Int32)), .val (.long q2), .second] [(.int ((((q2.toUInt64 >>> ((48 : Int32) &&& 0x3f).toInt64.toUInt64).toInt64).toInt32).toInt8.toInt32)), (.int (1 : Int32)), (.ref a1)])) rfl rfl (hb hby d1_19)
  rw [own_b8] at W6
  have K0_6 : Keep h0 h6 [a1] := K0_4.wr W6 (Or.inl (List.mem_of_getElem? (i := 0) rfl))
  have N6 := Fr.snoc X6 N4 g_a1
  have Z6 : n0 ≤ h6.size := Nat.le_trans Z4 (Keep.of_wr W6).1
  have V6 : Arv Z h6 a1 k_a1 .byte (32 : Int32) [(.int ((((q2.toUInt64 >>> ((56 : Int32) &&& 0x3f).toInt64.toUInt64).toInt64).toInt32).toInt8.toInt32)), (.int ((((q2.toUInt64 >>> ((48 : Int32) &&& 0x3f).toInt64.toUInt64).toInt64).toInt32).toInt8.toInt32)), (.int (0 : Int32)), (.int (0 : Int32)), (.int (0 : Int32)), (.int (0 : Int32)), (.int (0 : Int32)), (.int (0 : Int32)), (.int (0 : Int32)), (.int (0 : Int32)), (.int (0 : Int32)), (.int (0 : Int32)), (.int (0 : Int32)), (.int (0 : Int32)), (.int (0 : Int32)), (.int (0 : Int32)), (.int (0 : Int32)), (.int (0 : Int32)), (.int (0 : Int32)), (.int (0 : Int32)), (.int (0 : Int32)), (.int (0 : Int32)), (.int (0 : Int32)), (.int (0 : Int32)), (.int (0 : Int32)), (.int (0 : Int32)), (.int (0 : Int32)), (.int (0 : Int32)), (.int (0 : Int32)), (.int (0 : Int32)), (.int (0 : Int32)), (.int (0 : Int32))] (.int (0 : Int32)) := Arv.set Ar5 q5 S5 N_5 H5 G5 (fits_nar_byte _) W6 1 rfl (Nat.le_of_ble_eq_true rfl)
  obtain ⟨cl7, Ar7, q7, S7, N_7, H7, G7⟩ := id V6
  have hin7 : ¬ ((2 : Int32) < 0 ∨ cl7.slots.size ≤ ((2 : Int32)).toNatClampNeg) := inb_of S7 ⟨by decide, (by decide : (2 : Int32) < (32 : Int32))⟩
  obtain ⟨T8, h8, X8, e8, W8, st8⟩ := stB X6 hx hZ e6 Ar7 (j := (2 : Int32)) hin7 (g := (mkF m 30 #[.val (.ref a1), .val (.int (0 : Int32)), .val (.long q2), .second] [(.int ((((q2.toUInt64 >>> ((40 : Int32) &&& 0x3f).toInt64.toUInt64).toInt64).toInt32).toInt8.toInt32)), (.int (2 : Int32)), (.ref a1)])) rfl rfl (hb hby d1_30)
  rw [own_b8] at W8
  have K0_8 : Keep h0 h8 [a1] := K0_6.wr W8 (Or.inl (List.mem_of_getElem? (i := 0) rfl))
  have N8 := Fr.snoc X8 N6 g_a1
  have Z8 : n0 ≤ h8.size := Nat.le_trans Z6 (Keep.of_wr W8).1
  have V8 : Arv Z h8 a1 k_a1 .byte (32 : Int32) [(.int ((((q2.toUInt64 >>> ((56 : Int32) &&& 0x3f).toInt64.toUInt64).toInt64).toInt32).toInt8.toInt32)), (.int ((((q2.toUInt64 >>> ((48 : Int32) &&& 0x3f).toInt64.toUInt64).toInt64).toInt32).toInt8.toInt32)), (.int ((((q2.toUInt64 >>> ((40 : Int32) &&& 0x3f).toInt64.toUInt64).toInt64).toInt32).toInt8.toInt32)), (.int (0 : Int32)), (.int (0 : Int32)), (.int (0 : Int32)), (.int (0 : Int32)), (.int (0 : Int32)), (.int (0 : Int32)), (.int (0 : Int32)), (.int (0 : Int32)), (.int (0 : Int32)), (.int (0 : Int32)), (.int (0 : Int32)), (.int (0 : Int32)), (.int (0 : Int32)), (.int (0 : Int32)), (.int (0 : Int32)), (.int (0 : Int32)), (.int (0 : Int32)), (.int (0 : Int32)), (.int (0 : Int32)), (.int (0 : Int32)), (.int (0 : Int32)), (.int (0 : Int32)), (.int (0 : Int32)), (.int (0 : Int32)), (.int (0 : Int32)), (.int (0 : Int32)), (.int (0 : Int32)), (.int (0 : Int32)), (.int (0 : Int32))] (.int (0 : Int32)) := Arv.set Ar7 q7 S7 N_7 H7 G7 (fits_nar_byte _) W8 2 rfl (Nat.le_of_ble_eq_true rfl)
  obtain ⟨cl9, Ar9, q9, S9, N_9, H9, G9⟩ := id V8
  have hin9 : ¬ ((3 : Int32) < 0 ∨ cl9.slots.size ≤ ((3 : Int32)).toNatClampNeg) := inb_of S9 ⟨by decide, (by decide : (3 : Int32) < (32 : Int32))⟩
  obtain ⟨T10, h10, X10, e10, W10, st10⟩ := stB X8 hx hZ e8 Ar9 (j := (3 : Int32)) hin9 (g := (mkF m 41 #[.val (.ref a1), .val (.int (0 : Int32)), .val (.long q2), .second] [(.int ((((q2.toUInt64 >>> ((32 : Int32) &&& 0x3f).toInt64.toUInt64).toInt64).toInt32).toInt8.toInt32)), (.int (3 : Int32)), (.ref a1)])) rfl rfl (hb hby d1_41)
  rw [own_b8] at W10
  have K0_10 : Keep h0 h10 [a1] := K0_8.wr W10 (Or.inl (List.mem_of_getElem? (i := 0) rfl))
  have N10 := Fr.snoc X10 N8 g_a1
  have Z10 : n0 ≤ h10.size := Nat.le_trans Z8 (Keep.of_wr W10).1
  have V10 : Arv Z h10 a1 k_a1 .byte (32 : Int32) [(.int ((((q2.toUInt64 >>> ((56 : Int32) &&& 0x3f).toInt64.toUInt64).toInt64).toInt32).toInt8.toInt32)), (.int ((((q2.toUInt64 >>> ((48 : Int32) &&& 0x3f).toInt64.toUInt64).toInt64).toInt32).toInt8.toInt32)), (.int ((((q2.toUInt64 >>> ((40 : Int32) &&& 0x3f).toInt64.toUInt64).toInt64).toInt32).toInt8.toInt32)), (.int ((((q2.toUInt64 >>> ((32 : Int32) &&& 0x3f).toInt64.toUInt64).toInt64).toInt32).toInt8.toInt32)), (.int (0 : Int32)), (.int (0 : Int32)), (.int (0 : Int32)), (.int (0 : Int32)), (.int (0 : Int32)), (.int (0 : Int32)), (.int (0 : Int32)), (.int (0 : Int32)), (.int (0 : Int32)), (.int (0 : Int32)), (.int (0 : Int32)), (.int (0 : Int32)), (.int (0 : Int32)), (.int (0 : Int32)), (.int (0 : Int32)), (.int (0 : Int32)), (.int (0 : Int32)), (.int (0 : Int32)), (.int (0 : Int32)), (.int (0 : Int32)), (.int (0 : Int32)), (.int (0 : Int32)), (.int (0 : Int32)), (.int (0 : Int32)), (.int (0 : Int32)), (.int (0 : Int32)), (.int (0 : Int32)), (.int (0 : Int32))] (.int (0 : Int32)) := Arv.set Ar9 q9 S9 N_9 H9 G9 (fits_nar_byte _) W10 3 rfl (Nat.le_of_ble_eq_true rfl)
  obtain ⟨cl11, Ar11, q11, S11, N_11, H11, G11⟩ := id V10
  have hin11 : ¬ ((4 : Int32) < 0 ∨ cl11.slots.size ≤ ((4 : Int32)).toNatClampNeg) := inb_of S11 ⟨by decide, (by decide : (4 : Int32) < (32 : Int32))⟩
  obtain ⟨T12, h12, X12, e12, W12, st12⟩ := stB X10 hx hZ e10 Ar11 (j := (4 : Int32)) hin11 (g := (mkF m 52 #[.val (.ref a1), .val (.int (0 : Int32)), .val (.long q2), .second] [(.int ((((q2.toUInt64 >>> ((24 : Int32) &&& 0x3f).toInt64.toUInt64).toInt64).toInt32).toInt8.toInt32)), (.int (4 : Int32)), (.ref a1)])) rfl rfl (hb hby d1_52)
  rw [own_b8] at W12
  have K0_12 : Keep h0 h12 [a1] := K0_10.wr W12 (Or.inl (List.mem_of_getElem? (i := 0) rfl))
  have N12 := Fr.snoc X12 N10 g_a1
  have Z12 : n0 ≤ h12.size := Nat.le_trans Z10 (Keep.of_wr W12).1
  have V12 : Arv Z h12 a1 k_a1 .byte (32 : Int32) [(.int ((((q2.toUInt64 >>> ((56 : Int32) &&& 0x3f).toInt64.toUInt64).toInt64).toInt32).toInt8.toInt32)), (.int ((((q2.toUInt64 >>> ((48 : Int32) &&& 0x3f).toInt64.toUInt64).toInt64).toInt32).toInt8.toInt32)), (.int ((((q2.toUInt64 >>> ((40 : Int32) &&& 0x3f).toInt64.toUInt64).toInt64).toInt32).toInt8.toInt32)), (.int ((((q2.toUInt64 >>> ((32 : Int32) &&& 0x3f).toInt64.toUInt64).toInt64).toInt32).toInt8.toInt32)), (.int ((((q2.toUInt64 >>> ((24 : Int32) &&& 0x3f).toInt64.toUInt64).toInt64).toInt32).toInt8.toInt32)), (.int (0 : Int32)), (.int (0 : Int32)), (.int (0 : Int32)), (.int (0 : Int32)), (.int (0 : Int32)), (.int (0 : Int32)), (.int (0 : Int32)), (.int (0 : Int32)), (.int (0 : Int32)), (.int (0 : Int32)), (.int (0 : Int32)), (.int (0 : Int32)), (.int (0 : Int32)), (.int (0 : Int32)), (.int (0 : Int32)), (.int (0 : Int32)), (.int (0 : Int32)), (.int (0 : Int32)), (.int (0 : Int32)), (.int (0 : Int32)), (.int (0 : Int32)), (.int (0 : Int32)), (.int (0 : Int32)), (.int (0 : Int32)), (.int (0 : Int32)), (.int (0 : Int32)), (.int (0 : Int32))] (.int (0 : Int32)) := Arv.set Ar11 q11 S11 N_11 H11 G11 (fits_nar_byte _) W12 4 rfl (Nat.le_of_ble_eq_true rfl)
  obtain ⟨cl13, Ar13, q13, S13, N_13, H13, G13⟩ := id V12
  have hin13 : ¬ ((5 : Int32) < 0 ∨ cl13.slots.size ≤ ((5 : Int32)).toNatClampNeg) := inb_of S13 ⟨by decide, (by decide : (5 : Int32) < (32 : Int32))⟩
  obtain ⟨T14, h14, X14, e14, W14, st14⟩ := stB X12 hx hZ e12 Ar13 (j := (5 : Int32)) hin13 (g := (mkF m 63 #[.val (.ref a1), .val (.int (0 : Int32)), .val (.long q2), .second] [(.int ((((q2.toUInt64 >>> ((16 : Int32) &&& 0x3f).toInt64.toUInt64).toInt64).toInt32).toInt8.toInt32)), (.int (5 : Int32)), (.ref a1)])) rfl rfl (hb hby d1_63)
  rw [own_b8] at W14
  have K0_14 : Keep h0 h14 [a1] := K0_12.wr W14 (Or.inl (List.mem_of_getElem? (i := 0) rfl))
  have N14 := Fr.snoc X14 N12 g_a1
  have Z14 : n0 ≤ h14.size := Nat.le_trans Z12 (Keep.of_wr W14).1
  have V14 : Arv Z h14 a1 k_a1 .byte (32 : Int32) [(.int ((((q2.toUInt64 >>> ((56 : Int32) &&& 0x3f).toInt64.toUInt64).toInt64).toInt32).toInt8.toInt32)), (.int ((((q2.toUInt64 >>> ((48 : Int32) &&& 0x3f).toInt64.toUInt64).toInt64).toInt32).toInt8.toInt32)), (.int ((((q2.toUInt64 >>> ((40 : Int32) &&& 0x3f).toInt64.toUInt64).toInt64).toInt32).toInt8.toInt32)), (.int ((((q2.toUInt64 >>> ((32 : Int32) &&& 0x3f).toInt64.toUInt64).toInt64).toInt32).toInt8.toInt32)), (.int ((((q2.toUInt64 >>> ((24 : Int32) &&& 0x3f).toInt64.toUInt64).toInt64).toInt32).toInt8.toInt32)), (.int ((((q2.toUInt64 >>> ((16 : Int32) &&& 0x3f).toInt64.toUInt64).toInt64).toInt32).toInt8.toInt32)), (.int (0 : Int32)), (.int (0 : Int32)), (.int (0 : Int32)), (.int (0 : Int32)), (.int (0 : Int32)), (.int (0 : Int32)), (.int (0 : Int32)), (.int (0 : Int32)), (.int (0 : Int32)), (.int (0 : Int32)), (.int (0 : Int32)), (.int (0 : Int32)), (.int (0 : Int32)), (.int (0 : Int32)), (.int (0 : Int32)), (.int (0 : Int32)), (.int (0 : Int32)), (.int (0 : Int32)), (.int (0 : Int32)), (.int (0 : Int32)), (.int (0 : Int32)), (.int (0 : Int32)), (.int (0 : Int32)), (.int (0 : Int32)), (.int (0 : Int32)), (.int (0 : Int32))] (.int (0 : Int32)) := Arv.set Ar13 q13 S13 N_13 H13 G13 (fits_nar_byte _) W14 5 rfl (Nat.le_of_ble_eq_true rfl)
  obtain ⟨cl15, Ar15, q15, S15, N_15, H15, G15⟩ := id V14
  have hin15 : ¬ ((6 : Int32) < 0 ∨ cl15.slots.size ≤ ((6 : Int32)).toNatClampNeg) := inb_of S15 ⟨by decide, (by decide : (6 : Int32) < (32 : Int32))⟩
  obtain ⟨T16, h16, X16, e16, W16, st16⟩ := stB X14 hx hZ e14 Ar15 (j := (6 : Int32)) hin15 (g := (mkF m 75 #[.val (.ref a1), .val (.int (0 : Int32)), .val (.long q2), .second] [(.int ((((q2.toUInt64 >>> ((8 : Int32) &&& 0x3f).toInt64.toUInt64).toInt64).toInt32).toInt8.toInt32)), (.int (6 : Int32)), (.ref a1)])) rfl rfl (hb hby d1_75)
  rw [own_b8] at W16
  have K0_16 : Keep h0 h16 [a1] := K0_14.wr W16 (Or.inl (List.mem_of_getElem? (i := 0) rfl))
  have N16 := Fr.snoc X16 N14 g_a1
  have Z16 : n0 ≤ h16.size := Nat.le_trans Z14 (Keep.of_wr W16).1
  have V16 : Arv Z h16 a1 k_a1 .byte (32 : Int32) [(.int ((((q2.toUInt64 >>> ((56 : Int32) &&& 0x3f).toInt64.toUInt64).toInt64).toInt32).toInt8.toInt32)), (.int ((((q2.toUInt64 >>> ((48 : Int32) &&& 0x3f).toInt64.toUInt64).toInt64).toInt32).toInt8.toInt32)), (.int ((((q2.toUInt64 >>> ((40 : Int32) &&& 0x3f).toInt64.toUInt64).toInt64).toInt32).toInt8.toInt32)), (.int ((((q2.toUInt64 >>> ((32 : Int32) &&& 0x3f).toInt64.toUInt64).toInt64).toInt32).toInt8.toInt32)), (.int ((((q2.toUInt64 >>> ((24 : Int32) &&& 0x3f).toInt64.toUInt64).toInt64).toInt32).toInt8.toInt32)), (.int ((((q2.toUInt64 >>> ((16 : Int32) &&& 0x3f).toInt64.toUInt64).toInt64).toInt32).toInt8.toInt32)), (.int ((((q2.toUInt64 >>> ((8 : Int32) &&& 0x3f).toInt64.toUInt64).toInt64).toInt32).toInt8.toInt32)), (.int (0 : Int32)), (.int (0 : Int32)), (.int (0 : Int32)), (.int (0 : Int32)), (.int (0 : Int32)), (.int (0 : Int32)), (.int (0 : Int32)), (.int (0 : Int32)), (.int (0 : Int32)), (.int (0 : Int32)), (.int (0 : Int32)), (.int (0 : Int32)), (.int (0 : Int32)), (.int (0 : Int32)), (.int (0 : Int32)), (.int (0 : Int32)), (.int (0 : Int32)), (.int (0 : Int32)), (.int (0 : Int32)), (.int (0 : Int32)), (.int (0 : Int32)), (.int (0 : Int32)), (.int (0 : Int32)), (.int (0 : Int32)), (.int (0 : Int32))] (.int (0 : Int32)) := Arv.set Ar15 q15 S15 N_15 H15 G15 (fits_nar_byte _) W16 6 rfl (Nat.le_of_ble_eq_true rfl)
  obtain ⟨cl17, Ar17, q17, S17, N_17, H17, G17⟩ := id V16
  have hin17 : ¬ ((7 : Int32) < 0 ∨ cl17.slots.size ≤ ((7 : Int32)).toNatClampNeg) := inb_of S17 ⟨by decide, (by decide : (7 : Int32) < (32 : Int32))⟩
  obtain ⟨T18, h18, X18, e18, W18, st18⟩ := stB X16 hx hZ e16 Ar17 (j := (7 : Int32)) hin17 (g := (mkF m 84 #[.val (.ref a1), .val (.int (0 : Int32)), .val (.long q2), .second] [(.int ((q2.toInt32).toInt8.toInt32)), (.int (7 : Int32)), (.ref a1)])) rfl rfl (hb hby d1_84)
  rw [own_b8] at W18
  have K0_18 : Keep h0 h18 [a1] := K0_16.wr W18 (Or.inl (List.mem_of_getElem? (i := 0) rfl))
  have N18 := Fr.snoc X18 N16 g_a1
  have Z18 : n0 ≤ h18.size := Nat.le_trans Z16 (Keep.of_wr W18).1
  have V18 : Arv Z h18 a1 k_a1 .byte (32 : Int32) [(.int ((((q2.toUInt64 >>> ((56 : Int32) &&& 0x3f).toInt64.toUInt64).toInt64).toInt32).toInt8.toInt32)), (.int ((((q2.toUInt64 >>> ((48 : Int32) &&& 0x3f).toInt64.toUInt64).toInt64).toInt32).toInt8.toInt32)), (.int ((((q2.toUInt64 >>> ((40 : Int32) &&& 0x3f).toInt64.toUInt64).toInt64).toInt32).toInt8.toInt32)), (.int ((((q2.toUInt64 >>> ((32 : Int32) &&& 0x3f).toInt64.toUInt64).toInt64).toInt32).toInt8.toInt32)), (.int ((((q2.toUInt64 >>> ((24 : Int32) &&& 0x3f).toInt64.toUInt64).toInt64).toInt32).toInt8.toInt32)), (.int ((((q2.toUInt64 >>> ((16 : Int32) &&& 0x3f).toInt64.toUInt64).toInt64).toInt32).toInt8.toInt32)), (.int ((((q2.toUInt64 >>> ((8 : Int32) &&& 0x3f).toInt64.toUInt64).toInt64).toInt32).toInt8.toInt32)), (.int ((q2.toInt32).toInt8.toInt32)), (.int (0 : Int32)), (.int (0 : Int32)), (.int (0 : Int32)), (.int (0 : Int32)), (.int (0 : Int32)), (.int (0 : Int32)), (.int (0 : Int32)), (.int (0 : Int32)), (.int (0 : Int32)), (.int (0 : Int32)), (.int (0 : Int32)), (.int (0 : Int32)), (.int (0 : Int32)), (.int (0 : Int32)), (.int (0 : Int32)), (.int (0 : Int32)), (.int (0 : Int32)), (.int (0 : Int32)), (.int (0 : Int32)), (.int (0 : Int32)), (.int (0 : Int32)), (.int (0 : Int32)), (.int (0 : Int32)), (.int (0 : Int32))] (.int (0 : Int32)) := Arv.set Ar17 q17 S17 N_17 H17 G17 (fits_nar_byte _) W18 7 rfl (Nat.le_of_ble_eq_true rfl)
  obtain ⟨fs, hr, hrun, hended, hW, hsame⟩ := X18.leave (v := none) (fun _ => rfl)
  refine ⟨_, _, pre0 _ ?_, hrun, hended, _, _, rfl, ?_, ⟨_, rfl⟩, hW, hsame.mono (by decide) (by decide)⟩
  · show Steps p.tables e below (s₁.setTop (mkF m 0 #[.val (.ref a1), .val (.int (0 : Int32)), .val (.long q2), .second] [])) _
    refine XS.aloadN X0.here hx rfl (hb hby d1_0) rfl rfl ?_
    show Steps p.tables e below (s₁.setTop (mkF m 1 #[.val (.ref a1), .val (.int (0 : Int32)), .val (.long q2), .second] [(.ref a1)])) _
    refine XS.iloadN X0.here hx rfl (hb hby d1_1) rfl ?_
    show Steps p.tables e below (s₁.setTop (mkF m 2 #[.val (.ref a1), .val (.int (0 : Int32)), .val (.long q2), .second] [(.int (0 : Int32)), (.ref a1)])) _
    refine XS.lloadN X0.here hx rfl (hb hby d1_2) rfl ?_
    show Steps p.tables e below (s₁.setTop (mkF m 3 #[.val (.ref a1), .val (.int (0 : Int32)), .val (.long q2), .second] [(.long q2), (.int (0 : Int32)), (.ref a1)])) _
    refine XS.bipush X0.here hx rfl (hb hby d1_3) ?_
    show Steps p.tables e below (s₁.setTop (mkF m 5 #[.val (.ref a1), .val (.int (0 : Int32)), .val (.long q2), .second] [(.int (56 : Int32)), (.long q2), (.int (0 : Int32)), (.ref a1)])) _
    refine XS.lushr X0.here hx rfl (hb hby d1_5) rfl ?_
    show Steps p.tables e below (s₁.setTop (mkF m 6 #[.val (.ref a1), .val (.int (0 : Int32)), .val (.long q2), .second] [(.long ((q2.toUInt64 >>> ((56 : Int32) &&& 0x3f).toInt64.toUInt64).toInt64)), (.int (0 : Int32)), (.ref a1)])) _
    refine XS.l2i X0.here hx rfl (hb hby d1_6) rfl ?_
    show Steps p.tables e below (s₁.setTop (mkF m 7 #[.val (.ref a1), .val (.int (0 : Int32)), .val (.long q2), .second] [(.int (((q2.toUInt64 >>> ((56 : Int32) &&& 0x3f).toInt64.toUInt64).toInt64).toInt32)), (.int (0 : Int32)), (.ref a1)])) _
    refine XS.i2b X0.here hx rfl (hb hby d1_7) rfl ?_
    show Steps p.tables e below (s₁.setTop (mkF m 8 #[.val (.ref a1), .val (.int (0 : Int32)), .val (.long q2), .second] [(.int ((((q2.toUInt64 >>> ((56 : Int32) &&& 0x3f).toInt64.toUInt64).toInt64).toInt32).toInt8.toInt32)), (.int (0 : Int32)), (.ref a1)])) _
    refine st4 _ ?_
    show Steps p.tables e below (T4.setTop (mkF m 9 #[.val (.ref a1), .val (.int (0 : Int32)), .val (.long q2), .second] [])) _
    refine XS.aloadN X4.here hx rfl (hb hby d1_9) rfl rfl ?_
    show Steps p.tables e below (T4.setTop (mkF m 10 #[.val (.ref a1), .val (.int (0 : Int32)), .val (.long q2), .second] [(.ref a1)])) _
    refine XS.iloadN X4.here hx rfl (hb hby d1_10) rfl ?_
    show Steps p.tables e below (T4.setTop (mkF m 11 #[.val (.ref a1), .val (.int (0 : Int32)), .val (.long q2), .second] [(.int (0 : Int32)), (.ref a1)])) _
    refine XS.iconst X4.here hx rfl (hb hby d1_11) ?_
    show Steps p.tables e below (T4.setTop (mkF m 12 #[.val (.ref a1), .val (.int (0 : Int32)), .val (.long q2), .second] [(.int (1 : Int32)), (.int (0 : Int32)), (.ref a1)])) _
    refine XS.iadd X4.here hx rfl (hb hby d1_12) rfl ?_
    show Steps p.tables e below (T4.setTop (mkF m 13 #[.val (.ref a1), .val (.int (0 : Int32)), .val (.long q2), .second] [(.int (1 : Int32)), (.ref a1)])) _
    refine XS.lloadN X4.here hx rfl (hb hby d1_13) rfl ?_
    show Steps p.tables e below (T4.setTop (mkF m 14 #[.val (.ref a1), .val (.int (0 : Int32)), .val (.long q2), .second] [(.long q2), (.int (1 : Int32)), (.ref a1)])) _
    refine XS.bipush X4.here hx rfl (hb hby d1_14) ?_
    show Steps p.tables e below (T4.setTop (mkF m 16 #[.val (.ref a1), .val (.int (0 : Int32)), .val (.long q2), .second] [(.int (48 : Int32)), (.long q2), (.int (1 : Int32)), (.ref a1)])) _
    refine XS.lushr X4.here hx rfl (hb hby d1_16) rfl ?_
    show Steps p.tables e below (T4.setTop (mkF m 17 #[.val (.ref a1), .val (.int (0 : Int32)), .val (.long q2), .second] [(.long ((q2.toUInt64 >>> ((48 : Int32) &&& 0x3f).toInt64.toUInt64).toInt64)), (.int (1 : Int32)), (.ref a1)])) _
    refine XS.l2i X4.here hx rfl (hb hby d1_17) rfl ?_
    show Steps p.tables e below (T4.setTop (mkF m 18 #[.val (.ref a1), .val (.int (0 : Int32)), .val (.long q2), .second] [(.int (((q2.toUInt64 >>> ((48 : Int32) &&& 0x3f).toInt64.toUInt64).toInt64).toInt32)), (.int (1 : Int32)), (.ref a1)])) _
    refine XS.i2b X4.here hx rfl (hb hby d1_18) rfl ?_
    show Steps p.tables e below (T4.setTop (mkF m 19 #[.val (.ref a1), .val (.int (0 : Int32)), .val (.long q2), .second] [(.int ((((q2.toUInt64 >>> ((48 : Int32) &&& 0x3f).toInt64.toUInt64).toInt64).toInt32).toInt8.toInt32)), (.int (1 : Int32)), (.ref a1)])) _
    refine st6 _ ?_
    show Steps p.tables e below (T6.setTop (mkF m 20 #[.val (.ref a1), .val (.int (0 : Int32)), .val (.long q2), .second] [])) _
    refine XS.aloadN X6.here hx rfl (hb hby d1_20) rfl rfl ?_
    show Steps p.tables e below (T6.setTop (mkF m 21 #[.val (.ref a1), .val (.int (0 : Int32)), .val (.long q2), .second] [(.ref a1)])) _
    refine XS.iloadN X6.here hx rfl (hb hby d1_21) rfl ?_
    show Steps p.tables e below (T6.setTop (mkF m 22 #[.val (.ref a1), .val (.int (0 : Int32)), .val (.long q2), .second] [(.int (0 : Int32)), (.ref a1)])) _
    refine XS.iconst X6.here hx rfl (hb hby d1_22) ?_
    show Steps p.tables e below (T6.setTop (mkF m 23 #[.val (.ref a1), .val (.int (0 : Int32)), .val (.long q2), .second] [(.int (2 : Int32)), (.int (0 : Int32)), (.ref a1)])) _
    refine XS.iadd X6.here hx rfl (hb hby d1_23) rfl ?_
    show Steps p.tables e below (T6.setTop (mkF m 24 #[.val (.ref a1), .val (.int (0 : Int32)), .val (.long q2), .second] [(.int (2 : Int32)), (.ref a1)])) _
    refine XS.lloadN X6.here hx rfl (hb hby d1_24) rfl ?_
    show Steps p.tables e below (T6.setTop (mkF m 25 #[.val (.ref a1), .val (.int (0 : Int32)), .val (.long q2), .second] [(.long q2), (.int (2 : Int32)), (.ref a1)])) _
    refine XS.bipush X6.here hx rfl (hb hby d1_25) ?_
    show Steps p.tables e below (T6.setTop (mkF m 27 #[.val (.ref a1), .val (.int (0 : Int32)), .val (.long q2), .second] [(.int (40 : Int32)), (.long q2), (.int (2 : Int32)), (.ref a1)])) _
    refine XS.lushr X6.here hx rfl (hb hby d1_27) rfl ?_
    show Steps p.tables e below (T6.setTop (mkF m 28 #[.val (.ref a1), .val (.int (0 : Int32)), .val (.long q2), .second] [(.long ((q2.toUInt64 >>> ((40 : Int32) &&& 0x3f).toInt64.toUInt64).toInt64)), (.int (2 : Int32)), (.ref a1)])) _
    refine XS.l2i X6.here hx rfl (hb hby d1_28) rfl ?_
    show Steps p.tables e below (T6.setTop (mkF m 29 #[.val (.ref a1), .val (.int (0 : Int32)), .val (.long q2), .second] [(.int (((q2.toUInt64 >>> ((40 : Int32) &&& 0x3f).toInt64.toUInt64).toInt64).toInt32)), (.int (2 : Int32)), (.ref a1)])) _
    refine XS.i2b X6.here hx rfl (hb hby d1_29) rfl ?_
    show Steps p.tables e below (T6.setTop (mkF m 30 #[.val (.ref a1), .val (.int (0 : Int32)), .val (.long q2), .second] [(.int ((((q2.toUInt64 >>> ((40 : Int32) &&& 0x3f).toInt64.toUInt64).toInt64).toInt32).toInt8.toInt32)), (.int (2 : Int32)), (.ref a1)])) _
    refine st8 _ ?_
    show Steps p.tables e below (T8.setTop (mkF m 31 #[.val (.ref a1), .val (.int (0 : Int32)), .val (.long q2), .second] [])) _
    refine XS.aloadN X8.here hx rfl (hb hby d1_31) rfl rfl ?_
    show Steps p.tables e below (T8.setTop (mkF m 32 #[.val (.ref a1), .val (.int (0 : Int32)), .val (.long q2), .second] [(.ref a1)])) _
    refine XS.iloadN X8.here hx rfl (hb hby d1_32) rfl ?_
    show Steps p.tables e below (T8.setTop (mkF m 33 #[.val (.ref a1), .val (.int (0 : Int32)), .val (.long q2), .second] [(.int (0 : Int32)), (.ref a1)])) _
    refine XS.iconst X8.here hx rfl (hb hby d1_33) ?_
    show Steps p.tables e below (T8.setTop (mkF m 34 #[.val (.ref a1), .val (.int (0 : Int32)), .val (.long q2), .second] [(.int (3 : Int32)), (.int (0 : Int32)), (.ref a1)])) _
    refine XS.iadd X8.here hx rfl (hb hby d1_34) rfl ?_
    show Steps p.tables e below (T8.setTop (mkF m 35 #[.val (.ref a1), .val (.int (0 : Int32)), .val (.long q2), .second] [(.int (3 : Int32)), (.ref a1)])) _
    refine XS.lloadN X8.here hx rfl (hb hby d1_35) rfl ?_
    show Steps p.tables e below (T8.setTop (mkF m 36 #[.val (.ref a1), .val (.int (0 : Int32)), .val (.long q2), .second] [(.long q2), (.int (3 : Int32)), (.ref a1)])) _
    refine XS.bipush X8.here hx rfl (hb hby d1_36) ?_
    show Steps p.tables e below (T8.setTop (mkF m 38 #[.val (.ref a1), .val (.int (0 : Int32)), .val (.long q2), .second] [(.int (32 : Int32)), (.long q2), (.int (3 : Int32)), (.ref a1)])) _
    refine XS.lushr X8.here hx rfl (hb hby d1_38) rfl ?_
    show Steps p.tables e below (T8.setTop (mkF m 39 #[.val (.ref a1), .val (.int (0 : Int32)), .val (.long q2), .second] [(.long ((q2.toUInt64 >>> ((32 : Int32) &&& 0x3f).toInt64.toUInt64).toInt64)), (.int (3 : Int32)), (.ref a1)])) _
    refine XS.l2i X8.here hx rfl (hb hby d1_39) rfl ?_
    show Steps p.tables e below (T8.setTop (mkF m 40 #[.val (.ref a1), .val (.int (0 : Int32)), .val (.long q2), .second] [(.int (((q2.toUInt64 >>> ((32 : Int32) &&& 0x3f).toInt64.toUInt64).toInt64).toInt32)), (.int (3 : Int32)), (.ref a1)])) _
    refine XS.i2b X8.here hx rfl (hb hby d1_40) rfl ?_
    show Steps p.tables e below (T8.setTop (mkF m 41 #[.val (.ref a1), .val (.int (0 : Int32)), .val (.long q2), .second] [(.int ((((q2.toUInt64 >>> ((32 : Int32) &&& 0x3f).toInt64.toUInt64).toInt64).toInt32).toInt8.toInt32)), (.int (3 : Int32)), (.ref a1)])) _
    refine st10 _ ?_
    show Steps p.tables e below (T10.setTop (mkF m 42 #[.val (.ref a1), .val (.int (0 : Int32)), .val (.long q2), .second] [])) _
    refine XS.aloadN X10.here hx rfl (hb hby d1_42) rfl rfl ?_
    show Steps p.tables e below (T10.setTop (mkF m 43 #[.val (.ref a1), .val (.int (0 : Int32)), .val (.long q2), .second] [(.ref a1)])) _
    refine XS.iloadN X10.here hx rfl (hb hby d1_43) rfl ?_
    show Steps p.tables e below (T10.setTop (mkF m 44 #[.val (.ref a1), .val (.int (0 : Int32)), .val (.long q2), .second] [(.int (0 : Int32)), (.ref a1)])) _
    refine XS.iconst X10.here hx rfl (hb hby d1_44) ?_
    show Steps p.tables e below (T10.setTop (mkF m 45 #[.val (.ref a1), .val (.int (0 : Int32)), .val (.long q2), .second] [(.int (4 : Int32)), (.int (0 : Int32)), (.ref a1)])) _
    refine XS.iadd X10.here hx rfl (hb hby d1_45) rfl ?_
    show Steps p.tables e below (T10.setTop (mkF m 46 #[.val (.ref a1), .val (.int (0 : Int32)), .val (.long q2), .second] [(.int (4 : Int32)), (.ref a1)])) _
    refine XS.lloadN X10.here hx rfl (hb hby d1_46) rfl ?_
    show Steps p.tables e below (T10.setTop (mkF m 47 #[.val (.ref a1), .val (.int (0 : Int32)), .val (.long q2), .second] [(.long q2), (.int (4 : Int32)), (.ref a1)])) _
    refine XS.bipush X10.here hx rfl (hb hby d1_47) ?_
    show Steps p.tables e below (T10.setTop (mkF m 49 #[.val (.ref a1), .val (.int (0 : Int32)), .val (.long q2), .second] [(.int (24 : Int32)), (.long q2), (.int (4 : Int32)), (.ref a1)])) _
    refine XS.lushr X10.here hx rfl (hb hby d1_49) rfl ?_
    show Steps p.tables e below (T10.setTop (mkF m 50 #[.val (.ref a1), .val (.int (0 : Int32)), .val (.long q2), .second] [(.long ((q2.toUInt64 >>> ((24 : Int32) &&& 0x3f).toInt64.toUInt64).toInt64)), (.int (4 : Int32)), (.ref a1)])) _
    refine XS.l2i X10.here hx rfl (hb hby d1_50) rfl ?_
    show Steps p.tables e below (T10.setTop (mkF m 51 #[.val (.ref a1), .val (.int (0 : Int32)), .val (.long q2), .second] [(.int (((q2.toUInt64 >>> ((24 : Int32) &&& 0x3f).toInt64.toUInt64).toInt64).toInt32)), (.int (4 : Int32)), (.ref a1)])) _
    refine XS.i2b X10.here hx rfl (hb hby d1_51) rfl ?_
    show Steps p.tables e below (T10.setTop (mkF m 52 #[.val (.ref a1), .val (.int (0 : Int32)), .val (.long q2), .second] [(.int ((((q2.toUInt64 >>> ((24 : Int32) &&& 0x3f).toInt64.toUInt64).toInt64).toInt32).toInt8.toInt32)), (.int (4 : Int32)), (.ref a1)])) _
    refine st12 _ ?_
    show Steps p.tables e below (T12.setTop (mkF m 53 #[.val (.ref a1), .val (.int (0 : Int32)), .val (.long q2), .second] [])) _
    refine XS.aloadN X12.here hx rfl (hb hby d1_53) rfl rfl ?_
    show Steps p.tables e below (T12.setTop (mkF m 54 #[.val (.ref a1), .val (.int (0 : Int32)), .val (.long q2), .second] [(.ref a1)])) _
    refine XS.iloadN X12.here hx rfl (hb hby d1_54) rfl ?_
    show Steps p.tables e below (T12.setTop (mkF m 55 #[.val (.ref a1), .val (.int (0 : Int32)), .val (.long q2), .second] [(.int (0 : Int32)), (.ref a1)])) _
    refine XS.iconst X12.here hx rfl (hb hby d1_55) ?_
    show Steps p.tables e below (T12.setTop (mkF m 56 #[.val (.ref a1), .val (.int (0 : Int32)), .val (.long q2), .second] [(.int (5 : Int32)), (.int (0 : Int32)), (.ref a1)])) _
    refine XS.iadd X12.here hx rfl (hb hby d1_56) rfl ?_
    show Steps p.tables e below (T12.setTop (mkF m 57 #[.val (.ref a1), .val (.int (0 : Int32)), .val (.long q2), .second] [(.int (5 : Int32)), (.ref a1)])) _
    refine XS.lloadN X12.here hx rfl (hb hby d1_57) rfl ?_
    show Steps p.tables e below (T12.setTop (mkF m 58 #[.val (.ref a1), .val (.int (0 : Int32)), .val (.long q2), .second] [(.long q2), (.int (5 : Int32)), (.ref a1)])) _
    refine XS.bipush X12.here hx rfl (hb hby d1_58) ?_
    show Steps p.tables e below (T12.setTop (mkF m 60 #[.val (.ref a1), .val (.int (0 : Int32)), .val (.long q2), .second] [(.int (16 : Int32)), (.long q2), (.int (5 : Int32)), (.ref a1)])) _
    refine XS.lushr X12.here hx rfl (hb hby d1_60) rfl ?_
    show Steps p.tables e below (T12.setTop (mkF m 61 #[.val (.ref a1), .val (.int (0 : Int32)), .val (.long q2), .second] [(.long ((q2.toUInt64 >>> ((16 : Int32) &&& 0x3f).toInt64.toUInt64).toInt64)), (.int (5 : Int32)), (.ref a1)])) _
    refine XS.l2i X12.here hx rfl (hb hby d1_61) rfl ?_
    show Steps p.tables e below (T12.setTop (mkF m 62 #[.val (.ref a1), .val (.int (0 : Int32)), .val (.long q2), .second] [(.int (((q2.toUInt64 >>> ((16 : Int32) &&& 0x3f).toInt64.toUInt64).toInt64).toInt32)), (.int (5 : Int32)), (.ref a1)])) _
    refine XS.i2b X12.here hx rfl (hb hby d1_62) rfl ?_
    show Steps p.tables e below (T12.setTop (mkF m 63 #[.val (.ref a1), .val (.int (0 : Int32)), .val (.long q2), .second] [(.int ((((q2.toUInt64 >>> ((16 : Int32) &&& 0x3f).toInt64.toUInt64).toInt64).toInt32).toInt8.toInt32)), (.int (5 : Int32)), (.ref a1)])) _
    refine st14 _ ?_
    show Steps p.tables e below (T14.setTop (mkF m 64 #[.val (.ref a1), .val (.int (0 : Int32)), .val (.long q2), .second] [])) _
    refine XS.aloadN X14.here hx rfl (hb hby d1_64) rfl rfl ?_
    show Steps p.tables e below (T14.setTop (mkF m 65 #[.val (.ref a1), .val (.int (0 : Int32)), .val (.long q2), .second] [(.ref a1)])) _
    refine XS.iloadN X14.here hx rfl (hb hby d1_65) rfl ?_
    show Steps p.tables e below (T14.setTop (mkF m 66 #[.val (.ref a1), .val (.int (0 : Int32)), .val (.long q2), .second] [(.int (0 : Int32)), (.ref a1)])) _
    refine XS.bipush X14.here hx rfl (hb hby d1_66) ?_
    show Steps p.tables e below (T14.setTop (mkF m 68 #[.val (.ref a1), .val (.int (0 : Int32)), .val (.long q2), .second] [(.int (6 : Int32)), (.int (0 : Int32)), (.ref a1)])) _
    refine XS.iadd X14.here hx rfl (hb hby d1_68) rfl ?_
    show Steps p.tables e below (T14.setTop (mkF m 69 #[.val (.ref a1), .val (.int (0 : Int32)), .val (.long q2), .second] [(.int (6 : Int32)), (.ref a1)])) _
    refine XS.lloadN X14.here hx rfl (hb hby d1_69) rfl ?_
    show Steps p.tables e below (T14.setTop (mkF m 70 #[.val (.ref a1), .val (.int (0 : Int32)), .val (.long q2), .second] [(.long q2), (.int (6 : Int32)), (.ref a1)])) _
    refine XS.bipush X14.here hx rfl (hb hby d1_70) ?_
    show Steps p.tables e below (T14.setTop (mkF m 72 #[.val (.ref a1), .val (.int (0 : Int32)), .val (.long q2), .second] [(.int (8 : Int32)), (.long q2), (.int (6 : Int32)), (.ref a1)])) _
    refine XS.lushr X14.here hx rfl (hb hby d1_72) rfl ?_
    show Steps p.tables e below (T14.setTop (mkF m 73 #[.val (.ref a1), .val (.int (0 : Int32)), .val (.long q2), .second] [(.long ((q2.toUInt64 >>> ((8 : Int32) &&& 0x3f).toInt64.toUInt64).toInt64)), (.int (6 : Int32)), (.ref a1)])) _
    refine XS.l2i X14.here hx rfl (hb hby d1_73) rfl ?_
    show Steps p.tables e below (T14.setTop (mkF m 74 #[.val (.ref a1), .val (.int (0 : Int32)), .val (.long q2), .second] [(.int (((q2.toUInt64 >>> ((8 : Int32) &&& 0x3f).toInt64.toUInt64).toInt64).toInt32)), (.int (6 : Int32)), (.ref a1)])) _
    refine XS.i2b X14.here hx rfl (hb hby d1_74) rfl ?_
    show Steps p.tables e below (T14.setTop (mkF m 75 #[.val (.ref a1), .val (.int (0 : Int32)), .val (.long q2), .second] [(.int ((((q2.toUInt64 >>> ((8 : Int32) &&& 0x3f).toInt64.toUInt64).toInt64).toInt32).toInt8.toInt32)), (.int (6 : Int32)), (.ref a1)])) _
    refine st16 _ ?_
    show Steps p.tables e below (T16.setTop (mkF m 76 #[.val (.ref a1), .val (.int (0 : Int32)), .val (.long q2), .second] [])) _
    refine XS.aloadN X16.here hx rfl (hb hby d1_76) rfl rfl ?_
    show Steps p.tables e below (T16.setTop (mkF m 77 #[.val (.ref a1), .val (.int (0 : Int32)), .val (.long q2), .second] [(.ref a1)])) _
    refine XS.iloadN X16.here hx rfl (hb hby d1_77) rfl ?_
    show Steps p.tables e below (T16.setTop (mkF m 78 #[.val (.ref a1), .val (.int (0 : Int32)), .val (.long q2), .second] [(.int (0 : Int32)), (.ref a1)])) _
    refine XS.bipush X16.here hx rfl (hb hby d1_78) ?_
    show Steps p.tables e below (T16.setTop (mkF m 80 #[.val (.ref a1), .val (.int (0 : Int32)), .val (.long q2), .second] [(.int (7 : Int32)), (.int (0 : Int32)), (.ref a1)])) _
    refine XS.iadd X16.here hx rfl (hb hby d1_80) rfl ?_
    show Steps p.tables e below (T16.setTop (mkF m 81 #[.val (.ref a1), .val (.int (0 : Int32)), .val (.long q2), .second] [(.int (7 : Int32)), (.ref a1)])) _
    refine XS.lloadN X16.here hx rfl (hb hby d1_81) rfl ?_
    show Steps p.tables e below (T16.setTop (mkF m 82 #[.val (.ref a1), .val (.int (0 : Int32)), .val (.long q2), .second] [(.long q2), (.int (7 : Int32)), (.ref a1)])) _
    refine XS.l2i X16.here hx rfl (hb hby d1_82) rfl ?_
    show Steps p.tables e below (T16.setTop (mkF m 83 #[.val (.ref a1), .val (.int (0 : Int32)), .val (.long q2), .second] [(.int (q2.toInt32)), (.int (7 : Int32)), (.ref a1)])) _
    refine XS.i2b X16.here hx rfl (hb hby d1_83) rfl ?_
    show Steps p.tables e below (T16.setTop (mkF m 84 #[.val (.ref a1), .val (.int (0 : Int32)), .val (.long q2), .second] [(.int ((q2.toInt32).toInt8.toInt32)), (.int (7 : Int32)), (.ref a1)])) _
    refine st18 _ ?_
    show Steps p.tables e below (T18.setTop (mkF m 85 #[.val (.ref a1), .val (.int (0 : Int32)), .val (.long q2), .second] [])) _
    exact X18.returnOut hx Bd.returns (hb hby d1_85) hr
  · show Q1_1 Z a1 q2 k_a1 h0 n0 _ T18.heap _
    rw [e18]
    exact ⟨rfl, N18, K0_18, V18⟩
theorem pd_0 : parseMethodDescriptor "([BIJ)V" = some ⟨[(.array .byte), .int, .long], none⟩ := by decide +kernel
def Q1_2 (Z : State) (a1 : Addr) (q2 : Int64) (k_a1 : ClassId) (w3 : Int32) (w4 : Int32) (w5 : Int32) (w6 : Int32) (w7 : Int32) (w8 : Int32) (w9 : Int32) (w10 : Int32) (h0 : Heap) (n0 : Nat) (v : Option Value) (h : Heap) (L : List Loc) : Prop := v = none ∧ Fr n0 L ∧ Keep h0 h [a1] ∧ Arv Z h a1 k_a1 .byte (32 : Int32) [(.int w3), (.int w4), (.int w5), (.int w6), (.int w7), (.int w8), (.int w9), (.int w10), (.int ((((q2.toUInt64 >>> ((56 : Int32) &&& 0x3f).toInt64.toUInt64).toInt64).toInt32).toInt8.toInt32)), (.int ((((q2.toUInt64 >>> ((48 : Int32) &&& 0x3f).toInt64.toUInt64).toInt64).toInt32).toInt8.toInt32)), (.int ((((q2.toUInt64 >>> ((40 : Int32) &&& 0x3f).toInt64.toUInt64).toInt64).toInt32).toInt8.toInt32)), (.int ((((q2.toUInt64 >>> ((32 : Int32) &&& 0x3f).toInt64.toUInt64).toInt64).toInt32).toInt8.toInt32)), (.int ((((q2.toUInt64 >>> ((24 : Int32) &&& 0x3f).toInt64.toUInt64).toInt64).toInt32).toInt8.toInt32)), (.int ((((q2.toUInt64 >>> ((16 : Int32) &&& 0x3f).toInt64.toUInt64).toInt64).toInt32).toInt8.toInt32)), (.int ((((q2.toUInt64 >>> ((8 : Int32) &&& 0x3f).toInt64.toUInt64).toInt64).toInt32).toInt8.toInt32)), (.int ((q2.toInt32).toInt8.toInt32)), (.int (0 : Int32)), (.int (0 : Int32)), (.int (0 : Int32)), (.int (0 : Int32)), (.int (0 : Int32)), (.int (0 : Int32)), (.int (0 : Int32)), (.int (0 : Int32)), (.int (0 : Int32)), (.int (0 : Int32)), (.int (0 : Int32)), (.int (0 : Int32)), (.int (0 : Int32)), (.int (0 : Int32)), (.int (0 : Int32)), (.int (0 : Int32))] (.int (0 : Int32))
set_option maxRecDepth 65536 in
set_option maxHeartbeats 40000000 in
theorem rm1_2 (l : Launch) (Z : State) (a0 : Array Value) (hw : ∀ d ∈ tables_1, d.before a0 Z = true) (ws : List Jvm.Cond) (a1 : Addr) (q2 : Int64) (k_a1 : ClassId) (w3 : Int32) (w4 : Int32) (w5 : Int32) (w6 : Int32) (w7 : Int32) (w8 : Int32) (w9 : Int32) (w10 : Int32) (h0 : Heap) (n0 : Nat) (Z0 : n0 ≤ h0.size) (V_a1 : Arv Z h0 a1 k_a1 .byte (32 : Int32) [(.int w3), (.int w4), (.int w5), (.int w6), (.int w7), (.int w8), (.int w9), (.int w10), (.int (0 : Int32)), (.int (0 : Int32)), (.int (0 : Int32)), (.int (0 : Int32)), (.int (0 : Int32)), (.int (0 : Int32)), (.int (0 : Int32)), (.int (0 : Int32)), (.int (0 : Int32)), (.int (0 : Int32)), (.int (0 : Int32)), (.int (0 : Int32)), (.int (0 : Int32)), (.int (0 : Int32)), (.int (0 : Int32)), (.int (0 : Int32)), (.int (0 : Int32)), (.int (0 : Int32)), (.int (0 : Int32)), (.int (0 : Int32)), (.int (0 : Int32)), (.int (0 : Int32)), (.int (0 : Int32)), (.int (0 : Int32))] (.int (0 : Int32))) (g_a1 : n0 ≤ a1) :
    MetFree l (⟨"com/example/lasting_names/lastingnames/Ed25519SubjectPublicKeyInfoPinLaw", "put", "([BIJ)V"⟩ : MethodName) (head1 (Jvm.Cond.code (⟨"com/example/lasting_names/lastingnames/Ed25519SubjectPublicKeyInfoPinLaw", "put", "([BIJ)V"⟩ : MethodName) method_2_code 4 none :: ws) ({ frames := 0, cells := 0, slots := 0, locals := 0 } : Room)) (fun a U => a = #[(.ref a1), (.int (8 : Int32)), (.long q2)] ∧ Z.Warmed39 U.vm ∧ U.heap = h0) (fun _ _ _ _ _ => True) (fun _ U o U' => ∃ v L, o = .returned v ∧ Q1_2 Z a1 q2 k_a1 w3 w4 w5 w6 w7 w8 w9 w10 h0 n0 v U'.heap L ∧ FrameEnd U o U' L ({ frames := 0, cells := 0, slots := 0, locals := 0 } : Room).cells ({ frames := 0, cells := 0, slots := 0, locals := 0 } : Room).slots) := by
  refine MetFree.of_bodySF (plainFor_of_name pn_1) hisR ?_
  intro p e s m args below meth c s₁ Bd hml0 hP hK
  obtain ⟨rfl, hZ, hh⟩ := hP
  have hx := Bd.exec
  have hby := Bd.bytes
  have hml : c.maxLocals = 4 := hml0
  have hown : s.vm.findClass "com/example/lasting_names/lastingnames/Ed25519SubjectPublicKeyInfoPinLaw" = some m.cls := findClass_of_methodNamed Bd.named
  have hnm := (name_of_methodNamed Bd.named Bd.method).1
  have X0 : Stand p l e ({ frames := 0, cells := 0, slots := 0, locals := 0 } : Room) s m #[(.ref a1), (.int (8 : Int32)), (.long q2)] below meth c s₁ [] 0 0 := Stand.of_body Bd
  have e0 : s₁.heap = h0 := by rw [← hh, Bd.state]; rfl
  have N0 := Fr.nil n0
  have pre0 : ∀ t, Steps p.tables e below (s₁.setTop (mkF m 0 #[.val (.ref a1), .val (.int (8 : Int32)), .val (.long q2), .second] [])) t → Steps p.tables e below (s₁.setTop (entryFrame m #[(.ref a1), (.int (8 : Int32)), (.long q2)] 4)) t := fun t k => castTop (ef_1_RIJ m a1 (8 : Int32) q2) k
  obtain ⟨cl11, Ar11, q11, S11, N_11, H11, G11⟩ := id V_a1
  have hin11 : ¬ ((8 : Int32) < 0 ∨ cl11.slots.size ≤ ((8 : Int32)).toNatClampNeg) := inb_of S11 ⟨by decide, (by decide : (8 : Int32) < (32 : Int32))⟩
  obtain ⟨T12, h12, X12, e12, W12, st12⟩ := stB X0 hx hZ e0 Ar11 (j := (8 : Int32)) hin11 (g := (mkF m 8 #[.val (.ref a1), .val (.int (8 : Int32)), .val (.long q2), .second] [(.int ((((q2.toUInt64 >>> ((56 : Int32) &&& 0x3f).toInt64.toUInt64).toInt64).toInt32).toInt8.toInt32)), (.int (8 : Int32)), (.ref a1)])) rfl rfl (hb hby d1_8)
  rw [own_b8] at W12
  have K0_12 : Keep h0 h12 [a1] := (Keep.refl h0 [a1]).wr W12 (Or.inl (List.mem_of_getElem? (i := 0) rfl))
  have N12 := Fr.snoc X12 N0 g_a1
  have Z12 : n0 ≤ h12.size := Nat.le_trans Z0 (Keep.of_wr W12).1
  have V12 : Arv Z h12 a1 k_a1 .byte (32 : Int32) [(.int w3), (.int w4), (.int w5), (.int w6), (.int w7), (.int w8), (.int w9), (.int w10), (.int ((((q2.toUInt64 >>> ((56 : Int32) &&& 0x3f).toInt64.toUInt64).toInt64).toInt32).toInt8.toInt32)), (.int (0 : Int32)), (.int (0 : Int32)), (.int (0 : Int32)), (.int (0 : Int32)), (.int (0 : Int32)), (.int (0 : Int32)), (.int (0 : Int32)), (.int (0 : Int32)), (.int (0 : Int32)), (.int (0 : Int32)), (.int (0 : Int32)), (.int (0 : Int32)), (.int (0 : Int32)), (.int (0 : Int32)), (.int (0 : Int32)), (.int (0 : Int32)), (.int (0 : Int32)), (.int (0 : Int32)), (.int (0 : Int32)), (.int (0 : Int32)), (.int (0 : Int32)), (.int (0 : Int32)), (.int (0 : Int32))] (.int (0 : Int32)) := Arv.set Ar11 q11 S11 N_11 H11 G11 (fits_nar_byte _) W12 8 rfl (Nat.le_of_ble_eq_true rfl)
  obtain ⟨cl13, Ar13, q13, S13, N_13, H13, G13⟩ := id V12
  have hin13 : ¬ ((9 : Int32) < 0 ∨ cl13.slots.size ≤ ((9 : Int32)).toNatClampNeg) := inb_of S13 ⟨by decide, (by decide : (9 : Int32) < (32 : Int32))⟩
  obtain ⟨T14, h14, X14, e14, W14, st14⟩ := stB X12 hx hZ e12 Ar13 (j := (9 : Int32)) hin13 (g := (mkF m 19 #[.val (.ref a1), .val (.int (8 : Int32)), .val (.long q2), .second] [(.int ((((q2.toUInt64 >>> ((48 : Int32) &&& 0x3f).toInt64.toUInt64).toInt64).toInt32).toInt8.toInt32)), (.int (9 : Int32)), (.ref a1)])) rfl rfl (hb hby d1_19)
  rw [own_b8] at W14
  have K0_14 : Keep h0 h14 [a1] := K0_12.wr W14 (Or.inl (List.mem_of_getElem? (i := 0) rfl))
  have N14 := Fr.snoc X14 N12 g_a1
  have Z14 : n0 ≤ h14.size := Nat.le_trans Z12 (Keep.of_wr W14).1
  have V14 : Arv Z h14 a1 k_a1 .byte (32 : Int32) [(.int w3), (.int w4), (.int w5), (.int w6), (.int w7), (.int w8), (.int w9), (.int w10), (.int ((((q2.toUInt64 >>> ((56 : Int32) &&& 0x3f).toInt64.toUInt64).toInt64).toInt32).toInt8.toInt32)), (.int ((((q2.toUInt64 >>> ((48 : Int32) &&& 0x3f).toInt64.toUInt64).toInt64).toInt32).toInt8.toInt32)), (.int (0 : Int32)), (.int (0 : Int32)), (.int (0 : Int32)), (.int (0 : Int32)), (.int (0 : Int32)), (.int (0 : Int32)), (.int (0 : Int32)), (.int (0 : Int32)), (.int (0 : Int32)), (.int (0 : Int32)), (.int (0 : Int32)), (.int (0 : Int32)), (.int (0 : Int32)), (.int (0 : Int32)), (.int (0 : Int32)), (.int (0 : Int32)), (.int (0 : Int32)), (.int (0 : Int32)), (.int (0 : Int32)), (.int (0 : Int32)), (.int (0 : Int32)), (.int (0 : Int32))] (.int (0 : Int32)) := Arv.set Ar13 q13 S13 N_13 H13 G13 (fits_nar_byte _) W14 9 rfl (Nat.le_of_ble_eq_true rfl)
  obtain ⟨cl15, Ar15, q15, S15, N_15, H15, G15⟩ := id V14
  have hin15 : ¬ ((10 : Int32) < 0 ∨ cl15.slots.size ≤ ((10 : Int32)).toNatClampNeg) := inb_of S15 ⟨by decide, (by decide : (10 : Int32) < (32 : Int32))⟩
  obtain ⟨T16, h16, X16, e16, W16, st16⟩ := stB X14 hx hZ e14 Ar15 (j := (10 : Int32)) hin15 (g := (mkF m 30 #[.val (.ref a1), .val (.int (8 : Int32)), .val (.long q2), .second] [(.int ((((q2.toUInt64 >>> ((40 : Int32) &&& 0x3f).toInt64.toUInt64).toInt64).toInt32).toInt8.toInt32)), (.int (10 : Int32)), (.ref a1)])) rfl rfl (hb hby d1_30)
  rw [own_b8] at W16
  have K0_16 : Keep h0 h16 [a1] := K0_14.wr W16 (Or.inl (List.mem_of_getElem? (i := 0) rfl))
  have N16 := Fr.snoc X16 N14 g_a1
  have Z16 : n0 ≤ h16.size := Nat.le_trans Z14 (Keep.of_wr W16).1
  have V16 : Arv Z h16 a1 k_a1 .byte (32 : Int32) [(.int w3), (.int w4), (.int w5), (.int w6), (.int w7), (.int w8), (.int w9), (.int w10), (.int ((((q2.toUInt64 >>> ((56 : Int32) &&& 0x3f).toInt64.toUInt64).toInt64).toInt32).toInt8.toInt32)), (.int ((((q2.toUInt64 >>> ((48 : Int32) &&& 0x3f).toInt64.toUInt64).toInt64).toInt32).toInt8.toInt32)), (.int ((((q2.toUInt64 >>> ((40 : Int32) &&& 0x3f).toInt64.toUInt64).toInt64).toInt32).toInt8.toInt32)), (.int (0 : Int32)), (.int (0 : Int32)), (.int (0 : Int32)), (.int (0 : Int32)), (.int (0 : Int32)), (.int (0 : Int32)), (.int (0 : Int32)), (.int (0 : Int32)), (.int (0 : Int32)), (.int (0 : Int32)), (.int (0 : Int32)), (.int (0 : Int32)), (.int (0 : Int32)), (.int (0 : Int32)), (.int (0 : Int32)), (.int (0 : Int32)), (.int (0 : Int32)), (.int (0 : Int32)), (.int (0 : Int32)), (.int (0 : Int32)), (.int (0 : Int32))] (.int (0 : Int32)) := Arv.set Ar15 q15 S15 N_15 H15 G15 (fits_nar_byte _) W16 10 rfl (Nat.le_of_ble_eq_true rfl)
  obtain ⟨cl17, Ar17, q17, S17, N_17, H17, G17⟩ := id V16
  have hin17 : ¬ ((11 : Int32) < 0 ∨ cl17.slots.size ≤ ((11 : Int32)).toNatClampNeg) := inb_of S17 ⟨by decide, (by decide : (11 : Int32) < (32 : Int32))⟩
  obtain ⟨T18, h18, X18, e18, W18, st18⟩ := stB X16 hx hZ e16 Ar17 (j := (11 : Int32)) hin17 (g := (mkF m 41 #[.val (.ref a1), .val (.int (8 : Int32)), .val (.long q2), .second] [(.int ((((q2.toUInt64 >>> ((32 : Int32) &&& 0x3f).toInt64.toUInt64).toInt64).toInt32).toInt8.toInt32)), (.int (11 : Int32)), (.ref a1)])) rfl rfl (hb hby d1_41)
  rw [own_b8] at W18
  have K0_18 : Keep h0 h18 [a1] := K0_16.wr W18 (Or.inl (List.mem_of_getElem? (i := 0) rfl))
  have N18 := Fr.snoc X18 N16 g_a1
  have Z18 : n0 ≤ h18.size := Nat.le_trans Z16 (Keep.of_wr W18).1
  have V18 : Arv Z h18 a1 k_a1 .byte (32 : Int32) [(.int w3), (.int w4), (.int w5), (.int w6), (.int w7), (.int w8), (.int w9), (.int w10), (.int ((((q2.toUInt64 >>> ((56 : Int32) &&& 0x3f).toInt64.toUInt64).toInt64).toInt32).toInt8.toInt32)), (.int ((((q2.toUInt64 >>> ((48 : Int32) &&& 0x3f).toInt64.toUInt64).toInt64).toInt32).toInt8.toInt32)), (.int ((((q2.toUInt64 >>> ((40 : Int32) &&& 0x3f).toInt64.toUInt64).toInt64).toInt32).toInt8.toInt32)), (.int ((((q2.toUInt64 >>> ((32 : Int32) &&& 0x3f).toInt64.toUInt64).toInt64).toInt32).toInt8.toInt32)), (.int (0 : Int32)), (.int (0 : Int32)), (.int (0 : Int32)), (.int (0 : Int32)), (.int (0 : Int32)), (.int (0 : Int32)), (.int (0 : Int32)), (.int (0 : Int32)), (.int (0 : Int32)), (.int (0 : Int32)), (.int (0 : Int32)), (.int (0 : Int32)), (.int (0 : Int32)), (.int (0 : Int32)), (.int (0 : Int32)), (.int (0 : Int32)), (.int (0 : Int32)), (.int (0 : Int32)), (.int (0 : Int32)), (.int (0 : Int32))] (.int (0 : Int32)) := Arv.set Ar17 q17 S17 N_17 H17 G17 (fits_nar_byte _) W18 11 rfl (Nat.le_of_ble_eq_true rfl)
  obtain ⟨cl19, Ar19, q19, S19, N_19, H19, G19⟩ := id V18
  have hin19 : ¬ ((12 : Int32) < 0 ∨ cl19.slots.size ≤ ((12 : Int32)).toNatClampNeg) := inb_of S19 ⟨by decide, (by decide : (12 : Int32) < (32 : Int32))⟩
  obtain ⟨T20, h20, X20, e20, W20, st20⟩ := stB X18 hx hZ e18 Ar19 (j := (12 : Int32)) hin19 (g := (mkF m 52 #[.val (.ref a1), .val (.int (8 : Int32)), .val (.long q2), .second] [(.int ((((q2.toUInt64 >>> ((24 : Int32) &&& 0x3f).toInt64.toUInt64).toInt64).toInt32).toInt8.toInt32)), (.int (12 : Int32)), (.ref a1)])) rfl rfl (hb hby d1_52)
  rw [own_b8] at W20
  have K0_20 : Keep h0 h20 [a1] := K0_18.wr W20 (Or.inl (List.mem_of_getElem? (i := 0) rfl))
  have N20 := Fr.snoc X20 N18 g_a1
  have Z20 : n0 ≤ h20.size := Nat.le_trans Z18 (Keep.of_wr W20).1
  have V20 : Arv Z h20 a1 k_a1 .byte (32 : Int32) [(.int w3), (.int w4), (.int w5), (.int w6), (.int w7), (.int w8), (.int w9), (.int w10), (.int ((((q2.toUInt64 >>> ((56 : Int32) &&& 0x3f).toInt64.toUInt64).toInt64).toInt32).toInt8.toInt32)), (.int ((((q2.toUInt64 >>> ((48 : Int32) &&& 0x3f).toInt64.toUInt64).toInt64).toInt32).toInt8.toInt32)), (.int ((((q2.toUInt64 >>> ((40 : Int32) &&& 0x3f).toInt64.toUInt64).toInt64).toInt32).toInt8.toInt32)), (.int ((((q2.toUInt64 >>> ((32 : Int32) &&& 0x3f).toInt64.toUInt64).toInt64).toInt32).toInt8.toInt32)), (.int ((((q2.toUInt64 >>> ((24 : Int32) &&& 0x3f).toInt64.toUInt64).toInt64).toInt32).toInt8.toInt32)), (.int (0 : Int32)), (.int (0 : Int32)), (.int (0 : Int32)), (.int (0 : Int32)), (.int (0 : Int32)), (.int (0 : Int32)), (.int (0 : Int32)), (.int (0 : Int32)), (.int (0 : Int32)), (.int (0 : Int32)), (.int (0 : Int32)), (.int (0 : Int32)), (.int (0 : Int32)), (.int (0 : Int32)), (.int (0 : Int32)), (.int (0 : Int32)), (.int (0 : Int32)), (.int (0 : Int32)), (.int (0 : Int32))] (.int (0 : Int32)) := Arv.set Ar19 q19 S19 N_19 H19 G19 (fits_nar_byte _) W20 12 rfl (Nat.le_of_ble_eq_true rfl)
  obtain ⟨cl21, Ar21, q21, S21, N_21, H21, G21⟩ := id V20
  have hin21 : ¬ ((13 : Int32) < 0 ∨ cl21.slots.size ≤ ((13 : Int32)).toNatClampNeg) := inb_of S21 ⟨by decide, (by decide : (13 : Int32) < (32 : Int32))⟩
  obtain ⟨T22, h22, X22, e22, W22, st22⟩ := stB X20 hx hZ e20 Ar21 (j := (13 : Int32)) hin21 (g := (mkF m 63 #[.val (.ref a1), .val (.int (8 : Int32)), .val (.long q2), .second] [(.int ((((q2.toUInt64 >>> ((16 : Int32) &&& 0x3f).toInt64.toUInt64).toInt64).toInt32).toInt8.toInt32)), (.int (13 : Int32)), (.ref a1)])) rfl rfl (hb hby d1_63)
  rw [own_b8] at W22
  have K0_22 : Keep h0 h22 [a1] := K0_20.wr W22 (Or.inl (List.mem_of_getElem? (i := 0) rfl))
  have N22 := Fr.snoc X22 N20 g_a1
  have Z22 : n0 ≤ h22.size := Nat.le_trans Z20 (Keep.of_wr W22).1
  have V22 : Arv Z h22 a1 k_a1 .byte (32 : Int32) [(.int w3), (.int w4), (.int w5), (.int w6), (.int w7), (.int w8), (.int w9), (.int w10), (.int ((((q2.toUInt64 >>> ((56 : Int32) &&& 0x3f).toInt64.toUInt64).toInt64).toInt32).toInt8.toInt32)), (.int ((((q2.toUInt64 >>> ((48 : Int32) &&& 0x3f).toInt64.toUInt64).toInt64).toInt32).toInt8.toInt32)), (.int ((((q2.toUInt64 >>> ((40 : Int32) &&& 0x3f).toInt64.toUInt64).toInt64).toInt32).toInt8.toInt32)), (.int ((((q2.toUInt64 >>> ((32 : Int32) &&& 0x3f).toInt64.toUInt64).toInt64).toInt32).toInt8.toInt32)), (.int ((((q2.toUInt64 >>> ((24 : Int32) &&& 0x3f).toInt64.toUInt64).toInt64).toInt32).toInt8.toInt32)), (.int ((((q2.toUInt64 >>> ((16 : Int32) &&& 0x3f).toInt64.toUInt64).toInt64).toInt32).toInt8.toInt32)), (.int (0 : Int32)), (.int (0 : Int32)), (.int (0 : Int32)), (.int (0 : Int32)), (.int (0 : Int32)), (.int (0 : Int32)), (.int (0 : Int32)), (.int (0 : Int32)), (.int (0 : Int32)), (.int (0 : Int32)), (.int (0 : Int32)), (.int (0 : Int32)), (.int (0 : Int32)), (.int (0 : Int32)), (.int (0 : Int32)), (.int (0 : Int32)), (.int (0 : Int32)), (.int (0 : Int32))] (.int (0 : Int32)) := Arv.set Ar21 q21 S21 N_21 H21 G21 (fits_nar_byte _) W22 13 rfl (Nat.le_of_ble_eq_true rfl)
  obtain ⟨cl23, Ar23, q23, S23, N_23, H23, G23⟩ := id V22
  have hin23 : ¬ ((14 : Int32) < 0 ∨ cl23.slots.size ≤ ((14 : Int32)).toNatClampNeg) := inb_of S23 ⟨by decide, (by decide : (14 : Int32) < (32 : Int32))⟩
  obtain ⟨T24, h24, X24, e24, W24, st24⟩ := stB X22 hx hZ e22 Ar23 (j := (14 : Int32)) hin23 (g := (mkF m 75 #[.val (.ref a1), .val (.int (8 : Int32)), .val (.long q2), .second] [(.int ((((q2.toUInt64 >>> ((8 : Int32) &&& 0x3f).toInt64.toUInt64).toInt64).toInt32).toInt8.toInt32)), (.int (14 : Int32)), (.ref a1)])) rfl rfl (hb hby d1_75)
  rw [own_b8] at W24
  have K0_24 : Keep h0 h24 [a1] := K0_22.wr W24 (Or.inl (List.mem_of_getElem? (i := 0) rfl))
  have N24 := Fr.snoc X24 N22 g_a1
  have Z24 : n0 ≤ h24.size := Nat.le_trans Z22 (Keep.of_wr W24).1
  have V24 : Arv Z h24 a1 k_a1 .byte (32 : Int32) [(.int w3), (.int w4), (.int w5), (.int w6), (.int w7), (.int w8), (.int w9), (.int w10), (.int ((((q2.toUInt64 >>> ((56 : Int32) &&& 0x3f).toInt64.toUInt64).toInt64).toInt32).toInt8.toInt32)), (.int ((((q2.toUInt64 >>> ((48 : Int32) &&& 0x3f).toInt64.toUInt64).toInt64).toInt32).toInt8.toInt32)), (.int ((((q2.toUInt64 >>> ((40 : Int32) &&& 0x3f).toInt64.toUInt64).toInt64).toInt32).toInt8.toInt32)), (.int ((((q2.toUInt64 >>> ((32 : Int32) &&& 0x3f).toInt64.toUInt64).toInt64).toInt32).toInt8.toInt32)), (.int ((((q2.toUInt64 >>> ((24 : Int32) &&& 0x3f).toInt64.toUInt64).toInt64).toInt32).toInt8.toInt32)), (.int ((((q2.toUInt64 >>> ((16 : Int32) &&& 0x3f).toInt64.toUInt64).toInt64).toInt32).toInt8.toInt32)), (.int ((((q2.toUInt64 >>> ((8 : Int32) &&& 0x3f).toInt64.toUInt64).toInt64).toInt32).toInt8.toInt32)), (.int (0 : Int32)), (.int (0 : Int32)), (.int (0 : Int32)), (.int (0 : Int32)), (.int (0 : Int32)), (.int (0 : Int32)), (.int (0 : Int32)), (.int (0 : Int32)), (.int (0 : Int32)), (.int (0 : Int32)), (.int (0 : Int32)), (.int (0 : Int32)), (.int (0 : Int32)), (.int (0 : Int32)), (.int (0 : Int32)), (.int (0 : Int32)), (.int (0 : Int32))] (.int (0 : Int32)) := Arv.set Ar23 q23 S23 N_23 H23 G23 (fits_nar_byte _) W24 14 rfl (Nat.le_of_ble_eq_true rfl)
  obtain ⟨cl25, Ar25, q25, S25, N_25, H25, G25⟩ := id V24
  have hin25 : ¬ ((15 : Int32) < 0 ∨ cl25.slots.size ≤ ((15 : Int32)).toNatClampNeg) := inb_of S25 ⟨by decide, (by decide : (15 : Int32) < (32 : Int32))⟩
  obtain ⟨T26, h26, X26, e26, W26, st26⟩ := stB X24 hx hZ e24 Ar25 (j := (15 : Int32)) hin25 (g := (mkF m 84 #[.val (.ref a1), .val (.int (8 : Int32)), .val (.long q2), .second] [(.int ((q2.toInt32).toInt8.toInt32)), (.int (15 : Int32)), (.ref a1)])) rfl rfl (hb hby d1_84)
  rw [own_b8] at W26
  have K0_26 : Keep h0 h26 [a1] := K0_24.wr W26 (Or.inl (List.mem_of_getElem? (i := 0) rfl))
  have N26 := Fr.snoc X26 N24 g_a1
  have Z26 : n0 ≤ h26.size := Nat.le_trans Z24 (Keep.of_wr W26).1
  have V26 : Arv Z h26 a1 k_a1 .byte (32 : Int32) [(.int w3), (.int w4), (.int w5), (.int w6), (.int w7), (.int w8), (.int w9), (.int w10), (.int ((((q2.toUInt64 >>> ((56 : Int32) &&& 0x3f).toInt64.toUInt64).toInt64).toInt32).toInt8.toInt32)), (.int ((((q2.toUInt64 >>> ((48 : Int32) &&& 0x3f).toInt64.toUInt64).toInt64).toInt32).toInt8.toInt32)), (.int ((((q2.toUInt64 >>> ((40 : Int32) &&& 0x3f).toInt64.toUInt64).toInt64).toInt32).toInt8.toInt32)), (.int ((((q2.toUInt64 >>> ((32 : Int32) &&& 0x3f).toInt64.toUInt64).toInt64).toInt32).toInt8.toInt32)), (.int ((((q2.toUInt64 >>> ((24 : Int32) &&& 0x3f).toInt64.toUInt64).toInt64).toInt32).toInt8.toInt32)), (.int ((((q2.toUInt64 >>> ((16 : Int32) &&& 0x3f).toInt64.toUInt64).toInt64).toInt32).toInt8.toInt32)), (.int ((((q2.toUInt64 >>> ((8 : Int32) &&& 0x3f).toInt64.toUInt64).toInt64).toInt32).toInt8.toInt32)), (.int ((q2.toInt32).toInt8.toInt32)), (.int (0 : Int32)), (.int (0 : Int32)), (.int (0 : Int32)), (.int (0 : Int32)), (.int (0 : Int32)), (.int (0 : Int32)), (.int (0 : Int32)), (.int (0 : Int32)), (.int (0 : Int32)), (.int (0 : Int32)), (.int (0 : Int32)), (.int (0 : Int32)), (.int (0 : Int32)), (.int (0 : Int32)), (.int (0 : Int32)), (.int (0 : Int32))] (.int (0 : Int32)) := Arv.set Ar25 q25 S25 N_25 H25 G25 (fits_nar_byte _) W26 15 rfl (Nat.le_of_ble_eq_true rfl)
  obtain ⟨fs, hr, hrun, hended, hW, hsame⟩ := X26.leave (v := none) (fun _ => rfl)
  refine ⟨_, _, pre0 _ ?_, hrun, hended, _, _, rfl, ?_, ⟨_, rfl⟩, hW, hsame.mono (by decide) (by decide)⟩
  · show Steps p.tables e below (s₁.setTop (mkF m 0 #[.val (.ref a1), .val (.int (8 : Int32)), .val (.long q2), .second] [])) _
    refine XS.aloadN X0.here hx rfl (hb hby d1_0) rfl rfl ?_
    show Steps p.tables e below (s₁.setTop (mkF m 1 #[.val (.ref a1), .val (.int (8 : Int32)), .val (.long q2), .second] [(.ref a1)])) _
    refine XS.iloadN X0.here hx rfl (hb hby d1_1) rfl ?_
    show Steps p.tables e below (s₁.setTop (mkF m 2 #[.val (.ref a1), .val (.int (8 : Int32)), .val (.long q2), .second] [(.int (8 : Int32)), (.ref a1)])) _
    refine XS.lloadN X0.here hx rfl (hb hby d1_2) rfl ?_
    show Steps p.tables e below (s₁.setTop (mkF m 3 #[.val (.ref a1), .val (.int (8 : Int32)), .val (.long q2), .second] [(.long q2), (.int (8 : Int32)), (.ref a1)])) _
    refine XS.bipush X0.here hx rfl (hb hby d1_3) ?_
    show Steps p.tables e below (s₁.setTop (mkF m 5 #[.val (.ref a1), .val (.int (8 : Int32)), .val (.long q2), .second] [(.int (56 : Int32)), (.long q2), (.int (8 : Int32)), (.ref a1)])) _
    refine XS.lushr X0.here hx rfl (hb hby d1_5) rfl ?_
    show Steps p.tables e below (s₁.setTop (mkF m 6 #[.val (.ref a1), .val (.int (8 : Int32)), .val (.long q2), .second] [(.long ((q2.toUInt64 >>> ((56 : Int32) &&& 0x3f).toInt64.toUInt64).toInt64)), (.int (8 : Int32)), (.ref a1)])) _
    refine XS.l2i X0.here hx rfl (hb hby d1_6) rfl ?_
    show Steps p.tables e below (s₁.setTop (mkF m 7 #[.val (.ref a1), .val (.int (8 : Int32)), .val (.long q2), .second] [(.int (((q2.toUInt64 >>> ((56 : Int32) &&& 0x3f).toInt64.toUInt64).toInt64).toInt32)), (.int (8 : Int32)), (.ref a1)])) _
    refine XS.i2b X0.here hx rfl (hb hby d1_7) rfl ?_
    show Steps p.tables e below (s₁.setTop (mkF m 8 #[.val (.ref a1), .val (.int (8 : Int32)), .val (.long q2), .second] [(.int ((((q2.toUInt64 >>> ((56 : Int32) &&& 0x3f).toInt64.toUInt64).toInt64).toInt32).toInt8.toInt32)), (.int (8 : Int32)), (.ref a1)])) _
    refine st12 _ ?_
    show Steps p.tables e below (T12.setTop (mkF m 9 #[.val (.ref a1), .val (.int (8 : Int32)), .val (.long q2), .second] [])) _
    refine XS.aloadN X12.here hx rfl (hb hby d1_9) rfl rfl ?_
    show Steps p.tables e below (T12.setTop (mkF m 10 #[.val (.ref a1), .val (.int (8 : Int32)), .val (.long q2), .second] [(.ref a1)])) _
    refine XS.iloadN X12.here hx rfl (hb hby d1_10) rfl ?_
    show Steps p.tables e below (T12.setTop (mkF m 11 #[.val (.ref a1), .val (.int (8 : Int32)), .val (.long q2), .second] [(.int (8 : Int32)), (.ref a1)])) _
    refine XS.iconst X12.here hx rfl (hb hby d1_11) ?_
    show Steps p.tables e below (T12.setTop (mkF m 12 #[.val (.ref a1), .val (.int (8 : Int32)), .val (.long q2), .second] [(.int (1 : Int32)), (.int (8 : Int32)), (.ref a1)])) _
    refine XS.iadd X12.here hx rfl (hb hby d1_12) rfl ?_
    show Steps p.tables e below (T12.setTop (mkF m 13 #[.val (.ref a1), .val (.int (8 : Int32)), .val (.long q2), .second] [(.int (9 : Int32)), (.ref a1)])) _
    refine XS.lloadN X12.here hx rfl (hb hby d1_13) rfl ?_
    show Steps p.tables e below (T12.setTop (mkF m 14 #[.val (.ref a1), .val (.int (8 : Int32)), .val (.long q2), .second] [(.long q2), (.int (9 : Int32)), (.ref a1)])) _
    refine XS.bipush X12.here hx rfl (hb hby d1_14) ?_
    show Steps p.tables e below (T12.setTop (mkF m 16 #[.val (.ref a1), .val (.int (8 : Int32)), .val (.long q2), .second] [(.int (48 : Int32)), (.long q2), (.int (9 : Int32)), (.ref a1)])) _
    refine XS.lushr X12.here hx rfl (hb hby d1_16) rfl ?_
    show Steps p.tables e below (T12.setTop (mkF m 17 #[.val (.ref a1), .val (.int (8 : Int32)), .val (.long q2), .second] [(.long ((q2.toUInt64 >>> ((48 : Int32) &&& 0x3f).toInt64.toUInt64).toInt64)), (.int (9 : Int32)), (.ref a1)])) _
    refine XS.l2i X12.here hx rfl (hb hby d1_17) rfl ?_
    show Steps p.tables e below (T12.setTop (mkF m 18 #[.val (.ref a1), .val (.int (8 : Int32)), .val (.long q2), .second] [(.int (((q2.toUInt64 >>> ((48 : Int32) &&& 0x3f).toInt64.toUInt64).toInt64).toInt32)), (.int (9 : Int32)), (.ref a1)])) _
    refine XS.i2b X12.here hx rfl (hb hby d1_18) rfl ?_
    show Steps p.tables e below (T12.setTop (mkF m 19 #[.val (.ref a1), .val (.int (8 : Int32)), .val (.long q2), .second] [(.int ((((q2.toUInt64 >>> ((48 : Int32) &&& 0x3f).toInt64.toUInt64).toInt64).toInt32).toInt8.toInt32)), (.int (9 : Int32)), (.ref a1)])) _
    refine st14 _ ?_
    show Steps p.tables e below (T14.setTop (mkF m 20 #[.val (.ref a1), .val (.int (8 : Int32)), .val (.long q2), .second] [])) _
    refine XS.aloadN X14.here hx rfl (hb hby d1_20) rfl rfl ?_
    show Steps p.tables e below (T14.setTop (mkF m 21 #[.val (.ref a1), .val (.int (8 : Int32)), .val (.long q2), .second] [(.ref a1)])) _
    refine XS.iloadN X14.here hx rfl (hb hby d1_21) rfl ?_
    show Steps p.tables e below (T14.setTop (mkF m 22 #[.val (.ref a1), .val (.int (8 : Int32)), .val (.long q2), .second] [(.int (8 : Int32)), (.ref a1)])) _
    refine XS.iconst X14.here hx rfl (hb hby d1_22) ?_
    show Steps p.tables e below (T14.setTop (mkF m 23 #[.val (.ref a1), .val (.int (8 : Int32)), .val (.long q2), .second] [(.int (2 : Int32)), (.int (8 : Int32)), (.ref a1)])) _
    refine XS.iadd X14.here hx rfl (hb hby d1_23) rfl ?_
    show Steps p.tables e below (T14.setTop (mkF m 24 #[.val (.ref a1), .val (.int (8 : Int32)), .val (.long q2), .second] [(.int (10 : Int32)), (.ref a1)])) _
    refine XS.lloadN X14.here hx rfl (hb hby d1_24) rfl ?_
    show Steps p.tables e below (T14.setTop (mkF m 25 #[.val (.ref a1), .val (.int (8 : Int32)), .val (.long q2), .second] [(.long q2), (.int (10 : Int32)), (.ref a1)])) _
    refine XS.bipush X14.here hx rfl (hb hby d1_25) ?_
    show Steps p.tables e below (T14.setTop (mkF m 27 #[.val (.ref a1), .val (.int (8 : Int32)), .val (.long q2), .second] [(.int (40 : Int32)), (.long q2), (.int (10 : Int32)), (.ref a1)])) _
    refine XS.lushr X14.here hx rfl (hb hby d1_27) rfl ?_
    show Steps p.tables e below (T14.setTop (mkF m 28 #[.val (.ref a1), .val (.int (8 : Int32)), .val (.long q2), .second] [(.long ((q2.toUInt64 >>> ((40 : Int32) &&& 0x3f).toInt64.toUInt64).toInt64)), (.int (10 : Int32)), (.ref a1)])) _
    refine XS.l2i X14.here hx rfl (hb hby d1_28) rfl ?_
    show Steps p.tables e below (T14.setTop (mkF m 29 #[.val (.ref a1), .val (.int (8 : Int32)), .val (.long q2), .second] [(.int (((q2.toUInt64 >>> ((40 : Int32) &&& 0x3f).toInt64.toUInt64).toInt64).toInt32)), (.int (10 : Int32)), (.ref a1)])) _
    refine XS.i2b X14.here hx rfl (hb hby d1_29) rfl ?_
    show Steps p.tables e below (T14.setTop (mkF m 30 #[.val (.ref a1), .val (.int (8 : Int32)), .val (.long q2), .second] [(.int ((((q2.toUInt64 >>> ((40 : Int32) &&& 0x3f).toInt64.toUInt64).toInt64).toInt32).toInt8.toInt32)), (.int (10 : Int32)), (.ref a1)])) _
    refine st16 _ ?_
    show Steps p.tables e below (T16.setTop (mkF m 31 #[.val (.ref a1), .val (.int (8 : Int32)), .val (.long q2), .second] [])) _
    refine XS.aloadN X16.here hx rfl (hb hby d1_31) rfl rfl ?_
    show Steps p.tables e below (T16.setTop (mkF m 32 #[.val (.ref a1), .val (.int (8 : Int32)), .val (.long q2), .second] [(.ref a1)])) _
    refine XS.iloadN X16.here hx rfl (hb hby d1_32) rfl ?_
    show Steps p.tables e below (T16.setTop (mkF m 33 #[.val (.ref a1), .val (.int (8 : Int32)), .val (.long q2), .second] [(.int (8 : Int32)), (.ref a1)])) _
    refine XS.iconst X16.here hx rfl (hb hby d1_33) ?_
    show Steps p.tables e below (T16.setTop (mkF m 34 #[.val (.ref a1), .val (.int (8 : Int32)), .val (.long q2), .second] [(.int (3 : Int32)), (.int (8 : Int32)), (.ref a1)])) _
    refine XS.iadd X16.here hx rfl (hb hby d1_34) rfl ?_
    show Steps p.tables e below (T16.setTop (mkF m 35 #[.val (.ref a1), .val (.int (8 : Int32)), .val (.long q2), .second] [(.int (11 : Int32)), (.ref a1)])) _
    refine XS.lloadN X16.here hx rfl (hb hby d1_35) rfl ?_
    show Steps p.tables e below (T16.setTop (mkF m 36 #[.val (.ref a1), .val (.int (8 : Int32)), .val (.long q2), .second] [(.long q2), (.int (11 : Int32)), (.ref a1)])) _
    refine XS.bipush X16.here hx rfl (hb hby d1_36) ?_
    show Steps p.tables e below (T16.setTop (mkF m 38 #[.val (.ref a1), .val (.int (8 : Int32)), .val (.long q2), .second] [(.int (32 : Int32)), (.long q2), (.int (11 : Int32)), (.ref a1)])) _
    refine XS.lushr X16.here hx rfl (hb hby d1_38) rfl ?_
    show Steps p.tables e below (T16.setTop (mkF m 39 #[.val (.ref a1), .val (.int (8 : Int32)), .val (.long q2), .second] [(.long ((q2.toUInt64 >>> ((32 : Int32) &&& 0x3f).toInt64.toUInt64).toInt64)), (.int (11 : Int32)), (.ref a1)])) _
    refine XS.l2i X16.here hx rfl (hb hby d1_39) rfl ?_
    show Steps p.tables e below (T16.setTop (mkF m 40 #[.val (.ref a1), .val (.int (8 : Int32)), .val (.long q2), .second] [(.int (((q2.toUInt64 >>> ((32 : Int32) &&& 0x3f).toInt64.toUInt64).toInt64).toInt32)), (.int (11 : Int32)), (.ref a1)])) _
    refine XS.i2b X16.here hx rfl (hb hby d1_40) rfl ?_
    show Steps p.tables e below (T16.setTop (mkF m 41 #[.val (.ref a1), .val (.int (8 : Int32)), .val (.long q2), .second] [(.int ((((q2.toUInt64 >>> ((32 : Int32) &&& 0x3f).toInt64.toUInt64).toInt64).toInt32).toInt8.toInt32)), (.int (11 : Int32)), (.ref a1)])) _
    refine st18 _ ?_
    show Steps p.tables e below (T18.setTop (mkF m 42 #[.val (.ref a1), .val (.int (8 : Int32)), .val (.long q2), .second] [])) _
    refine XS.aloadN X18.here hx rfl (hb hby d1_42) rfl rfl ?_
    show Steps p.tables e below (T18.setTop (mkF m 43 #[.val (.ref a1), .val (.int (8 : Int32)), .val (.long q2), .second] [(.ref a1)])) _
    refine XS.iloadN X18.here hx rfl (hb hby d1_43) rfl ?_
    show Steps p.tables e below (T18.setTop (mkF m 44 #[.val (.ref a1), .val (.int (8 : Int32)), .val (.long q2), .second] [(.int (8 : Int32)), (.ref a1)])) _
    refine XS.iconst X18.here hx rfl (hb hby d1_44) ?_
    show Steps p.tables e below (T18.setTop (mkF m 45 #[.val (.ref a1), .val (.int (8 : Int32)), .val (.long q2), .second] [(.int (4 : Int32)), (.int (8 : Int32)), (.ref a1)])) _
    refine XS.iadd X18.here hx rfl (hb hby d1_45) rfl ?_
    show Steps p.tables e below (T18.setTop (mkF m 46 #[.val (.ref a1), .val (.int (8 : Int32)), .val (.long q2), .second] [(.int (12 : Int32)), (.ref a1)])) _
    refine XS.lloadN X18.here hx rfl (hb hby d1_46) rfl ?_
    show Steps p.tables e below (T18.setTop (mkF m 47 #[.val (.ref a1), .val (.int (8 : Int32)), .val (.long q2), .second] [(.long q2), (.int (12 : Int32)), (.ref a1)])) _
    refine XS.bipush X18.here hx rfl (hb hby d1_47) ?_
    show Steps p.tables e below (T18.setTop (mkF m 49 #[.val (.ref a1), .val (.int (8 : Int32)), .val (.long q2), .second] [(.int (24 : Int32)), (.long q2), (.int (12 : Int32)), (.ref a1)])) _
    refine XS.lushr X18.here hx rfl (hb hby d1_49) rfl ?_
    show Steps p.tables e below (T18.setTop (mkF m 50 #[.val (.ref a1), .val (.int (8 : Int32)), .val (.long q2), .second] [(.long ((q2.toUInt64 >>> ((24 : Int32) &&& 0x3f).toInt64.toUInt64).toInt64)), (.int (12 : Int32)), (.ref a1)])) _
    refine XS.l2i X18.here hx rfl (hb hby d1_50) rfl ?_
    show Steps p.tables e below (T18.setTop (mkF m 51 #[.val (.ref a1), .val (.int (8 : Int32)), .val (.long q2), .second] [(.int (((q2.toUInt64 >>> ((24 : Int32) &&& 0x3f).toInt64.toUInt64).toInt64).toInt32)), (.int (12 : Int32)), (.ref a1)])) _
    refine XS.i2b X18.here hx rfl (hb hby d1_51) rfl ?_
    show Steps p.tables e below (T18.setTop (mkF m 52 #[.val (.ref a1), .val (.int (8 : Int32)), .val (.long q2), .second] [(.int ((((q2.toUInt64 >>> ((24 : Int32) &&& 0x3f).toInt64.toUInt64).toInt64).toInt32).toInt8.toInt32)), (.int (12 : Int32)), (.ref a1)])) _
    refine st20 _ ?_
    show Steps p.tables e below (T20.setTop (mkF m 53 #[.val (.ref a1), .val (.int (8 : Int32)), .val (.long q2), .second] [])) _
    refine XS.aloadN X20.here hx rfl (hb hby d1_53) rfl rfl ?_
    show Steps p.tables e below (T20.setTop (mkF m 54 #[.val (.ref a1), .val (.int (8 : Int32)), .val (.long q2), .second] [(.ref a1)])) _
    refine XS.iloadN X20.here hx rfl (hb hby d1_54) rfl ?_
    show Steps p.tables e below (T20.setTop (mkF m 55 #[.val (.ref a1), .val (.int (8 : Int32)), .val (.long q2), .second] [(.int (8 : Int32)), (.ref a1)])) _
    refine XS.iconst X20.here hx rfl (hb hby d1_55) ?_
    show Steps p.tables e below (T20.setTop (mkF m 56 #[.val (.ref a1), .val (.int (8 : Int32)), .val (.long q2), .second] [(.int (5 : Int32)), (.int (8 : Int32)), (.ref a1)])) _
    refine XS.iadd X20.here hx rfl (hb hby d1_56) rfl ?_
    show Steps p.tables e below (T20.setTop (mkF m 57 #[.val (.ref a1), .val (.int (8 : Int32)), .val (.long q2), .second] [(.int (13 : Int32)), (.ref a1)])) _
    refine XS.lloadN X20.here hx rfl (hb hby d1_57) rfl ?_
    show Steps p.tables e below (T20.setTop (mkF m 58 #[.val (.ref a1), .val (.int (8 : Int32)), .val (.long q2), .second] [(.long q2), (.int (13 : Int32)), (.ref a1)])) _
    refine XS.bipush X20.here hx rfl (hb hby d1_58) ?_
    show Steps p.tables e below (T20.setTop (mkF m 60 #[.val (.ref a1), .val (.int (8 : Int32)), .val (.long q2), .second] [(.int (16 : Int32)), (.long q2), (.int (13 : Int32)), (.ref a1)])) _
    refine XS.lushr X20.here hx rfl (hb hby d1_60) rfl ?_
    show Steps p.tables e below (T20.setTop (mkF m 61 #[.val (.ref a1), .val (.int (8 : Int32)), .val (.long q2), .second] [(.long ((q2.toUInt64 >>> ((16 : Int32) &&& 0x3f).toInt64.toUInt64).toInt64)), (.int (13 : Int32)), (.ref a1)])) _
    refine XS.l2i X20.here hx rfl (hb hby d1_61) rfl ?_
    show Steps p.tables e below (T20.setTop (mkF m 62 #[.val (.ref a1), .val (.int (8 : Int32)), .val (.long q2), .second] [(.int (((q2.toUInt64 >>> ((16 : Int32) &&& 0x3f).toInt64.toUInt64).toInt64).toInt32)), (.int (13 : Int32)), (.ref a1)])) _
    refine XS.i2b X20.here hx rfl (hb hby d1_62) rfl ?_
    show Steps p.tables e below (T20.setTop (mkF m 63 #[.val (.ref a1), .val (.int (8 : Int32)), .val (.long q2), .second] [(.int ((((q2.toUInt64 >>> ((16 : Int32) &&& 0x3f).toInt64.toUInt64).toInt64).toInt32).toInt8.toInt32)), (.int (13 : Int32)), (.ref a1)])) _
    refine st22 _ ?_
    show Steps p.tables e below (T22.setTop (mkF m 64 #[.val (.ref a1), .val (.int (8 : Int32)), .val (.long q2), .second] [])) _
    refine XS.aloadN X22.here hx rfl (hb hby d1_64) rfl rfl ?_
    show Steps p.tables e below (T22.setTop (mkF m 65 #[.val (.ref a1), .val (.int (8 : Int32)), .val (.long q2), .second] [(.ref a1)])) _
    refine XS.iloadN X22.here hx rfl (hb hby d1_65) rfl ?_
    show Steps p.tables e below (T22.setTop (mkF m 66 #[.val (.ref a1), .val (.int (8 : Int32)), .val (.long q2), .second] [(.int (8 : Int32)), (.ref a1)])) _
    refine XS.bipush X22.here hx rfl (hb hby d1_66) ?_
    show Steps p.tables e below (T22.setTop (mkF m 68 #[.val (.ref a1), .val (.int (8 : Int32)), .val (.long q2), .second] [(.int (6 : Int32)), (.int (8 : Int32)), (.ref a1)])) _
    refine XS.iadd X22.here hx rfl (hb hby d1_68) rfl ?_
    show Steps p.tables e below (T22.setTop (mkF m 69 #[.val (.ref a1), .val (.int (8 : Int32)), .val (.long q2), .second] [(.int (14 : Int32)), (.ref a1)])) _
    refine XS.lloadN X22.here hx rfl (hb hby d1_69) rfl ?_
    show Steps p.tables e below (T22.setTop (mkF m 70 #[.val (.ref a1), .val (.int (8 : Int32)), .val (.long q2), .second] [(.long q2), (.int (14 : Int32)), (.ref a1)])) _
    refine XS.bipush X22.here hx rfl (hb hby d1_70) ?_
    show Steps p.tables e below (T22.setTop (mkF m 72 #[.val (.ref a1), .val (.int (8 : Int32)), .val (.long q2), .second] [(.int (8 : Int32)), (.long q2), (.int (14 : Int32)), (.ref a1)])) _
    refine XS.lushr X22.here hx rfl (hb hby d1_72) rfl ?_
    show Steps p.tables e below (T22.setTop (mkF m 73 #[.val (.ref a1), .val (.int (8 : Int32)), .val (.long q2), .second] [(.long ((q2.toUInt64 >>> ((8 : Int32) &&& 0x3f).toInt64.toUInt64).toInt64)), (.int (14 : Int32)), (.ref a1)])) _
    refine XS.l2i X22.here hx rfl (hb hby d1_73) rfl ?_
    show Steps p.tables e below (T22.setTop (mkF m 74 #[.val (.ref a1), .val (.int (8 : Int32)), .val (.long q2), .second] [(.int (((q2.toUInt64 >>> ((8 : Int32) &&& 0x3f).toInt64.toUInt64).toInt64).toInt32)), (.int (14 : Int32)), (.ref a1)])) _
    refine XS.i2b X22.here hx rfl (hb hby d1_74) rfl ?_
    show Steps p.tables e below (T22.setTop (mkF m 75 #[.val (.ref a1), .val (.int (8 : Int32)), .val (.long q2), .second] [(.int ((((q2.toUInt64 >>> ((8 : Int32) &&& 0x3f).toInt64.toUInt64).toInt64).toInt32).toInt8.toInt32)), (.int (14 : Int32)), (.ref a1)])) _
    refine st24 _ ?_
    show Steps p.tables e below (T24.setTop (mkF m 76 #[.val (.ref a1), .val (.int (8 : Int32)), .val (.long q2), .second] [])) _
    refine XS.aloadN X24.here hx rfl (hb hby d1_76) rfl rfl ?_
    show Steps p.tables e below (T24.setTop (mkF m 77 #[.val (.ref a1), .val (.int (8 : Int32)), .val (.long q2), .second] [(.ref a1)])) _
    refine XS.iloadN X24.here hx rfl (hb hby d1_77) rfl ?_
    show Steps p.tables e below (T24.setTop (mkF m 78 #[.val (.ref a1), .val (.int (8 : Int32)), .val (.long q2), .second] [(.int (8 : Int32)), (.ref a1)])) _
    refine XS.bipush X24.here hx rfl (hb hby d1_78) ?_
    show Steps p.tables e below (T24.setTop (mkF m 80 #[.val (.ref a1), .val (.int (8 : Int32)), .val (.long q2), .second] [(.int (7 : Int32)), (.int (8 : Int32)), (.ref a1)])) _
    refine XS.iadd X24.here hx rfl (hb hby d1_80) rfl ?_
    show Steps p.tables e below (T24.setTop (mkF m 81 #[.val (.ref a1), .val (.int (8 : Int32)), .val (.long q2), .second] [(.int (15 : Int32)), (.ref a1)])) _
    refine XS.lloadN X24.here hx rfl (hb hby d1_81) rfl ?_
    show Steps p.tables e below (T24.setTop (mkF m 82 #[.val (.ref a1), .val (.int (8 : Int32)), .val (.long q2), .second] [(.long q2), (.int (15 : Int32)), (.ref a1)])) _
    refine XS.l2i X24.here hx rfl (hb hby d1_82) rfl ?_
    show Steps p.tables e below (T24.setTop (mkF m 83 #[.val (.ref a1), .val (.int (8 : Int32)), .val (.long q2), .second] [(.int (q2.toInt32)), (.int (15 : Int32)), (.ref a1)])) _
    refine XS.i2b X24.here hx rfl (hb hby d1_83) rfl ?_
    show Steps p.tables e below (T24.setTop (mkF m 84 #[.val (.ref a1), .val (.int (8 : Int32)), .val (.long q2), .second] [(.int ((q2.toInt32).toInt8.toInt32)), (.int (15 : Int32)), (.ref a1)])) _
    refine st26 _ ?_
    show Steps p.tables e below (T26.setTop (mkF m 85 #[.val (.ref a1), .val (.int (8 : Int32)), .val (.long q2), .second] [])) _
    exact X26.returnOut hx Bd.returns (hb hby d1_85) hr
  · show Q1_2 Z a1 q2 k_a1 w3 w4 w5 w6 w7 w8 w9 w10 h0 n0 _ T26.heap _
    rw [e26]
    exact ⟨rfl, N26, K0_26, V26⟩
def Q1_3 (Z : State) (a1 : Addr) (q2 : Int64) (k_a1 : ClassId) (w3 : Int32) (w4 : Int32) (w5 : Int32) (w6 : Int32) (w7 : Int32) (w8 : Int32) (w9 : Int32) (w10 : Int32) (w11 : Int32) (w12 : Int32) (w13 : Int32) (w14 : Int32) (w15 : Int32) (w16 : Int32) (w17 : Int32) (w18 : Int32) (h0 : Heap) (n0 : Nat) (v : Option Value) (h : Heap) (L : List Loc) : Prop := v = none ∧ Fr n0 L ∧ Keep h0 h [a1] ∧ Arv Z h a1 k_a1 .byte (32 : Int32) [(.int w3), (.int w4), (.int w5), (.int w6), (.int w7), (.int w8), (.int w9), (.int w10), (.int w11), (.int w12), (.int w13), (.int w14), (.int w15), (.int w16), (.int w17), (.int w18), (.int ((((q2.toUInt64 >>> ((56 : Int32) &&& 0x3f).toInt64.toUInt64).toInt64).toInt32).toInt8.toInt32)), (.int ((((q2.toUInt64 >>> ((48 : Int32) &&& 0x3f).toInt64.toUInt64).toInt64).toInt32).toInt8.toInt32)), (.int ((((q2.toUInt64 >>> ((40 : Int32) &&& 0x3f).toInt64.toUInt64).toInt64).toInt32).toInt8.toInt32)), (.int ((((q2.toUInt64 >>> ((32 : Int32) &&& 0x3f).toInt64.toUInt64).toInt64).toInt32).toInt8.toInt32)), (.int ((((q2.toUInt64 >>> ((24 : Int32) &&& 0x3f).toInt64.toUInt64).toInt64).toInt32).toInt8.toInt32)), (.int ((((q2.toUInt64 >>> ((16 : Int32) &&& 0x3f).toInt64.toUInt64).toInt64).toInt32).toInt8.toInt32)), (.int ((((q2.toUInt64 >>> ((8 : Int32) &&& 0x3f).toInt64.toUInt64).toInt64).toInt32).toInt8.toInt32)), (.int ((q2.toInt32).toInt8.toInt32)), (.int (0 : Int32)), (.int (0 : Int32)), (.int (0 : Int32)), (.int (0 : Int32)), (.int (0 : Int32)), (.int (0 : Int32)), (.int (0 : Int32)), (.int (0 : Int32))] (.int (0 : Int32))
set_option maxRecDepth 65536 in
set_option maxHeartbeats 40000000 in
theorem rm1_3 (l : Launch) (Z : State) (a0 : Array Value) (hw : ∀ d ∈ tables_1, d.before a0 Z = true) (ws : List Jvm.Cond) (a1 : Addr) (q2 : Int64) (k_a1 : ClassId) (w3 : Int32) (w4 : Int32) (w5 : Int32) (w6 : Int32) (w7 : Int32) (w8 : Int32) (w9 : Int32) (w10 : Int32) (w11 : Int32) (w12 : Int32) (w13 : Int32) (w14 : Int32) (w15 : Int32) (w16 : Int32) (w17 : Int32) (w18 : Int32) (h0 : Heap) (n0 : Nat) (Z0 : n0 ≤ h0.size) (V_a1 : Arv Z h0 a1 k_a1 .byte (32 : Int32) [(.int w3), (.int w4), (.int w5), (.int w6), (.int w7), (.int w8), (.int w9), (.int w10), (.int w11), (.int w12), (.int w13), (.int w14), (.int w15), (.int w16), (.int w17), (.int w18), (.int (0 : Int32)), (.int (0 : Int32)), (.int (0 : Int32)), (.int (0 : Int32)), (.int (0 : Int32)), (.int (0 : Int32)), (.int (0 : Int32)), (.int (0 : Int32)), (.int (0 : Int32)), (.int (0 : Int32)), (.int (0 : Int32)), (.int (0 : Int32)), (.int (0 : Int32)), (.int (0 : Int32)), (.int (0 : Int32)), (.int (0 : Int32))] (.int (0 : Int32))) (g_a1 : n0 ≤ a1) :
    MetFree l (⟨"com/example/lasting_names/lastingnames/Ed25519SubjectPublicKeyInfoPinLaw", "put", "([BIJ)V"⟩ : MethodName) (head1 (Jvm.Cond.code (⟨"com/example/lasting_names/lastingnames/Ed25519SubjectPublicKeyInfoPinLaw", "put", "([BIJ)V"⟩ : MethodName) method_2_code 4 none :: ws) ({ frames := 0, cells := 0, slots := 0, locals := 0 } : Room)) (fun a U => a = #[(.ref a1), (.int (16 : Int32)), (.long q2)] ∧ Z.Warmed39 U.vm ∧ U.heap = h0) (fun _ _ _ _ _ => True) (fun _ U o U' => ∃ v L, o = .returned v ∧ Q1_3 Z a1 q2 k_a1 w3 w4 w5 w6 w7 w8 w9 w10 w11 w12 w13 w14 w15 w16 w17 w18 h0 n0 v U'.heap L ∧ FrameEnd U o U' L ({ frames := 0, cells := 0, slots := 0, locals := 0 } : Room).cells ({ frames := 0, cells := 0, slots := 0, locals := 0 } : Room).slots) := by
  refine MetFree.of_bodySF (plainFor_of_name pn_1) hisR ?_
  intro p e s m args below meth c s₁ Bd hml0 hP hK
  obtain ⟨rfl, hZ, hh⟩ := hP
  have hx := Bd.exec
  have hby := Bd.bytes
  have hml : c.maxLocals = 4 := hml0
  have hown : s.vm.findClass "com/example/lasting_names/lastingnames/Ed25519SubjectPublicKeyInfoPinLaw" = some m.cls := findClass_of_methodNamed Bd.named
  have hnm := (name_of_methodNamed Bd.named Bd.method).1
  have X0 : Stand p l e ({ frames := 0, cells := 0, slots := 0, locals := 0 } : Room) s m #[(.ref a1), (.int (16 : Int32)), (.long q2)] below meth c s₁ [] 0 0 := Stand.of_body Bd
  have e0 : s₁.heap = h0 := by rw [← hh, Bd.state]; rfl
  have N0 := Fr.nil n0
  have pre0 : ∀ t, Steps p.tables e below (s₁.setTop (mkF m 0 #[.val (.ref a1), .val (.int (16 : Int32)), .val (.long q2), .second] [])) t → Steps p.tables e below (s₁.setTop (entryFrame m #[(.ref a1), (.int (16 : Int32)), (.long q2)] 4)) t := fun t k => castTop (ef_1_RIJ m a1 (16 : Int32) q2) k
  obtain ⟨cl19, Ar19, q19, S19, N_19, H19, G19⟩ := id V_a1
  have hin19 : ¬ ((16 : Int32) < 0 ∨ cl19.slots.size ≤ ((16 : Int32)).toNatClampNeg) := inb_of S19 ⟨by decide, (by decide : (16 : Int32) < (32 : Int32))⟩
  obtain ⟨T20, h20, X20, e20, W20, st20⟩ := stB X0 hx hZ e0 Ar19 (j := (16 : Int32)) hin19 (g := (mkF m 8 #[.val (.ref a1), .val (.int (16 : Int32)), .val (.long q2), .second] [(.int ((((q2.toUInt64 >>> ((56 : Int32) &&& 0x3f).toInt64.toUInt64).toInt64).toInt32).toInt8.toInt32)), (.int (16 : Int32)), (.ref a1)])) rfl rfl (hb hby d1_8)
  rw [own_b8] at W20
  have K0_20 : Keep h0 h20 [a1] := (Keep.refl h0 [a1]).wr W20 (Or.inl (List.mem_of_getElem? (i := 0) rfl))
  have N20 := Fr.snoc X20 N0 g_a1
  have Z20 : n0 ≤ h20.size := Nat.le_trans Z0 (Keep.of_wr W20).1
  have V20 : Arv Z h20 a1 k_a1 .byte (32 : Int32) [(.int w3), (.int w4), (.int w5), (.int w6), (.int w7), (.int w8), (.int w9), (.int w10), (.int w11), (.int w12), (.int w13), (.int w14), (.int w15), (.int w16), (.int w17), (.int w18), (.int ((((q2.toUInt64 >>> ((56 : Int32) &&& 0x3f).toInt64.toUInt64).toInt64).toInt32).toInt8.toInt32)), (.int (0 : Int32)), (.int (0 : Int32)), (.int (0 : Int32)), (.int (0 : Int32)), (.int (0 : Int32)), (.int (0 : Int32)), (.int (0 : Int32)), (.int (0 : Int32)), (.int (0 : Int32)), (.int (0 : Int32)), (.int (0 : Int32)), (.int (0 : Int32)), (.int (0 : Int32)), (.int (0 : Int32)), (.int (0 : Int32))] (.int (0 : Int32)) := Arv.set Ar19 q19 S19 N_19 H19 G19 (fits_nar_byte _) W20 16 rfl (Nat.le_of_ble_eq_true rfl)
  obtain ⟨cl21, Ar21, q21, S21, N_21, H21, G21⟩ := id V20
  have hin21 : ¬ ((17 : Int32) < 0 ∨ cl21.slots.size ≤ ((17 : Int32)).toNatClampNeg) := inb_of S21 ⟨by decide, (by decide : (17 : Int32) < (32 : Int32))⟩
  obtain ⟨T22, h22, X22, e22, W22, st22⟩ := stB X20 hx hZ e20 Ar21 (j := (17 : Int32)) hin21 (g := (mkF m 19 #[.val (.ref a1), .val (.int (16 : Int32)), .val (.long q2), .second] [(.int ((((q2.toUInt64 >>> ((48 : Int32) &&& 0x3f).toInt64.toUInt64).toInt64).toInt32).toInt8.toInt32)), (.int (17 : Int32)), (.ref a1)])) rfl rfl (hb hby d1_19)
  rw [own_b8] at W22
  have K0_22 : Keep h0 h22 [a1] := K0_20.wr W22 (Or.inl (List.mem_of_getElem? (i := 0) rfl))
  have N22 := Fr.snoc X22 N20 g_a1
  have Z22 : n0 ≤ h22.size := Nat.le_trans Z20 (Keep.of_wr W22).1
  have V22 : Arv Z h22 a1 k_a1 .byte (32 : Int32) [(.int w3), (.int w4), (.int w5), (.int w6), (.int w7), (.int w8), (.int w9), (.int w10), (.int w11), (.int w12), (.int w13), (.int w14), (.int w15), (.int w16), (.int w17), (.int w18), (.int ((((q2.toUInt64 >>> ((56 : Int32) &&& 0x3f).toInt64.toUInt64).toInt64).toInt32).toInt8.toInt32)), (.int ((((q2.toUInt64 >>> ((48 : Int32) &&& 0x3f).toInt64.toUInt64).toInt64).toInt32).toInt8.toInt32)), (.int (0 : Int32)), (.int (0 : Int32)), (.int (0 : Int32)), (.int (0 : Int32)), (.int (0 : Int32)), (.int (0 : Int32)), (.int (0 : Int32)), (.int (0 : Int32)), (.int (0 : Int32)), (.int (0 : Int32)), (.int (0 : Int32)), (.int (0 : Int32)), (.int (0 : Int32)), (.int (0 : Int32))] (.int (0 : Int32)) := Arv.set Ar21 q21 S21 N_21 H21 G21 (fits_nar_byte _) W22 17 rfl (Nat.le_of_ble_eq_true rfl)
  obtain ⟨cl23, Ar23, q23, S23, N_23, H23, G23⟩ := id V22
  have hin23 : ¬ ((18 : Int32) < 0 ∨ cl23.slots.size ≤ ((18 : Int32)).toNatClampNeg) := inb_of S23 ⟨by decide, (by decide : (18 : Int32) < (32 : Int32))⟩
  obtain ⟨T24, h24, X24, e24, W24, st24⟩ := stB X22 hx hZ e22 Ar23 (j := (18 : Int32)) hin23 (g := (mkF m 30 #[.val (.ref a1), .val (.int (16 : Int32)), .val (.long q2), .second] [(.int ((((q2.toUInt64 >>> ((40 : Int32) &&& 0x3f).toInt64.toUInt64).toInt64).toInt32).toInt8.toInt32)), (.int (18 : Int32)), (.ref a1)])) rfl rfl (hb hby d1_30)
  rw [own_b8] at W24
  have K0_24 : Keep h0 h24 [a1] := K0_22.wr W24 (Or.inl (List.mem_of_getElem? (i := 0) rfl))
  have N24 := Fr.snoc X24 N22 g_a1
  have Z24 : n0 ≤ h24.size := Nat.le_trans Z22 (Keep.of_wr W24).1
  have V24 : Arv Z h24 a1 k_a1 .byte (32 : Int32) [(.int w3), (.int w4), (.int w5), (.int w6), (.int w7), (.int w8), (.int w9), (.int w10), (.int w11), (.int w12), (.int w13), (.int w14), (.int w15), (.int w16), (.int w17), (.int w18), (.int ((((q2.toUInt64 >>> ((56 : Int32) &&& 0x3f).toInt64.toUInt64).toInt64).toInt32).toInt8.toInt32)), (.int ((((q2.toUInt64 >>> ((48 : Int32) &&& 0x3f).toInt64.toUInt64).toInt64).toInt32).toInt8.toInt32)), (.int ((((q2.toUInt64 >>> ((40 : Int32) &&& 0x3f).toInt64.toUInt64).toInt64).toInt32).toInt8.toInt32)), (.int (0 : Int32)), (.int (0 : Int32)), (.int (0 : Int32)), (.int (0 : Int32)), (.int (0 : Int32)), (.int (0 : Int32)), (.int (0 : Int32)), (.int (0 : Int32)), (.int (0 : Int32)), (.int (0 : Int32)), (.int (0 : Int32)), (.int (0 : Int32)), (.int (0 : Int32))] (.int (0 : Int32)) := Arv.set Ar23 q23 S23 N_23 H23 G23 (fits_nar_byte _) W24 18 rfl (Nat.le_of_ble_eq_true rfl)
  obtain ⟨cl25, Ar25, q25, S25, N_25, H25, G25⟩ := id V24
  have hin25 : ¬ ((19 : Int32) < 0 ∨ cl25.slots.size ≤ ((19 : Int32)).toNatClampNeg) := inb_of S25 ⟨by decide, (by decide : (19 : Int32) < (32 : Int32))⟩
  obtain ⟨T26, h26, X26, e26, W26, st26⟩ := stB X24 hx hZ e24 Ar25 (j := (19 : Int32)) hin25 (g := (mkF m 41 #[.val (.ref a1), .val (.int (16 : Int32)), .val (.long q2), .second] [(.int ((((q2.toUInt64 >>> ((32 : Int32) &&& 0x3f).toInt64.toUInt64).toInt64).toInt32).toInt8.toInt32)), (.int (19 : Int32)), (.ref a1)])) rfl rfl (hb hby d1_41)
  rw [own_b8] at W26
  have K0_26 : Keep h0 h26 [a1] := K0_24.wr W26 (Or.inl (List.mem_of_getElem? (i := 0) rfl))
  have N26 := Fr.snoc X26 N24 g_a1
  have Z26 : n0 ≤ h26.size := Nat.le_trans Z24 (Keep.of_wr W26).1
  have V26 : Arv Z h26 a1 k_a1 .byte (32 : Int32) [(.int w3), (.int w4), (.int w5), (.int w6), (.int w7), (.int w8), (.int w9), (.int w10), (.int w11), (.int w12), (.int w13), (.int w14), (.int w15), (.int w16), (.int w17), (.int w18), (.int ((((q2.toUInt64 >>> ((56 : Int32) &&& 0x3f).toInt64.toUInt64).toInt64).toInt32).toInt8.toInt32)), (.int ((((q2.toUInt64 >>> ((48 : Int32) &&& 0x3f).toInt64.toUInt64).toInt64).toInt32).toInt8.toInt32)), (.int ((((q2.toUInt64 >>> ((40 : Int32) &&& 0x3f).toInt64.toUInt64).toInt64).toInt32).toInt8.toInt32)), (.int ((((q2.toUInt64 >>> ((32 : Int32) &&& 0x3f).toInt64.toUInt64).toInt64).toInt32).toInt8.toInt32)), (.int (0 : Int32)), (.int (0 : Int32)), (.int (0 : Int32)), (.int (0 : Int32)), (.int (0 : Int32)), (.int (0 : Int32)), (.int (0 : Int32)), (.int (0 : Int32)), (.int (0 : Int32)), (.int (0 : Int32)), (.int (0 : Int32)), (.int (0 : Int32))] (.int (0 : Int32)) := Arv.set Ar25 q25 S25 N_25 H25 G25 (fits_nar_byte _) W26 19 rfl (Nat.le_of_ble_eq_true rfl)
  obtain ⟨cl27, Ar27, q27, S27, N_27, H27, G27⟩ := id V26
  have hin27 : ¬ ((20 : Int32) < 0 ∨ cl27.slots.size ≤ ((20 : Int32)).toNatClampNeg) := inb_of S27 ⟨by decide, (by decide : (20 : Int32) < (32 : Int32))⟩
  obtain ⟨T28, h28, X28, e28, W28, st28⟩ := stB X26 hx hZ e26 Ar27 (j := (20 : Int32)) hin27 (g := (mkF m 52 #[.val (.ref a1), .val (.int (16 : Int32)), .val (.long q2), .second] [(.int ((((q2.toUInt64 >>> ((24 : Int32) &&& 0x3f).toInt64.toUInt64).toInt64).toInt32).toInt8.toInt32)), (.int (20 : Int32)), (.ref a1)])) rfl rfl (hb hby d1_52)
  rw [own_b8] at W28
  have K0_28 : Keep h0 h28 [a1] := K0_26.wr W28 (Or.inl (List.mem_of_getElem? (i := 0) rfl))
  have N28 := Fr.snoc X28 N26 g_a1
  have Z28 : n0 ≤ h28.size := Nat.le_trans Z26 (Keep.of_wr W28).1
  have V28 : Arv Z h28 a1 k_a1 .byte (32 : Int32) [(.int w3), (.int w4), (.int w5), (.int w6), (.int w7), (.int w8), (.int w9), (.int w10), (.int w11), (.int w12), (.int w13), (.int w14), (.int w15), (.int w16), (.int w17), (.int w18), (.int ((((q2.toUInt64 >>> ((56 : Int32) &&& 0x3f).toInt64.toUInt64).toInt64).toInt32).toInt8.toInt32)), (.int ((((q2.toUInt64 >>> ((48 : Int32) &&& 0x3f).toInt64.toUInt64).toInt64).toInt32).toInt8.toInt32)), (.int ((((q2.toUInt64 >>> ((40 : Int32) &&& 0x3f).toInt64.toUInt64).toInt64).toInt32).toInt8.toInt32)), (.int ((((q2.toUInt64 >>> ((32 : Int32) &&& 0x3f).toInt64.toUInt64).toInt64).toInt32).toInt8.toInt32)), (.int ((((q2.toUInt64 >>> ((24 : Int32) &&& 0x3f).toInt64.toUInt64).toInt64).toInt32).toInt8.toInt32)), (.int (0 : Int32)), (.int (0 : Int32)), (.int (0 : Int32)), (.int (0 : Int32)), (.int (0 : Int32)), (.int (0 : Int32)), (.int (0 : Int32)), (.int (0 : Int32)), (.int (0 : Int32)), (.int (0 : Int32)), (.int (0 : Int32))] (.int (0 : Int32)) := Arv.set Ar27 q27 S27 N_27 H27 G27 (fits_nar_byte _) W28 20 rfl (Nat.le_of_ble_eq_true rfl)
  obtain ⟨cl29, Ar29, q29, S29, N_29, H29, G29⟩ := id V28
  have hin29 : ¬ ((21 : Int32) < 0 ∨ cl29.slots.size ≤ ((21 : Int32)).toNatClampNeg) := inb_of S29 ⟨by decide, (by decide : (21 : Int32) < (32 : Int32))⟩
  obtain ⟨T30, h30, X30, e30, W30, st30⟩ := stB X28 hx hZ e28 Ar29 (j := (21 : Int32)) hin29 (g := (mkF m 63 #[.val (.ref a1), .val (.int (16 : Int32)), .val (.long q2), .second] [(.int ((((q2.toUInt64 >>> ((16 : Int32) &&& 0x3f).toInt64.toUInt64).toInt64).toInt32).toInt8.toInt32)), (.int (21 : Int32)), (.ref a1)])) rfl rfl (hb hby d1_63)
  rw [own_b8] at W30
  have K0_30 : Keep h0 h30 [a1] := K0_28.wr W30 (Or.inl (List.mem_of_getElem? (i := 0) rfl))
  have N30 := Fr.snoc X30 N28 g_a1
  have Z30 : n0 ≤ h30.size := Nat.le_trans Z28 (Keep.of_wr W30).1
  have V30 : Arv Z h30 a1 k_a1 .byte (32 : Int32) [(.int w3), (.int w4), (.int w5), (.int w6), (.int w7), (.int w8), (.int w9), (.int w10), (.int w11), (.int w12), (.int w13), (.int w14), (.int w15), (.int w16), (.int w17), (.int w18), (.int ((((q2.toUInt64 >>> ((56 : Int32) &&& 0x3f).toInt64.toUInt64).toInt64).toInt32).toInt8.toInt32)), (.int ((((q2.toUInt64 >>> ((48 : Int32) &&& 0x3f).toInt64.toUInt64).toInt64).toInt32).toInt8.toInt32)), (.int ((((q2.toUInt64 >>> ((40 : Int32) &&& 0x3f).toInt64.toUInt64).toInt64).toInt32).toInt8.toInt32)), (.int ((((q2.toUInt64 >>> ((32 : Int32) &&& 0x3f).toInt64.toUInt64).toInt64).toInt32).toInt8.toInt32)), (.int ((((q2.toUInt64 >>> ((24 : Int32) &&& 0x3f).toInt64.toUInt64).toInt64).toInt32).toInt8.toInt32)), (.int ((((q2.toUInt64 >>> ((16 : Int32) &&& 0x3f).toInt64.toUInt64).toInt64).toInt32).toInt8.toInt32)), (.int (0 : Int32)), (.int (0 : Int32)), (.int (0 : Int32)), (.int (0 : Int32)), (.int (0 : Int32)), (.int (0 : Int32)), (.int (0 : Int32)), (.int (0 : Int32)), (.int (0 : Int32)), (.int (0 : Int32))] (.int (0 : Int32)) := Arv.set Ar29 q29 S29 N_29 H29 G29 (fits_nar_byte _) W30 21 rfl (Nat.le_of_ble_eq_true rfl)
  obtain ⟨cl31, Ar31, q31, S31, N_31, H31, G31⟩ := id V30
  have hin31 : ¬ ((22 : Int32) < 0 ∨ cl31.slots.size ≤ ((22 : Int32)).toNatClampNeg) := inb_of S31 ⟨by decide, (by decide : (22 : Int32) < (32 : Int32))⟩
  obtain ⟨T32, h32, X32, e32, W32, st32⟩ := stB X30 hx hZ e30 Ar31 (j := (22 : Int32)) hin31 (g := (mkF m 75 #[.val (.ref a1), .val (.int (16 : Int32)), .val (.long q2), .second] [(.int ((((q2.toUInt64 >>> ((8 : Int32) &&& 0x3f).toInt64.toUInt64).toInt64).toInt32).toInt8.toInt32)), (.int (22 : Int32)), (.ref a1)])) rfl rfl (hb hby d1_75)
  rw [own_b8] at W32
  have K0_32 : Keep h0 h32 [a1] := K0_30.wr W32 (Or.inl (List.mem_of_getElem? (i := 0) rfl))
  have N32 := Fr.snoc X32 N30 g_a1
  have Z32 : n0 ≤ h32.size := Nat.le_trans Z30 (Keep.of_wr W32).1
  have V32 : Arv Z h32 a1 k_a1 .byte (32 : Int32) [(.int w3), (.int w4), (.int w5), (.int w6), (.int w7), (.int w8), (.int w9), (.int w10), (.int w11), (.int w12), (.int w13), (.int w14), (.int w15), (.int w16), (.int w17), (.int w18), (.int ((((q2.toUInt64 >>> ((56 : Int32) &&& 0x3f).toInt64.toUInt64).toInt64).toInt32).toInt8.toInt32)), (.int ((((q2.toUInt64 >>> ((48 : Int32) &&& 0x3f).toInt64.toUInt64).toInt64).toInt32).toInt8.toInt32)), (.int ((((q2.toUInt64 >>> ((40 : Int32) &&& 0x3f).toInt64.toUInt64).toInt64).toInt32).toInt8.toInt32)), (.int ((((q2.toUInt64 >>> ((32 : Int32) &&& 0x3f).toInt64.toUInt64).toInt64).toInt32).toInt8.toInt32)), (.int ((((q2.toUInt64 >>> ((24 : Int32) &&& 0x3f).toInt64.toUInt64).toInt64).toInt32).toInt8.toInt32)), (.int ((((q2.toUInt64 >>> ((16 : Int32) &&& 0x3f).toInt64.toUInt64).toInt64).toInt32).toInt8.toInt32)), (.int ((((q2.toUInt64 >>> ((8 : Int32) &&& 0x3f).toInt64.toUInt64).toInt64).toInt32).toInt8.toInt32)), (.int (0 : Int32)), (.int (0 : Int32)), (.int (0 : Int32)), (.int (0 : Int32)), (.int (0 : Int32)), (.int (0 : Int32)), (.int (0 : Int32)), (.int (0 : Int32)), (.int (0 : Int32))] (.int (0 : Int32)) := Arv.set Ar31 q31 S31 N_31 H31 G31 (fits_nar_byte _) W32 22 rfl (Nat.le_of_ble_eq_true rfl)
  obtain ⟨cl33, Ar33, q33, S33, N_33, H33, G33⟩ := id V32
  have hin33 : ¬ ((23 : Int32) < 0 ∨ cl33.slots.size ≤ ((23 : Int32)).toNatClampNeg) := inb_of S33 ⟨by decide, (by decide : (23 : Int32) < (32 : Int32))⟩
  obtain ⟨T34, h34, X34, e34, W34, st34⟩ := stB X32 hx hZ e32 Ar33 (j := (23 : Int32)) hin33 (g := (mkF m 84 #[.val (.ref a1), .val (.int (16 : Int32)), .val (.long q2), .second] [(.int ((q2.toInt32).toInt8.toInt32)), (.int (23 : Int32)), (.ref a1)])) rfl rfl (hb hby d1_84)
  rw [own_b8] at W34
  have K0_34 : Keep h0 h34 [a1] := K0_32.wr W34 (Or.inl (List.mem_of_getElem? (i := 0) rfl))
  have N34 := Fr.snoc X34 N32 g_a1
  have Z34 : n0 ≤ h34.size := Nat.le_trans Z32 (Keep.of_wr W34).1
  have V34 : Arv Z h34 a1 k_a1 .byte (32 : Int32) [(.int w3), (.int w4), (.int w5), (.int w6), (.int w7), (.int w8), (.int w9), (.int w10), (.int w11), (.int w12), (.int w13), (.int w14), (.int w15), (.int w16), (.int w17), (.int w18), (.int ((((q2.toUInt64 >>> ((56 : Int32) &&& 0x3f).toInt64.toUInt64).toInt64).toInt32).toInt8.toInt32)), (.int ((((q2.toUInt64 >>> ((48 : Int32) &&& 0x3f).toInt64.toUInt64).toInt64).toInt32).toInt8.toInt32)), (.int ((((q2.toUInt64 >>> ((40 : Int32) &&& 0x3f).toInt64.toUInt64).toInt64).toInt32).toInt8.toInt32)), (.int ((((q2.toUInt64 >>> ((32 : Int32) &&& 0x3f).toInt64.toUInt64).toInt64).toInt32).toInt8.toInt32)), (.int ((((q2.toUInt64 >>> ((24 : Int32) &&& 0x3f).toInt64.toUInt64).toInt64).toInt32).toInt8.toInt32)), (.int ((((q2.toUInt64 >>> ((16 : Int32) &&& 0x3f).toInt64.toUInt64).toInt64).toInt32).toInt8.toInt32)), (.int ((((q2.toUInt64 >>> ((8 : Int32) &&& 0x3f).toInt64.toUInt64).toInt64).toInt32).toInt8.toInt32)), (.int ((q2.toInt32).toInt8.toInt32)), (.int (0 : Int32)), (.int (0 : Int32)), (.int (0 : Int32)), (.int (0 : Int32)), (.int (0 : Int32)), (.int (0 : Int32)), (.int (0 : Int32)), (.int (0 : Int32))] (.int (0 : Int32)) := Arv.set Ar33 q33 S33 N_33 H33 G33 (fits_nar_byte _) W34 23 rfl (Nat.le_of_ble_eq_true rfl)
  obtain ⟨fs, hr, hrun, hended, hW, hsame⟩ := X34.leave (v := none) (fun _ => rfl)
  refine ⟨_, _, pre0 _ ?_, hrun, hended, _, _, rfl, ?_, ⟨_, rfl⟩, hW, hsame.mono (by decide) (by decide)⟩
  · show Steps p.tables e below (s₁.setTop (mkF m 0 #[.val (.ref a1), .val (.int (16 : Int32)), .val (.long q2), .second] [])) _
    refine XS.aloadN X0.here hx rfl (hb hby d1_0) rfl rfl ?_
    show Steps p.tables e below (s₁.setTop (mkF m 1 #[.val (.ref a1), .val (.int (16 : Int32)), .val (.long q2), .second] [(.ref a1)])) _
    refine XS.iloadN X0.here hx rfl (hb hby d1_1) rfl ?_
    show Steps p.tables e below (s₁.setTop (mkF m 2 #[.val (.ref a1), .val (.int (16 : Int32)), .val (.long q2), .second] [(.int (16 : Int32)), (.ref a1)])) _
    refine XS.lloadN X0.here hx rfl (hb hby d1_2) rfl ?_
    show Steps p.tables e below (s₁.setTop (mkF m 3 #[.val (.ref a1), .val (.int (16 : Int32)), .val (.long q2), .second] [(.long q2), (.int (16 : Int32)), (.ref a1)])) _
    refine XS.bipush X0.here hx rfl (hb hby d1_3) ?_
    show Steps p.tables e below (s₁.setTop (mkF m 5 #[.val (.ref a1), .val (.int (16 : Int32)), .val (.long q2), .second] [(.int (56 : Int32)), (.long q2), (.int (16 : Int32)), (.ref a1)])) _
    refine XS.lushr X0.here hx rfl (hb hby d1_5) rfl ?_
    show Steps p.tables e below (s₁.setTop (mkF m 6 #[.val (.ref a1), .val (.int (16 : Int32)), .val (.long q2), .second] [(.long ((q2.toUInt64 >>> ((56 : Int32) &&& 0x3f).toInt64.toUInt64).toInt64)), (.int (16 : Int32)), (.ref a1)])) _
    refine XS.l2i X0.here hx rfl (hb hby d1_6) rfl ?_
    show Steps p.tables e below (s₁.setTop (mkF m 7 #[.val (.ref a1), .val (.int (16 : Int32)), .val (.long q2), .second] [(.int (((q2.toUInt64 >>> ((56 : Int32) &&& 0x3f).toInt64.toUInt64).toInt64).toInt32)), (.int (16 : Int32)), (.ref a1)])) _
    refine XS.i2b X0.here hx rfl (hb hby d1_7) rfl ?_
    show Steps p.tables e below (s₁.setTop (mkF m 8 #[.val (.ref a1), .val (.int (16 : Int32)), .val (.long q2), .second] [(.int ((((q2.toUInt64 >>> ((56 : Int32) &&& 0x3f).toInt64.toUInt64).toInt64).toInt32).toInt8.toInt32)), (.int (16 : Int32)), (.ref a1)])) _
    refine st20 _ ?_
    show Steps p.tables e below (T20.setTop (mkF m 9 #[.val (.ref a1), .val (.int (16 : Int32)), .val (.long q2), .second] [])) _
    refine XS.aloadN X20.here hx rfl (hb hby d1_9) rfl rfl ?_
    show Steps p.tables e below (T20.setTop (mkF m 10 #[.val (.ref a1), .val (.int (16 : Int32)), .val (.long q2), .second] [(.ref a1)])) _
    refine XS.iloadN X20.here hx rfl (hb hby d1_10) rfl ?_
    show Steps p.tables e below (T20.setTop (mkF m 11 #[.val (.ref a1), .val (.int (16 : Int32)), .val (.long q2), .second] [(.int (16 : Int32)), (.ref a1)])) _
    refine XS.iconst X20.here hx rfl (hb hby d1_11) ?_
    show Steps p.tables e below (T20.setTop (mkF m 12 #[.val (.ref a1), .val (.int (16 : Int32)), .val (.long q2), .second] [(.int (1 : Int32)), (.int (16 : Int32)), (.ref a1)])) _
    refine XS.iadd X20.here hx rfl (hb hby d1_12) rfl ?_
    show Steps p.tables e below (T20.setTop (mkF m 13 #[.val (.ref a1), .val (.int (16 : Int32)), .val (.long q2), .second] [(.int (17 : Int32)), (.ref a1)])) _
    refine XS.lloadN X20.here hx rfl (hb hby d1_13) rfl ?_
    show Steps p.tables e below (T20.setTop (mkF m 14 #[.val (.ref a1), .val (.int (16 : Int32)), .val (.long q2), .second] [(.long q2), (.int (17 : Int32)), (.ref a1)])) _
    refine XS.bipush X20.here hx rfl (hb hby d1_14) ?_
    show Steps p.tables e below (T20.setTop (mkF m 16 #[.val (.ref a1), .val (.int (16 : Int32)), .val (.long q2), .second] [(.int (48 : Int32)), (.long q2), (.int (17 : Int32)), (.ref a1)])) _
    refine XS.lushr X20.here hx rfl (hb hby d1_16) rfl ?_
    show Steps p.tables e below (T20.setTop (mkF m 17 #[.val (.ref a1), .val (.int (16 : Int32)), .val (.long q2), .second] [(.long ((q2.toUInt64 >>> ((48 : Int32) &&& 0x3f).toInt64.toUInt64).toInt64)), (.int (17 : Int32)), (.ref a1)])) _
    refine XS.l2i X20.here hx rfl (hb hby d1_17) rfl ?_
    show Steps p.tables e below (T20.setTop (mkF m 18 #[.val (.ref a1), .val (.int (16 : Int32)), .val (.long q2), .second] [(.int (((q2.toUInt64 >>> ((48 : Int32) &&& 0x3f).toInt64.toUInt64).toInt64).toInt32)), (.int (17 : Int32)), (.ref a1)])) _
    refine XS.i2b X20.here hx rfl (hb hby d1_18) rfl ?_
    show Steps p.tables e below (T20.setTop (mkF m 19 #[.val (.ref a1), .val (.int (16 : Int32)), .val (.long q2), .second] [(.int ((((q2.toUInt64 >>> ((48 : Int32) &&& 0x3f).toInt64.toUInt64).toInt64).toInt32).toInt8.toInt32)), (.int (17 : Int32)), (.ref a1)])) _
    refine st22 _ ?_
    show Steps p.tables e below (T22.setTop (mkF m 20 #[.val (.ref a1), .val (.int (16 : Int32)), .val (.long q2), .second] [])) _
    refine XS.aloadN X22.here hx rfl (hb hby d1_20) rfl rfl ?_
    show Steps p.tables e below (T22.setTop (mkF m 21 #[.val (.ref a1), .val (.int (16 : Int32)), .val (.long q2), .second] [(.ref a1)])) _
    refine XS.iloadN X22.here hx rfl (hb hby d1_21) rfl ?_
    show Steps p.tables e below (T22.setTop (mkF m 22 #[.val (.ref a1), .val (.int (16 : Int32)), .val (.long q2), .second] [(.int (16 : Int32)), (.ref a1)])) _
    refine XS.iconst X22.here hx rfl (hb hby d1_22) ?_
    show Steps p.tables e below (T22.setTop (mkF m 23 #[.val (.ref a1), .val (.int (16 : Int32)), .val (.long q2), .second] [(.int (2 : Int32)), (.int (16 : Int32)), (.ref a1)])) _
    refine XS.iadd X22.here hx rfl (hb hby d1_23) rfl ?_
    show Steps p.tables e below (T22.setTop (mkF m 24 #[.val (.ref a1), .val (.int (16 : Int32)), .val (.long q2), .second] [(.int (18 : Int32)), (.ref a1)])) _
    refine XS.lloadN X22.here hx rfl (hb hby d1_24) rfl ?_
    show Steps p.tables e below (T22.setTop (mkF m 25 #[.val (.ref a1), .val (.int (16 : Int32)), .val (.long q2), .second] [(.long q2), (.int (18 : Int32)), (.ref a1)])) _
    refine XS.bipush X22.here hx rfl (hb hby d1_25) ?_
    show Steps p.tables e below (T22.setTop (mkF m 27 #[.val (.ref a1), .val (.int (16 : Int32)), .val (.long q2), .second] [(.int (40 : Int32)), (.long q2), (.int (18 : Int32)), (.ref a1)])) _
    refine XS.lushr X22.here hx rfl (hb hby d1_27) rfl ?_
    show Steps p.tables e below (T22.setTop (mkF m 28 #[.val (.ref a1), .val (.int (16 : Int32)), .val (.long q2), .second] [(.long ((q2.toUInt64 >>> ((40 : Int32) &&& 0x3f).toInt64.toUInt64).toInt64)), (.int (18 : Int32)), (.ref a1)])) _
    refine XS.l2i X22.here hx rfl (hb hby d1_28) rfl ?_
    show Steps p.tables e below (T22.setTop (mkF m 29 #[.val (.ref a1), .val (.int (16 : Int32)), .val (.long q2), .second] [(.int (((q2.toUInt64 >>> ((40 : Int32) &&& 0x3f).toInt64.toUInt64).toInt64).toInt32)), (.int (18 : Int32)), (.ref a1)])) _
    refine XS.i2b X22.here hx rfl (hb hby d1_29) rfl ?_
    show Steps p.tables e below (T22.setTop (mkF m 30 #[.val (.ref a1), .val (.int (16 : Int32)), .val (.long q2), .second] [(.int ((((q2.toUInt64 >>> ((40 : Int32) &&& 0x3f).toInt64.toUInt64).toInt64).toInt32).toInt8.toInt32)), (.int (18 : Int32)), (.ref a1)])) _
    refine st24 _ ?_
    show Steps p.tables e below (T24.setTop (mkF m 31 #[.val (.ref a1), .val (.int (16 : Int32)), .val (.long q2), .second] [])) _
    refine XS.aloadN X24.here hx rfl (hb hby d1_31) rfl rfl ?_
    show Steps p.tables e below (T24.setTop (mkF m 32 #[.val (.ref a1), .val (.int (16 : Int32)), .val (.long q2), .second] [(.ref a1)])) _
    refine XS.iloadN X24.here hx rfl (hb hby d1_32) rfl ?_
    show Steps p.tables e below (T24.setTop (mkF m 33 #[.val (.ref a1), .val (.int (16 : Int32)), .val (.long q2), .second] [(.int (16 : Int32)), (.ref a1)])) _
    refine XS.iconst X24.here hx rfl (hb hby d1_33) ?_
    show Steps p.tables e below (T24.setTop (mkF m 34 #[.val (.ref a1), .val (.int (16 : Int32)), .val (.long q2), .second] [(.int (3 : Int32)), (.int (16 : Int32)), (.ref a1)])) _
    refine XS.iadd X24.here hx rfl (hb hby d1_34) rfl ?_
    show Steps p.tables e below (T24.setTop (mkF m 35 #[.val (.ref a1), .val (.int (16 : Int32)), .val (.long q2), .second] [(.int (19 : Int32)), (.ref a1)])) _
    refine XS.lloadN X24.here hx rfl (hb hby d1_35) rfl ?_
    show Steps p.tables e below (T24.setTop (mkF m 36 #[.val (.ref a1), .val (.int (16 : Int32)), .val (.long q2), .second] [(.long q2), (.int (19 : Int32)), (.ref a1)])) _
    refine XS.bipush X24.here hx rfl (hb hby d1_36) ?_
    show Steps p.tables e below (T24.setTop (mkF m 38 #[.val (.ref a1), .val (.int (16 : Int32)), .val (.long q2), .second] [(.int (32 : Int32)), (.long q2), (.int (19 : Int32)), (.ref a1)])) _
    refine XS.lushr X24.here hx rfl (hb hby d1_38) rfl ?_
    show Steps p.tables e below (T24.setTop (mkF m 39 #[.val (.ref a1), .val (.int (16 : Int32)), .val (.long q2), .second] [(.long ((q2.toUInt64 >>> ((32 : Int32) &&& 0x3f).toInt64.toUInt64).toInt64)), (.int (19 : Int32)), (.ref a1)])) _
    refine XS.l2i X24.here hx rfl (hb hby d1_39) rfl ?_
    show Steps p.tables e below (T24.setTop (mkF m 40 #[.val (.ref a1), .val (.int (16 : Int32)), .val (.long q2), .second] [(.int (((q2.toUInt64 >>> ((32 : Int32) &&& 0x3f).toInt64.toUInt64).toInt64).toInt32)), (.int (19 : Int32)), (.ref a1)])) _
    refine XS.i2b X24.here hx rfl (hb hby d1_40) rfl ?_
    show Steps p.tables e below (T24.setTop (mkF m 41 #[.val (.ref a1), .val (.int (16 : Int32)), .val (.long q2), .second] [(.int ((((q2.toUInt64 >>> ((32 : Int32) &&& 0x3f).toInt64.toUInt64).toInt64).toInt32).toInt8.toInt32)), (.int (19 : Int32)), (.ref a1)])) _
    refine st26 _ ?_
    show Steps p.tables e below (T26.setTop (mkF m 42 #[.val (.ref a1), .val (.int (16 : Int32)), .val (.long q2), .second] [])) _
    refine XS.aloadN X26.here hx rfl (hb hby d1_42) rfl rfl ?_
    show Steps p.tables e below (T26.setTop (mkF m 43 #[.val (.ref a1), .val (.int (16 : Int32)), .val (.long q2), .second] [(.ref a1)])) _
    refine XS.iloadN X26.here hx rfl (hb hby d1_43) rfl ?_
    show Steps p.tables e below (T26.setTop (mkF m 44 #[.val (.ref a1), .val (.int (16 : Int32)), .val (.long q2), .second] [(.int (16 : Int32)), (.ref a1)])) _
    refine XS.iconst X26.here hx rfl (hb hby d1_44) ?_
    show Steps p.tables e below (T26.setTop (mkF m 45 #[.val (.ref a1), .val (.int (16 : Int32)), .val (.long q2), .second] [(.int (4 : Int32)), (.int (16 : Int32)), (.ref a1)])) _
    refine XS.iadd X26.here hx rfl (hb hby d1_45) rfl ?_
    show Steps p.tables e below (T26.setTop (mkF m 46 #[.val (.ref a1), .val (.int (16 : Int32)), .val (.long q2), .second] [(.int (20 : Int32)), (.ref a1)])) _
    refine XS.lloadN X26.here hx rfl (hb hby d1_46) rfl ?_
    show Steps p.tables e below (T26.setTop (mkF m 47 #[.val (.ref a1), .val (.int (16 : Int32)), .val (.long q2), .second] [(.long q2), (.int (20 : Int32)), (.ref a1)])) _
    refine XS.bipush X26.here hx rfl (hb hby d1_47) ?_
    show Steps p.tables e below (T26.setTop (mkF m 49 #[.val (.ref a1), .val (.int (16 : Int32)), .val (.long q2), .second] [(.int (24 : Int32)), (.long q2), (.int (20 : Int32)), (.ref a1)])) _
    refine XS.lushr X26.here hx rfl (hb hby d1_49) rfl ?_
    show Steps p.tables e below (T26.setTop (mkF m 50 #[.val (.ref a1), .val (.int (16 : Int32)), .val (.long q2), .second] [(.long ((q2.toUInt64 >>> ((24 : Int32) &&& 0x3f).toInt64.toUInt64).toInt64)), (.int (20 : Int32)), (.ref a1)])) _
    refine XS.l2i X26.here hx rfl (hb hby d1_50) rfl ?_
    show Steps p.tables e below (T26.setTop (mkF m 51 #[.val (.ref a1), .val (.int (16 : Int32)), .val (.long q2), .second] [(.int (((q2.toUInt64 >>> ((24 : Int32) &&& 0x3f).toInt64.toUInt64).toInt64).toInt32)), (.int (20 : Int32)), (.ref a1)])) _
    refine XS.i2b X26.here hx rfl (hb hby d1_51) rfl ?_
    show Steps p.tables e below (T26.setTop (mkF m 52 #[.val (.ref a1), .val (.int (16 : Int32)), .val (.long q2), .second] [(.int ((((q2.toUInt64 >>> ((24 : Int32) &&& 0x3f).toInt64.toUInt64).toInt64).toInt32).toInt8.toInt32)), (.int (20 : Int32)), (.ref a1)])) _
    refine st28 _ ?_
    show Steps p.tables e below (T28.setTop (mkF m 53 #[.val (.ref a1), .val (.int (16 : Int32)), .val (.long q2), .second] [])) _
    refine XS.aloadN X28.here hx rfl (hb hby d1_53) rfl rfl ?_
    show Steps p.tables e below (T28.setTop (mkF m 54 #[.val (.ref a1), .val (.int (16 : Int32)), .val (.long q2), .second] [(.ref a1)])) _
    refine XS.iloadN X28.here hx rfl (hb hby d1_54) rfl ?_
    show Steps p.tables e below (T28.setTop (mkF m 55 #[.val (.ref a1), .val (.int (16 : Int32)), .val (.long q2), .second] [(.int (16 : Int32)), (.ref a1)])) _
    refine XS.iconst X28.here hx rfl (hb hby d1_55) ?_
    show Steps p.tables e below (T28.setTop (mkF m 56 #[.val (.ref a1), .val (.int (16 : Int32)), .val (.long q2), .second] [(.int (5 : Int32)), (.int (16 : Int32)), (.ref a1)])) _
    refine XS.iadd X28.here hx rfl (hb hby d1_56) rfl ?_
    show Steps p.tables e below (T28.setTop (mkF m 57 #[.val (.ref a1), .val (.int (16 : Int32)), .val (.long q2), .second] [(.int (21 : Int32)), (.ref a1)])) _
    refine XS.lloadN X28.here hx rfl (hb hby d1_57) rfl ?_
    show Steps p.tables e below (T28.setTop (mkF m 58 #[.val (.ref a1), .val (.int (16 : Int32)), .val (.long q2), .second] [(.long q2), (.int (21 : Int32)), (.ref a1)])) _
    refine XS.bipush X28.here hx rfl (hb hby d1_58) ?_
    show Steps p.tables e below (T28.setTop (mkF m 60 #[.val (.ref a1), .val (.int (16 : Int32)), .val (.long q2), .second] [(.int (16 : Int32)), (.long q2), (.int (21 : Int32)), (.ref a1)])) _
    refine XS.lushr X28.here hx rfl (hb hby d1_60) rfl ?_
    show Steps p.tables e below (T28.setTop (mkF m 61 #[.val (.ref a1), .val (.int (16 : Int32)), .val (.long q2), .second] [(.long ((q2.toUInt64 >>> ((16 : Int32) &&& 0x3f).toInt64.toUInt64).toInt64)), (.int (21 : Int32)), (.ref a1)])) _
    refine XS.l2i X28.here hx rfl (hb hby d1_61) rfl ?_
    show Steps p.tables e below (T28.setTop (mkF m 62 #[.val (.ref a1), .val (.int (16 : Int32)), .val (.long q2), .second] [(.int (((q2.toUInt64 >>> ((16 : Int32) &&& 0x3f).toInt64.toUInt64).toInt64).toInt32)), (.int (21 : Int32)), (.ref a1)])) _
    refine XS.i2b X28.here hx rfl (hb hby d1_62) rfl ?_
    show Steps p.tables e below (T28.setTop (mkF m 63 #[.val (.ref a1), .val (.int (16 : Int32)), .val (.long q2), .second] [(.int ((((q2.toUInt64 >>> ((16 : Int32) &&& 0x3f).toInt64.toUInt64).toInt64).toInt32).toInt8.toInt32)), (.int (21 : Int32)), (.ref a1)])) _
    refine st30 _ ?_
    show Steps p.tables e below (T30.setTop (mkF m 64 #[.val (.ref a1), .val (.int (16 : Int32)), .val (.long q2), .second] [])) _
    refine XS.aloadN X30.here hx rfl (hb hby d1_64) rfl rfl ?_
    show Steps p.tables e below (T30.setTop (mkF m 65 #[.val (.ref a1), .val (.int (16 : Int32)), .val (.long q2), .second] [(.ref a1)])) _
    refine XS.iloadN X30.here hx rfl (hb hby d1_65) rfl ?_
    show Steps p.tables e below (T30.setTop (mkF m 66 #[.val (.ref a1), .val (.int (16 : Int32)), .val (.long q2), .second] [(.int (16 : Int32)), (.ref a1)])) _
    refine XS.bipush X30.here hx rfl (hb hby d1_66) ?_
    show Steps p.tables e below (T30.setTop (mkF m 68 #[.val (.ref a1), .val (.int (16 : Int32)), .val (.long q2), .second] [(.int (6 : Int32)), (.int (16 : Int32)), (.ref a1)])) _
    refine XS.iadd X30.here hx rfl (hb hby d1_68) rfl ?_
    show Steps p.tables e below (T30.setTop (mkF m 69 #[.val (.ref a1), .val (.int (16 : Int32)), .val (.long q2), .second] [(.int (22 : Int32)), (.ref a1)])) _
    refine XS.lloadN X30.here hx rfl (hb hby d1_69) rfl ?_
    show Steps p.tables e below (T30.setTop (mkF m 70 #[.val (.ref a1), .val (.int (16 : Int32)), .val (.long q2), .second] [(.long q2), (.int (22 : Int32)), (.ref a1)])) _
    refine XS.bipush X30.here hx rfl (hb hby d1_70) ?_
    show Steps p.tables e below (T30.setTop (mkF m 72 #[.val (.ref a1), .val (.int (16 : Int32)), .val (.long q2), .second] [(.int (8 : Int32)), (.long q2), (.int (22 : Int32)), (.ref a1)])) _
    refine XS.lushr X30.here hx rfl (hb hby d1_72) rfl ?_
    show Steps p.tables e below (T30.setTop (mkF m 73 #[.val (.ref a1), .val (.int (16 : Int32)), .val (.long q2), .second] [(.long ((q2.toUInt64 >>> ((8 : Int32) &&& 0x3f).toInt64.toUInt64).toInt64)), (.int (22 : Int32)), (.ref a1)])) _
    refine XS.l2i X30.here hx rfl (hb hby d1_73) rfl ?_
    show Steps p.tables e below (T30.setTop (mkF m 74 #[.val (.ref a1), .val (.int (16 : Int32)), .val (.long q2), .second] [(.int (((q2.toUInt64 >>> ((8 : Int32) &&& 0x3f).toInt64.toUInt64).toInt64).toInt32)), (.int (22 : Int32)), (.ref a1)])) _
    refine XS.i2b X30.here hx rfl (hb hby d1_74) rfl ?_
    show Steps p.tables e below (T30.setTop (mkF m 75 #[.val (.ref a1), .val (.int (16 : Int32)), .val (.long q2), .second] [(.int ((((q2.toUInt64 >>> ((8 : Int32) &&& 0x3f).toInt64.toUInt64).toInt64).toInt32).toInt8.toInt32)), (.int (22 : Int32)), (.ref a1)])) _
    refine st32 _ ?_
    show Steps p.tables e below (T32.setTop (mkF m 76 #[.val (.ref a1), .val (.int (16 : Int32)), .val (.long q2), .second] [])) _
    refine XS.aloadN X32.here hx rfl (hb hby d1_76) rfl rfl ?_
    show Steps p.tables e below (T32.setTop (mkF m 77 #[.val (.ref a1), .val (.int (16 : Int32)), .val (.long q2), .second] [(.ref a1)])) _
    refine XS.iloadN X32.here hx rfl (hb hby d1_77) rfl ?_
    show Steps p.tables e below (T32.setTop (mkF m 78 #[.val (.ref a1), .val (.int (16 : Int32)), .val (.long q2), .second] [(.int (16 : Int32)), (.ref a1)])) _
    refine XS.bipush X32.here hx rfl (hb hby d1_78) ?_
    show Steps p.tables e below (T32.setTop (mkF m 80 #[.val (.ref a1), .val (.int (16 : Int32)), .val (.long q2), .second] [(.int (7 : Int32)), (.int (16 : Int32)), (.ref a1)])) _
    refine XS.iadd X32.here hx rfl (hb hby d1_80) rfl ?_
    show Steps p.tables e below (T32.setTop (mkF m 81 #[.val (.ref a1), .val (.int (16 : Int32)), .val (.long q2), .second] [(.int (23 : Int32)), (.ref a1)])) _
    refine XS.lloadN X32.here hx rfl (hb hby d1_81) rfl ?_
    show Steps p.tables e below (T32.setTop (mkF m 82 #[.val (.ref a1), .val (.int (16 : Int32)), .val (.long q2), .second] [(.long q2), (.int (23 : Int32)), (.ref a1)])) _
    refine XS.l2i X32.here hx rfl (hb hby d1_82) rfl ?_
    show Steps p.tables e below (T32.setTop (mkF m 83 #[.val (.ref a1), .val (.int (16 : Int32)), .val (.long q2), .second] [(.int (q2.toInt32)), (.int (23 : Int32)), (.ref a1)])) _
    refine XS.i2b X32.here hx rfl (hb hby d1_83) rfl ?_
    show Steps p.tables e below (T32.setTop (mkF m 84 #[.val (.ref a1), .val (.int (16 : Int32)), .val (.long q2), .second] [(.int ((q2.toInt32).toInt8.toInt32)), (.int (23 : Int32)), (.ref a1)])) _
    refine st34 _ ?_
    show Steps p.tables e below (T34.setTop (mkF m 85 #[.val (.ref a1), .val (.int (16 : Int32)), .val (.long q2), .second] [])) _
    exact X34.returnOut hx Bd.returns (hb hby d1_85) hr
  · show Q1_3 Z a1 q2 k_a1 w3 w4 w5 w6 w7 w8 w9 w10 w11 w12 w13 w14 w15 w16 w17 w18 h0 n0 _ T34.heap _
    rw [e34]
    exact ⟨rfl, N34, K0_34, V34⟩
def Q1_4 (Z : State) (a1 : Addr) (q2 : Int64) (k_a1 : ClassId) (w3 : Int32) (w4 : Int32) (w5 : Int32) (w6 : Int32) (w7 : Int32) (w8 : Int32) (w9 : Int32) (w10 : Int32) (w11 : Int32) (w12 : Int32) (w13 : Int32) (w14 : Int32) (w15 : Int32) (w16 : Int32) (w17 : Int32) (w18 : Int32) (w19 : Int32) (w20 : Int32) (w21 : Int32) (w22 : Int32) (w23 : Int32) (w24 : Int32) (w25 : Int32) (w26 : Int32) (h0 : Heap) (n0 : Nat) (v : Option Value) (h : Heap) (L : List Loc) : Prop := v = none ∧ Fr n0 L ∧ Keep h0 h [a1] ∧ Arv Z h a1 k_a1 .byte (32 : Int32) [(.int w3), (.int w4), (.int w5), (.int w6), (.int w7), (.int w8), (.int w9), (.int w10), (.int w11), (.int w12), (.int w13), (.int w14), (.int w15), (.int w16), (.int w17), (.int w18), (.int w19), (.int w20), (.int w21), (.int w22), (.int w23), (.int w24), (.int w25), (.int w26), (.int ((((q2.toUInt64 >>> ((56 : Int32) &&& 0x3f).toInt64.toUInt64).toInt64).toInt32).toInt8.toInt32)), (.int ((((q2.toUInt64 >>> ((48 : Int32) &&& 0x3f).toInt64.toUInt64).toInt64).toInt32).toInt8.toInt32)), (.int ((((q2.toUInt64 >>> ((40 : Int32) &&& 0x3f).toInt64.toUInt64).toInt64).toInt32).toInt8.toInt32)), (.int ((((q2.toUInt64 >>> ((32 : Int32) &&& 0x3f).toInt64.toUInt64).toInt64).toInt32).toInt8.toInt32)), (.int ((((q2.toUInt64 >>> ((24 : Int32) &&& 0x3f).toInt64.toUInt64).toInt64).toInt32).toInt8.toInt32)), (.int ((((q2.toUInt64 >>> ((16 : Int32) &&& 0x3f).toInt64.toUInt64).toInt64).toInt32).toInt8.toInt32)), (.int ((((q2.toUInt64 >>> ((8 : Int32) &&& 0x3f).toInt64.toUInt64).toInt64).toInt32).toInt8.toInt32)), (.int ((q2.toInt32).toInt8.toInt32))] (.int (0 : Int32))
set_option maxRecDepth 65536 in
set_option maxHeartbeats 40000000 in
theorem rm1_4 (l : Launch) (Z : State) (a0 : Array Value) (hw : ∀ d ∈ tables_1, d.before a0 Z = true) (ws : List Jvm.Cond) (a1 : Addr) (q2 : Int64) (k_a1 : ClassId) (w3 : Int32) (w4 : Int32) (w5 : Int32) (w6 : Int32) (w7 : Int32) (w8 : Int32) (w9 : Int32) (w10 : Int32) (w11 : Int32) (w12 : Int32) (w13 : Int32) (w14 : Int32) (w15 : Int32) (w16 : Int32) (w17 : Int32) (w18 : Int32) (w19 : Int32) (w20 : Int32) (w21 : Int32) (w22 : Int32) (w23 : Int32) (w24 : Int32) (w25 : Int32) (w26 : Int32) (h0 : Heap) (n0 : Nat) (Z0 : n0 ≤ h0.size) (V_a1 : Arv Z h0 a1 k_a1 .byte (32 : Int32) [(.int w3), (.int w4), (.int w5), (.int w6), (.int w7), (.int w8), (.int w9), (.int w10), (.int w11), (.int w12), (.int w13), (.int w14), (.int w15), (.int w16), (.int w17), (.int w18), (.int w19), (.int w20), (.int w21), (.int w22), (.int w23), (.int w24), (.int w25), (.int w26), (.int (0 : Int32)), (.int (0 : Int32)), (.int (0 : Int32)), (.int (0 : Int32)), (.int (0 : Int32)), (.int (0 : Int32)), (.int (0 : Int32)), (.int (0 : Int32))] (.int (0 : Int32))) (g_a1 : n0 ≤ a1) :
    MetFree l (⟨"com/example/lasting_names/lastingnames/Ed25519SubjectPublicKeyInfoPinLaw", "put", "([BIJ)V"⟩ : MethodName) (head1 (Jvm.Cond.code (⟨"com/example/lasting_names/lastingnames/Ed25519SubjectPublicKeyInfoPinLaw", "put", "([BIJ)V"⟩ : MethodName) method_2_code 4 none :: ws) ({ frames := 0, cells := 0, slots := 0, locals := 0 } : Room)) (fun a U => a = #[(.ref a1), (.int (24 : Int32)), (.long q2)] ∧ Z.Warmed39 U.vm ∧ U.heap = h0) (fun _ _ _ _ _ => True) (fun _ U o U' => ∃ v L, o = .returned v ∧ Q1_4 Z a1 q2 k_a1 w3 w4 w5 w6 w7 w8 w9 w10 w11 w12 w13 w14 w15 w16 w17 w18 w19 w20 w21 w22 w23 w24 w25 w26 h0 n0 v U'.heap L ∧ FrameEnd U o U' L ({ frames := 0, cells := 0, slots := 0, locals := 0 } : Room).cells ({ frames := 0, cells := 0, slots := 0, locals := 0 } : Room).slots) := by
  refine MetFree.of_bodySF (plainFor_of_name pn_1) hisR ?_
  intro p e s m args below meth c s₁ Bd hml0 hP hK
  obtain ⟨rfl, hZ, hh⟩ := hP
  have hx := Bd.exec
  have hby := Bd.bytes
  have hml : c.maxLocals = 4 := hml0
  have hown : s.vm.findClass "com/example/lasting_names/lastingnames/Ed25519SubjectPublicKeyInfoPinLaw" = some m.cls := findClass_of_methodNamed Bd.named
  have hnm := (name_of_methodNamed Bd.named Bd.method).1
  have X0 : Stand p l e ({ frames := 0, cells := 0, slots := 0, locals := 0 } : Room) s m #[(.ref a1), (.int (24 : Int32)), (.long q2)] below meth c s₁ [] 0 0 := Stand.of_body Bd
  have e0 : s₁.heap = h0 := by rw [← hh, Bd.state]; rfl
  have N0 := Fr.nil n0
  have pre0 : ∀ t, Steps p.tables e below (s₁.setTop (mkF m 0 #[.val (.ref a1), .val (.int (24 : Int32)), .val (.long q2), .second] [])) t → Steps p.tables e below (s₁.setTop (entryFrame m #[(.ref a1), (.int (24 : Int32)), (.long q2)] 4)) t := fun t k => castTop (ef_1_RIJ m a1 (24 : Int32) q2) k
  obtain ⟨cl27, Ar27, q27, S27, N_27, H27, G27⟩ := id V_a1
  have hin27 : ¬ ((24 : Int32) < 0 ∨ cl27.slots.size ≤ ((24 : Int32)).toNatClampNeg) := inb_of S27 ⟨by decide, (by decide : (24 : Int32) < (32 : Int32))⟩
  obtain ⟨T28, h28, X28, e28, W28, st28⟩ := stB X0 hx hZ e0 Ar27 (j := (24 : Int32)) hin27 (g := (mkF m 8 #[.val (.ref a1), .val (.int (24 : Int32)), .val (.long q2), .second] [(.int ((((q2.toUInt64 >>> ((56 : Int32) &&& 0x3f).toInt64.toUInt64).toInt64).toInt32).toInt8.toInt32)), (.int (24 : Int32)), (.ref a1)])) rfl rfl (hb hby d1_8)
  rw [own_b8] at W28
  have K0_28 : Keep h0 h28 [a1] := (Keep.refl h0 [a1]).wr W28 (Or.inl (List.mem_of_getElem? (i := 0) rfl))
  have N28 := Fr.snoc X28 N0 g_a1
  have Z28 : n0 ≤ h28.size := Nat.le_trans Z0 (Keep.of_wr W28).1
  have V28 : Arv Z h28 a1 k_a1 .byte (32 : Int32) [(.int w3), (.int w4), (.int w5), (.int w6), (.int w7), (.int w8), (.int w9), (.int w10), (.int w11), (.int w12), (.int w13), (.int w14), (.int w15), (.int w16), (.int w17), (.int w18), (.int w19), (.int w20), (.int w21), (.int w22), (.int w23), (.int w24), (.int w25), (.int w26), (.int ((((q2.toUInt64 >>> ((56 : Int32) &&& 0x3f).toInt64.toUInt64).toInt64).toInt32).toInt8.toInt32)), (.int (0 : Int32)), (.int (0 : Int32)), (.int (0 : Int32)), (.int (0 : Int32)), (.int (0 : Int32)), (.int (0 : Int32)), (.int (0 : Int32))] (.int (0 : Int32)) := Arv.set Ar27 q27 S27 N_27 H27 G27 (fits_nar_byte _) W28 24 rfl (Nat.le_of_ble_eq_true rfl)
  obtain ⟨cl29, Ar29, q29, S29, N_29, H29, G29⟩ := id V28
  have hin29 : ¬ ((25 : Int32) < 0 ∨ cl29.slots.size ≤ ((25 : Int32)).toNatClampNeg) := inb_of S29 ⟨by decide, (by decide : (25 : Int32) < (32 : Int32))⟩
  obtain ⟨T30, h30, X30, e30, W30, st30⟩ := stB X28 hx hZ e28 Ar29 (j := (25 : Int32)) hin29 (g := (mkF m 19 #[.val (.ref a1), .val (.int (24 : Int32)), .val (.long q2), .second] [(.int ((((q2.toUInt64 >>> ((48 : Int32) &&& 0x3f).toInt64.toUInt64).toInt64).toInt32).toInt8.toInt32)), (.int (25 : Int32)), (.ref a1)])) rfl rfl (hb hby d1_19)
  rw [own_b8] at W30
  have K0_30 : Keep h0 h30 [a1] := K0_28.wr W30 (Or.inl (List.mem_of_getElem? (i := 0) rfl))
  have N30 := Fr.snoc X30 N28 g_a1
  have Z30 : n0 ≤ h30.size := Nat.le_trans Z28 (Keep.of_wr W30).1
  have V30 : Arv Z h30 a1 k_a1 .byte (32 : Int32) [(.int w3), (.int w4), (.int w5), (.int w6), (.int w7), (.int w8), (.int w9), (.int w10), (.int w11), (.int w12), (.int w13), (.int w14), (.int w15), (.int w16), (.int w17), (.int w18), (.int w19), (.int w20), (.int w21), (.int w22), (.int w23), (.int w24), (.int w25), (.int w26), (.int ((((q2.toUInt64 >>> ((56 : Int32) &&& 0x3f).toInt64.toUInt64).toInt64).toInt32).toInt8.toInt32)), (.int ((((q2.toUInt64 >>> ((48 : Int32) &&& 0x3f).toInt64.toUInt64).toInt64).toInt32).toInt8.toInt32)), (.int (0 : Int32)), (.int (0 : Int32)), (.int (0 : Int32)), (.int (0 : Int32)), (.int (0 : Int32)), (.int (0 : Int32))] (.int (0 : Int32)) := Arv.set Ar29 q29 S29 N_29 H29 G29 (fits_nar_byte _) W30 25 rfl (Nat.le_of_ble_eq_true rfl)
  obtain ⟨cl31, Ar31, q31, S31, N_31, H31, G31⟩ := id V30
  have hin31 : ¬ ((26 : Int32) < 0 ∨ cl31.slots.size ≤ ((26 : Int32)).toNatClampNeg) := inb_of S31 ⟨by decide, (by decide : (26 : Int32) < (32 : Int32))⟩
  obtain ⟨T32, h32, X32, e32, W32, st32⟩ := stB X30 hx hZ e30 Ar31 (j := (26 : Int32)) hin31 (g := (mkF m 30 #[.val (.ref a1), .val (.int (24 : Int32)), .val (.long q2), .second] [(.int ((((q2.toUInt64 >>> ((40 : Int32) &&& 0x3f).toInt64.toUInt64).toInt64).toInt32).toInt8.toInt32)), (.int (26 : Int32)), (.ref a1)])) rfl rfl (hb hby d1_30)
  rw [own_b8] at W32
  have K0_32 : Keep h0 h32 [a1] := K0_30.wr W32 (Or.inl (List.mem_of_getElem? (i := 0) rfl))
  have N32 := Fr.snoc X32 N30 g_a1
  have Z32 : n0 ≤ h32.size := Nat.le_trans Z30 (Keep.of_wr W32).1
  have V32 : Arv Z h32 a1 k_a1 .byte (32 : Int32) [(.int w3), (.int w4), (.int w5), (.int w6), (.int w7), (.int w8), (.int w9), (.int w10), (.int w11), (.int w12), (.int w13), (.int w14), (.int w15), (.int w16), (.int w17), (.int w18), (.int w19), (.int w20), (.int w21), (.int w22), (.int w23), (.int w24), (.int w25), (.int w26), (.int ((((q2.toUInt64 >>> ((56 : Int32) &&& 0x3f).toInt64.toUInt64).toInt64).toInt32).toInt8.toInt32)), (.int ((((q2.toUInt64 >>> ((48 : Int32) &&& 0x3f).toInt64.toUInt64).toInt64).toInt32).toInt8.toInt32)), (.int ((((q2.toUInt64 >>> ((40 : Int32) &&& 0x3f).toInt64.toUInt64).toInt64).toInt32).toInt8.toInt32)), (.int (0 : Int32)), (.int (0 : Int32)), (.int (0 : Int32)), (.int (0 : Int32)), (.int (0 : Int32))] (.int (0 : Int32)) := Arv.set Ar31 q31 S31 N_31 H31 G31 (fits_nar_byte _) W32 26 rfl (Nat.le_of_ble_eq_true rfl)
  obtain ⟨cl33, Ar33, q33, S33, N_33, H33, G33⟩ := id V32
  have hin33 : ¬ ((27 : Int32) < 0 ∨ cl33.slots.size ≤ ((27 : Int32)).toNatClampNeg) := inb_of S33 ⟨by decide, (by decide : (27 : Int32) < (32 : Int32))⟩
  obtain ⟨T34, h34, X34, e34, W34, st34⟩ := stB X32 hx hZ e32 Ar33 (j := (27 : Int32)) hin33 (g := (mkF m 41 #[.val (.ref a1), .val (.int (24 : Int32)), .val (.long q2), .second] [(.int ((((q2.toUInt64 >>> ((32 : Int32) &&& 0x3f).toInt64.toUInt64).toInt64).toInt32).toInt8.toInt32)), (.int (27 : Int32)), (.ref a1)])) rfl rfl (hb hby d1_41)
  rw [own_b8] at W34
  have K0_34 : Keep h0 h34 [a1] := K0_32.wr W34 (Or.inl (List.mem_of_getElem? (i := 0) rfl))
  have N34 := Fr.snoc X34 N32 g_a1
  have Z34 : n0 ≤ h34.size := Nat.le_trans Z32 (Keep.of_wr W34).1
  have V34 : Arv Z h34 a1 k_a1 .byte (32 : Int32) [(.int w3), (.int w4), (.int w5), (.int w6), (.int w7), (.int w8), (.int w9), (.int w10), (.int w11), (.int w12), (.int w13), (.int w14), (.int w15), (.int w16), (.int w17), (.int w18), (.int w19), (.int w20), (.int w21), (.int w22), (.int w23), (.int w24), (.int w25), (.int w26), (.int ((((q2.toUInt64 >>> ((56 : Int32) &&& 0x3f).toInt64.toUInt64).toInt64).toInt32).toInt8.toInt32)), (.int ((((q2.toUInt64 >>> ((48 : Int32) &&& 0x3f).toInt64.toUInt64).toInt64).toInt32).toInt8.toInt32)), (.int ((((q2.toUInt64 >>> ((40 : Int32) &&& 0x3f).toInt64.toUInt64).toInt64).toInt32).toInt8.toInt32)), (.int ((((q2.toUInt64 >>> ((32 : Int32) &&& 0x3f).toInt64.toUInt64).toInt64).toInt32).toInt8.toInt32)), (.int (0 : Int32)), (.int (0 : Int32)), (.int (0 : Int32)), (.int (0 : Int32))] (.int (0 : Int32)) := Arv.set Ar33 q33 S33 N_33 H33 G33 (fits_nar_byte _) W34 27 rfl (Nat.le_of_ble_eq_true rfl)
  obtain ⟨cl35, Ar35, q35, S35, N_35, H35, G35⟩ := id V34
  have hin35 : ¬ ((28 : Int32) < 0 ∨ cl35.slots.size ≤ ((28 : Int32)).toNatClampNeg) := inb_of S35 ⟨by decide, (by decide : (28 : Int32) < (32 : Int32))⟩
  obtain ⟨T36, h36, X36, e36, W36, st36⟩ := stB X34 hx hZ e34 Ar35 (j := (28 : Int32)) hin35 (g := (mkF m 52 #[.val (.ref a1), .val (.int (24 : Int32)), .val (.long q2), .second] [(.int ((((q2.toUInt64 >>> ((24 : Int32) &&& 0x3f).toInt64.toUInt64).toInt64).toInt32).toInt8.toInt32)), (.int (28 : Int32)), (.ref a1)])) rfl rfl (hb hby d1_52)
  rw [own_b8] at W36
  have K0_36 : Keep h0 h36 [a1] := K0_34.wr W36 (Or.inl (List.mem_of_getElem? (i := 0) rfl))
  have N36 := Fr.snoc X36 N34 g_a1
  have Z36 : n0 ≤ h36.size := Nat.le_trans Z34 (Keep.of_wr W36).1
  have V36 : Arv Z h36 a1 k_a1 .byte (32 : Int32) [(.int w3), (.int w4), (.int w5), (.int w6), (.int w7), (.int w8), (.int w9), (.int w10), (.int w11), (.int w12), (.int w13), (.int w14), (.int w15), (.int w16), (.int w17), (.int w18), (.int w19), (.int w20), (.int w21), (.int w22), (.int w23), (.int w24), (.int w25), (.int w26), (.int ((((q2.toUInt64 >>> ((56 : Int32) &&& 0x3f).toInt64.toUInt64).toInt64).toInt32).toInt8.toInt32)), (.int ((((q2.toUInt64 >>> ((48 : Int32) &&& 0x3f).toInt64.toUInt64).toInt64).toInt32).toInt8.toInt32)), (.int ((((q2.toUInt64 >>> ((40 : Int32) &&& 0x3f).toInt64.toUInt64).toInt64).toInt32).toInt8.toInt32)), (.int ((((q2.toUInt64 >>> ((32 : Int32) &&& 0x3f).toInt64.toUInt64).toInt64).toInt32).toInt8.toInt32)), (.int ((((q2.toUInt64 >>> ((24 : Int32) &&& 0x3f).toInt64.toUInt64).toInt64).toInt32).toInt8.toInt32)), (.int (0 : Int32)), (.int (0 : Int32)), (.int (0 : Int32))] (.int (0 : Int32)) := Arv.set Ar35 q35 S35 N_35 H35 G35 (fits_nar_byte _) W36 28 rfl (Nat.le_of_ble_eq_true rfl)
  obtain ⟨cl37, Ar37, q37, S37, N_37, H37, G37⟩ := id V36
  have hin37 : ¬ ((29 : Int32) < 0 ∨ cl37.slots.size ≤ ((29 : Int32)).toNatClampNeg) := inb_of S37 ⟨by decide, (by decide : (29 : Int32) < (32 : Int32))⟩
  obtain ⟨T38, h38, X38, e38, W38, st38⟩ := stB X36 hx hZ e36 Ar37 (j := (29 : Int32)) hin37 (g := (mkF m 63 #[.val (.ref a1), .val (.int (24 : Int32)), .val (.long q2), .second] [(.int ((((q2.toUInt64 >>> ((16 : Int32) &&& 0x3f).toInt64.toUInt64).toInt64).toInt32).toInt8.toInt32)), (.int (29 : Int32)), (.ref a1)])) rfl rfl (hb hby d1_63)
  rw [own_b8] at W38
  have K0_38 : Keep h0 h38 [a1] := K0_36.wr W38 (Or.inl (List.mem_of_getElem? (i := 0) rfl))
  have N38 := Fr.snoc X38 N36 g_a1
  have Z38 : n0 ≤ h38.size := Nat.le_trans Z36 (Keep.of_wr W38).1
  have V38 : Arv Z h38 a1 k_a1 .byte (32 : Int32) [(.int w3), (.int w4), (.int w5), (.int w6), (.int w7), (.int w8), (.int w9), (.int w10), (.int w11), (.int w12), (.int w13), (.int w14), (.int w15), (.int w16), (.int w17), (.int w18), (.int w19), (.int w20), (.int w21), (.int w22), (.int w23), (.int w24), (.int w25), (.int w26), (.int ((((q2.toUInt64 >>> ((56 : Int32) &&& 0x3f).toInt64.toUInt64).toInt64).toInt32).toInt8.toInt32)), (.int ((((q2.toUInt64 >>> ((48 : Int32) &&& 0x3f).toInt64.toUInt64).toInt64).toInt32).toInt8.toInt32)), (.int ((((q2.toUInt64 >>> ((40 : Int32) &&& 0x3f).toInt64.toUInt64).toInt64).toInt32).toInt8.toInt32)), (.int ((((q2.toUInt64 >>> ((32 : Int32) &&& 0x3f).toInt64.toUInt64).toInt64).toInt32).toInt8.toInt32)), (.int ((((q2.toUInt64 >>> ((24 : Int32) &&& 0x3f).toInt64.toUInt64).toInt64).toInt32).toInt8.toInt32)), (.int ((((q2.toUInt64 >>> ((16 : Int32) &&& 0x3f).toInt64.toUInt64).toInt64).toInt32).toInt8.toInt32)), (.int (0 : Int32)), (.int (0 : Int32))] (.int (0 : Int32)) := Arv.set Ar37 q37 S37 N_37 H37 G37 (fits_nar_byte _) W38 29 rfl (Nat.le_of_ble_eq_true rfl)
  obtain ⟨cl39, Ar39, q39, S39, N_39, H39, G39⟩ := id V38
  have hin39 : ¬ ((30 : Int32) < 0 ∨ cl39.slots.size ≤ ((30 : Int32)).toNatClampNeg) := inb_of S39 ⟨by decide, (by decide : (30 : Int32) < (32 : Int32))⟩
  obtain ⟨T40, h40, X40, e40, W40, st40⟩ := stB X38 hx hZ e38 Ar39 (j := (30 : Int32)) hin39 (g := (mkF m 75 #[.val (.ref a1), .val (.int (24 : Int32)), .val (.long q2), .second] [(.int ((((q2.toUInt64 >>> ((8 : Int32) &&& 0x3f).toInt64.toUInt64).toInt64).toInt32).toInt8.toInt32)), (.int (30 : Int32)), (.ref a1)])) rfl rfl (hb hby d1_75)
  rw [own_b8] at W40
  have K0_40 : Keep h0 h40 [a1] := K0_38.wr W40 (Or.inl (List.mem_of_getElem? (i := 0) rfl))
  have N40 := Fr.snoc X40 N38 g_a1
  have Z40 : n0 ≤ h40.size := Nat.le_trans Z38 (Keep.of_wr W40).1
  have V40 : Arv Z h40 a1 k_a1 .byte (32 : Int32) [(.int w3), (.int w4), (.int w5), (.int w6), (.int w7), (.int w8), (.int w9), (.int w10), (.int w11), (.int w12), (.int w13), (.int w14), (.int w15), (.int w16), (.int w17), (.int w18), (.int w19), (.int w20), (.int w21), (.int w22), (.int w23), (.int w24), (.int w25), (.int w26), (.int ((((q2.toUInt64 >>> ((56 : Int32) &&& 0x3f).toInt64.toUInt64).toInt64).toInt32).toInt8.toInt32)), (.int ((((q2.toUInt64 >>> ((48 : Int32) &&& 0x3f).toInt64.toUInt64).toInt64).toInt32).toInt8.toInt32)), (.int ((((q2.toUInt64 >>> ((40 : Int32) &&& 0x3f).toInt64.toUInt64).toInt64).toInt32).toInt8.toInt32)), (.int ((((q2.toUInt64 >>> ((32 : Int32) &&& 0x3f).toInt64.toUInt64).toInt64).toInt32).toInt8.toInt32)), (.int ((((q2.toUInt64 >>> ((24 : Int32) &&& 0x3f).toInt64.toUInt64).toInt64).toInt32).toInt8.toInt32)), (.int ((((q2.toUInt64 >>> ((16 : Int32) &&& 0x3f).toInt64.toUInt64).toInt64).toInt32).toInt8.toInt32)), (.int ((((q2.toUInt64 >>> ((8 : Int32) &&& 0x3f).toInt64.toUInt64).toInt64).toInt32).toInt8.toInt32)), (.int (0 : Int32))] (.int (0 : Int32)) := Arv.set Ar39 q39 S39 N_39 H39 G39 (fits_nar_byte _) W40 30 rfl (Nat.le_of_ble_eq_true rfl)
  obtain ⟨cl41, Ar41, q41, S41, N_41, H41, G41⟩ := id V40
  have hin41 : ¬ ((31 : Int32) < 0 ∨ cl41.slots.size ≤ ((31 : Int32)).toNatClampNeg) := inb_of S41 ⟨by decide, (by decide : (31 : Int32) < (32 : Int32))⟩
  obtain ⟨T42, h42, X42, e42, W42, st42⟩ := stB X40 hx hZ e40 Ar41 (j := (31 : Int32)) hin41 (g := (mkF m 84 #[.val (.ref a1), .val (.int (24 : Int32)), .val (.long q2), .second] [(.int ((q2.toInt32).toInt8.toInt32)), (.int (31 : Int32)), (.ref a1)])) rfl rfl (hb hby d1_84)
  rw [own_b8] at W42
  have K0_42 : Keep h0 h42 [a1] := K0_40.wr W42 (Or.inl (List.mem_of_getElem? (i := 0) rfl))
  have N42 := Fr.snoc X42 N40 g_a1
  have Z42 : n0 ≤ h42.size := Nat.le_trans Z40 (Keep.of_wr W42).1
  have V42 : Arv Z h42 a1 k_a1 .byte (32 : Int32) [(.int w3), (.int w4), (.int w5), (.int w6), (.int w7), (.int w8), (.int w9), (.int w10), (.int w11), (.int w12), (.int w13), (.int w14), (.int w15), (.int w16), (.int w17), (.int w18), (.int w19), (.int w20), (.int w21), (.int w22), (.int w23), (.int w24), (.int w25), (.int w26), (.int ((((q2.toUInt64 >>> ((56 : Int32) &&& 0x3f).toInt64.toUInt64).toInt64).toInt32).toInt8.toInt32)), (.int ((((q2.toUInt64 >>> ((48 : Int32) &&& 0x3f).toInt64.toUInt64).toInt64).toInt32).toInt8.toInt32)), (.int ((((q2.toUInt64 >>> ((40 : Int32) &&& 0x3f).toInt64.toUInt64).toInt64).toInt32).toInt8.toInt32)), (.int ((((q2.toUInt64 >>> ((32 : Int32) &&& 0x3f).toInt64.toUInt64).toInt64).toInt32).toInt8.toInt32)), (.int ((((q2.toUInt64 >>> ((24 : Int32) &&& 0x3f).toInt64.toUInt64).toInt64).toInt32).toInt8.toInt32)), (.int ((((q2.toUInt64 >>> ((16 : Int32) &&& 0x3f).toInt64.toUInt64).toInt64).toInt32).toInt8.toInt32)), (.int ((((q2.toUInt64 >>> ((8 : Int32) &&& 0x3f).toInt64.toUInt64).toInt64).toInt32).toInt8.toInt32)), (.int ((q2.toInt32).toInt8.toInt32))] (.int (0 : Int32)) := Arv.set Ar41 q41 S41 N_41 H41 G41 (fits_nar_byte _) W42 31 rfl (Nat.le_of_ble_eq_true rfl)
  obtain ⟨fs, hr, hrun, hended, hW, hsame⟩ := X42.leave (v := none) (fun _ => rfl)
  refine ⟨_, _, pre0 _ ?_, hrun, hended, _, _, rfl, ?_, ⟨_, rfl⟩, hW, hsame.mono (by decide) (by decide)⟩
  · show Steps p.tables e below (s₁.setTop (mkF m 0 #[.val (.ref a1), .val (.int (24 : Int32)), .val (.long q2), .second] [])) _
    refine XS.aloadN X0.here hx rfl (hb hby d1_0) rfl rfl ?_
    show Steps p.tables e below (s₁.setTop (mkF m 1 #[.val (.ref a1), .val (.int (24 : Int32)), .val (.long q2), .second] [(.ref a1)])) _
    refine XS.iloadN X0.here hx rfl (hb hby d1_1) rfl ?_
    show Steps p.tables e below (s₁.setTop (mkF m 2 #[.val (.ref a1), .val (.int (24 : Int32)), .val (.long q2), .second] [(.int (24 : Int32)), (.ref a1)])) _
    refine XS.lloadN X0.here hx rfl (hb hby d1_2) rfl ?_
    show Steps p.tables e below (s₁.setTop (mkF m 3 #[.val (.ref a1), .val (.int (24 : Int32)), .val (.long q2), .second] [(.long q2), (.int (24 : Int32)), (.ref a1)])) _
    refine XS.bipush X0.here hx rfl (hb hby d1_3) ?_
    show Steps p.tables e below (s₁.setTop (mkF m 5 #[.val (.ref a1), .val (.int (24 : Int32)), .val (.long q2), .second] [(.int (56 : Int32)), (.long q2), (.int (24 : Int32)), (.ref a1)])) _
    refine XS.lushr X0.here hx rfl (hb hby d1_5) rfl ?_
    show Steps p.tables e below (s₁.setTop (mkF m 6 #[.val (.ref a1), .val (.int (24 : Int32)), .val (.long q2), .second] [(.long ((q2.toUInt64 >>> ((56 : Int32) &&& 0x3f).toInt64.toUInt64).toInt64)), (.int (24 : Int32)), (.ref a1)])) _
    refine XS.l2i X0.here hx rfl (hb hby d1_6) rfl ?_
    show Steps p.tables e below (s₁.setTop (mkF m 7 #[.val (.ref a1), .val (.int (24 : Int32)), .val (.long q2), .second] [(.int (((q2.toUInt64 >>> ((56 : Int32) &&& 0x3f).toInt64.toUInt64).toInt64).toInt32)), (.int (24 : Int32)), (.ref a1)])) _
    refine XS.i2b X0.here hx rfl (hb hby d1_7) rfl ?_
    show Steps p.tables e below (s₁.setTop (mkF m 8 #[.val (.ref a1), .val (.int (24 : Int32)), .val (.long q2), .second] [(.int ((((q2.toUInt64 >>> ((56 : Int32) &&& 0x3f).toInt64.toUInt64).toInt64).toInt32).toInt8.toInt32)), (.int (24 : Int32)), (.ref a1)])) _
    refine st28 _ ?_
    show Steps p.tables e below (T28.setTop (mkF m 9 #[.val (.ref a1), .val (.int (24 : Int32)), .val (.long q2), .second] [])) _
    refine XS.aloadN X28.here hx rfl (hb hby d1_9) rfl rfl ?_
    show Steps p.tables e below (T28.setTop (mkF m 10 #[.val (.ref a1), .val (.int (24 : Int32)), .val (.long q2), .second] [(.ref a1)])) _
    refine XS.iloadN X28.here hx rfl (hb hby d1_10) rfl ?_
    show Steps p.tables e below (T28.setTop (mkF m 11 #[.val (.ref a1), .val (.int (24 : Int32)), .val (.long q2), .second] [(.int (24 : Int32)), (.ref a1)])) _
    refine XS.iconst X28.here hx rfl (hb hby d1_11) ?_
    show Steps p.tables e below (T28.setTop (mkF m 12 #[.val (.ref a1), .val (.int (24 : Int32)), .val (.long q2), .second] [(.int (1 : Int32)), (.int (24 : Int32)), (.ref a1)])) _
    refine XS.iadd X28.here hx rfl (hb hby d1_12) rfl ?_
    show Steps p.tables e below (T28.setTop (mkF m 13 #[.val (.ref a1), .val (.int (24 : Int32)), .val (.long q2), .second] [(.int (25 : Int32)), (.ref a1)])) _
    refine XS.lloadN X28.here hx rfl (hb hby d1_13) rfl ?_
    show Steps p.tables e below (T28.setTop (mkF m 14 #[.val (.ref a1), .val (.int (24 : Int32)), .val (.long q2), .second] [(.long q2), (.int (25 : Int32)), (.ref a1)])) _
    refine XS.bipush X28.here hx rfl (hb hby d1_14) ?_
    show Steps p.tables e below (T28.setTop (mkF m 16 #[.val (.ref a1), .val (.int (24 : Int32)), .val (.long q2), .second] [(.int (48 : Int32)), (.long q2), (.int (25 : Int32)), (.ref a1)])) _
    refine XS.lushr X28.here hx rfl (hb hby d1_16) rfl ?_
    show Steps p.tables e below (T28.setTop (mkF m 17 #[.val (.ref a1), .val (.int (24 : Int32)), .val (.long q2), .second] [(.long ((q2.toUInt64 >>> ((48 : Int32) &&& 0x3f).toInt64.toUInt64).toInt64)), (.int (25 : Int32)), (.ref a1)])) _
    refine XS.l2i X28.here hx rfl (hb hby d1_17) rfl ?_
    show Steps p.tables e below (T28.setTop (mkF m 18 #[.val (.ref a1), .val (.int (24 : Int32)), .val (.long q2), .second] [(.int (((q2.toUInt64 >>> ((48 : Int32) &&& 0x3f).toInt64.toUInt64).toInt64).toInt32)), (.int (25 : Int32)), (.ref a1)])) _
    refine XS.i2b X28.here hx rfl (hb hby d1_18) rfl ?_
    show Steps p.tables e below (T28.setTop (mkF m 19 #[.val (.ref a1), .val (.int (24 : Int32)), .val (.long q2), .second] [(.int ((((q2.toUInt64 >>> ((48 : Int32) &&& 0x3f).toInt64.toUInt64).toInt64).toInt32).toInt8.toInt32)), (.int (25 : Int32)), (.ref a1)])) _
    refine st30 _ ?_
    show Steps p.tables e below (T30.setTop (mkF m 20 #[.val (.ref a1), .val (.int (24 : Int32)), .val (.long q2), .second] [])) _
    refine XS.aloadN X30.here hx rfl (hb hby d1_20) rfl rfl ?_
    show Steps p.tables e below (T30.setTop (mkF m 21 #[.val (.ref a1), .val (.int (24 : Int32)), .val (.long q2), .second] [(.ref a1)])) _
    refine XS.iloadN X30.here hx rfl (hb hby d1_21) rfl ?_
    show Steps p.tables e below (T30.setTop (mkF m 22 #[.val (.ref a1), .val (.int (24 : Int32)), .val (.long q2), .second] [(.int (24 : Int32)), (.ref a1)])) _
    refine XS.iconst X30.here hx rfl (hb hby d1_22) ?_
    show Steps p.tables e below (T30.setTop (mkF m 23 #[.val (.ref a1), .val (.int (24 : Int32)), .val (.long q2), .second] [(.int (2 : Int32)), (.int (24 : Int32)), (.ref a1)])) _
    refine XS.iadd X30.here hx rfl (hb hby d1_23) rfl ?_
    show Steps p.tables e below (T30.setTop (mkF m 24 #[.val (.ref a1), .val (.int (24 : Int32)), .val (.long q2), .second] [(.int (26 : Int32)), (.ref a1)])) _
    refine XS.lloadN X30.here hx rfl (hb hby d1_24) rfl ?_
    show Steps p.tables e below (T30.setTop (mkF m 25 #[.val (.ref a1), .val (.int (24 : Int32)), .val (.long q2), .second] [(.long q2), (.int (26 : Int32)), (.ref a1)])) _
    refine XS.bipush X30.here hx rfl (hb hby d1_25) ?_
    show Steps p.tables e below (T30.setTop (mkF m 27 #[.val (.ref a1), .val (.int (24 : Int32)), .val (.long q2), .second] [(.int (40 : Int32)), (.long q2), (.int (26 : Int32)), (.ref a1)])) _
    refine XS.lushr X30.here hx rfl (hb hby d1_27) rfl ?_
    show Steps p.tables e below (T30.setTop (mkF m 28 #[.val (.ref a1), .val (.int (24 : Int32)), .val (.long q2), .second] [(.long ((q2.toUInt64 >>> ((40 : Int32) &&& 0x3f).toInt64.toUInt64).toInt64)), (.int (26 : Int32)), (.ref a1)])) _
    refine XS.l2i X30.here hx rfl (hb hby d1_28) rfl ?_
    show Steps p.tables e below (T30.setTop (mkF m 29 #[.val (.ref a1), .val (.int (24 : Int32)), .val (.long q2), .second] [(.int (((q2.toUInt64 >>> ((40 : Int32) &&& 0x3f).toInt64.toUInt64).toInt64).toInt32)), (.int (26 : Int32)), (.ref a1)])) _
    refine XS.i2b X30.here hx rfl (hb hby d1_29) rfl ?_
    show Steps p.tables e below (T30.setTop (mkF m 30 #[.val (.ref a1), .val (.int (24 : Int32)), .val (.long q2), .second] [(.int ((((q2.toUInt64 >>> ((40 : Int32) &&& 0x3f).toInt64.toUInt64).toInt64).toInt32).toInt8.toInt32)), (.int (26 : Int32)), (.ref a1)])) _
    refine st32 _ ?_
    show Steps p.tables e below (T32.setTop (mkF m 31 #[.val (.ref a1), .val (.int (24 : Int32)), .val (.long q2), .second] [])) _
    refine XS.aloadN X32.here hx rfl (hb hby d1_31) rfl rfl ?_
    show Steps p.tables e below (T32.setTop (mkF m 32 #[.val (.ref a1), .val (.int (24 : Int32)), .val (.long q2), .second] [(.ref a1)])) _
    refine XS.iloadN X32.here hx rfl (hb hby d1_32) rfl ?_
    show Steps p.tables e below (T32.setTop (mkF m 33 #[.val (.ref a1), .val (.int (24 : Int32)), .val (.long q2), .second] [(.int (24 : Int32)), (.ref a1)])) _
    refine XS.iconst X32.here hx rfl (hb hby d1_33) ?_
    show Steps p.tables e below (T32.setTop (mkF m 34 #[.val (.ref a1), .val (.int (24 : Int32)), .val (.long q2), .second] [(.int (3 : Int32)), (.int (24 : Int32)), (.ref a1)])) _
    refine XS.iadd X32.here hx rfl (hb hby d1_34) rfl ?_
    show Steps p.tables e below (T32.setTop (mkF m 35 #[.val (.ref a1), .val (.int (24 : Int32)), .val (.long q2), .second] [(.int (27 : Int32)), (.ref a1)])) _
    refine XS.lloadN X32.here hx rfl (hb hby d1_35) rfl ?_
    show Steps p.tables e below (T32.setTop (mkF m 36 #[.val (.ref a1), .val (.int (24 : Int32)), .val (.long q2), .second] [(.long q2), (.int (27 : Int32)), (.ref a1)])) _
    refine XS.bipush X32.here hx rfl (hb hby d1_36) ?_
    show Steps p.tables e below (T32.setTop (mkF m 38 #[.val (.ref a1), .val (.int (24 : Int32)), .val (.long q2), .second] [(.int (32 : Int32)), (.long q2), (.int (27 : Int32)), (.ref a1)])) _
    refine XS.lushr X32.here hx rfl (hb hby d1_38) rfl ?_
    show Steps p.tables e below (T32.setTop (mkF m 39 #[.val (.ref a1), .val (.int (24 : Int32)), .val (.long q2), .second] [(.long ((q2.toUInt64 >>> ((32 : Int32) &&& 0x3f).toInt64.toUInt64).toInt64)), (.int (27 : Int32)), (.ref a1)])) _
    refine XS.l2i X32.here hx rfl (hb hby d1_39) rfl ?_
    show Steps p.tables e below (T32.setTop (mkF m 40 #[.val (.ref a1), .val (.int (24 : Int32)), .val (.long q2), .second] [(.int (((q2.toUInt64 >>> ((32 : Int32) &&& 0x3f).toInt64.toUInt64).toInt64).toInt32)), (.int (27 : Int32)), (.ref a1)])) _
    refine XS.i2b X32.here hx rfl (hb hby d1_40) rfl ?_
    show Steps p.tables e below (T32.setTop (mkF m 41 #[.val (.ref a1), .val (.int (24 : Int32)), .val (.long q2), .second] [(.int ((((q2.toUInt64 >>> ((32 : Int32) &&& 0x3f).toInt64.toUInt64).toInt64).toInt32).toInt8.toInt32)), (.int (27 : Int32)), (.ref a1)])) _
    refine st34 _ ?_
    show Steps p.tables e below (T34.setTop (mkF m 42 #[.val (.ref a1), .val (.int (24 : Int32)), .val (.long q2), .second] [])) _
    refine XS.aloadN X34.here hx rfl (hb hby d1_42) rfl rfl ?_
    show Steps p.tables e below (T34.setTop (mkF m 43 #[.val (.ref a1), .val (.int (24 : Int32)), .val (.long q2), .second] [(.ref a1)])) _
    refine XS.iloadN X34.here hx rfl (hb hby d1_43) rfl ?_
    show Steps p.tables e below (T34.setTop (mkF m 44 #[.val (.ref a1), .val (.int (24 : Int32)), .val (.long q2), .second] [(.int (24 : Int32)), (.ref a1)])) _
    refine XS.iconst X34.here hx rfl (hb hby d1_44) ?_
    show Steps p.tables e below (T34.setTop (mkF m 45 #[.val (.ref a1), .val (.int (24 : Int32)), .val (.long q2), .second] [(.int (4 : Int32)), (.int (24 : Int32)), (.ref a1)])) _
    refine XS.iadd X34.here hx rfl (hb hby d1_45) rfl ?_
    show Steps p.tables e below (T34.setTop (mkF m 46 #[.val (.ref a1), .val (.int (24 : Int32)), .val (.long q2), .second] [(.int (28 : Int32)), (.ref a1)])) _
    refine XS.lloadN X34.here hx rfl (hb hby d1_46) rfl ?_
    show Steps p.tables e below (T34.setTop (mkF m 47 #[.val (.ref a1), .val (.int (24 : Int32)), .val (.long q2), .second] [(.long q2), (.int (28 : Int32)), (.ref a1)])) _
    refine XS.bipush X34.here hx rfl (hb hby d1_47) ?_
    show Steps p.tables e below (T34.setTop (mkF m 49 #[.val (.ref a1), .val (.int (24 : Int32)), .val (.long q2), .second] [(.int (24 : Int32)), (.long q2), (.int (28 : Int32)), (.ref a1)])) _
    refine XS.lushr X34.here hx rfl (hb hby d1_49) rfl ?_
    show Steps p.tables e below (T34.setTop (mkF m 50 #[.val (.ref a1), .val (.int (24 : Int32)), .val (.long q2), .second] [(.long ((q2.toUInt64 >>> ((24 : Int32) &&& 0x3f).toInt64.toUInt64).toInt64)), (.int (28 : Int32)), (.ref a1)])) _
    refine XS.l2i X34.here hx rfl (hb hby d1_50) rfl ?_
    show Steps p.tables e below (T34.setTop (mkF m 51 #[.val (.ref a1), .val (.int (24 : Int32)), .val (.long q2), .second] [(.int (((q2.toUInt64 >>> ((24 : Int32) &&& 0x3f).toInt64.toUInt64).toInt64).toInt32)), (.int (28 : Int32)), (.ref a1)])) _
    refine XS.i2b X34.here hx rfl (hb hby d1_51) rfl ?_
    show Steps p.tables e below (T34.setTop (mkF m 52 #[.val (.ref a1), .val (.int (24 : Int32)), .val (.long q2), .second] [(.int ((((q2.toUInt64 >>> ((24 : Int32) &&& 0x3f).toInt64.toUInt64).toInt64).toInt32).toInt8.toInt32)), (.int (28 : Int32)), (.ref a1)])) _
    refine st36 _ ?_
    show Steps p.tables e below (T36.setTop (mkF m 53 #[.val (.ref a1), .val (.int (24 : Int32)), .val (.long q2), .second] [])) _
    refine XS.aloadN X36.here hx rfl (hb hby d1_53) rfl rfl ?_
    show Steps p.tables e below (T36.setTop (mkF m 54 #[.val (.ref a1), .val (.int (24 : Int32)), .val (.long q2), .second] [(.ref a1)])) _
    refine XS.iloadN X36.here hx rfl (hb hby d1_54) rfl ?_
    show Steps p.tables e below (T36.setTop (mkF m 55 #[.val (.ref a1), .val (.int (24 : Int32)), .val (.long q2), .second] [(.int (24 : Int32)), (.ref a1)])) _
    refine XS.iconst X36.here hx rfl (hb hby d1_55) ?_
    show Steps p.tables e below (T36.setTop (mkF m 56 #[.val (.ref a1), .val (.int (24 : Int32)), .val (.long q2), .second] [(.int (5 : Int32)), (.int (24 : Int32)), (.ref a1)])) _
    refine XS.iadd X36.here hx rfl (hb hby d1_56) rfl ?_
    show Steps p.tables e below (T36.setTop (mkF m 57 #[.val (.ref a1), .val (.int (24 : Int32)), .val (.long q2), .second] [(.int (29 : Int32)), (.ref a1)])) _
    refine XS.lloadN X36.here hx rfl (hb hby d1_57) rfl ?_
    show Steps p.tables e below (T36.setTop (mkF m 58 #[.val (.ref a1), .val (.int (24 : Int32)), .val (.long q2), .second] [(.long q2), (.int (29 : Int32)), (.ref a1)])) _
    refine XS.bipush X36.here hx rfl (hb hby d1_58) ?_
    show Steps p.tables e below (T36.setTop (mkF m 60 #[.val (.ref a1), .val (.int (24 : Int32)), .val (.long q2), .second] [(.int (16 : Int32)), (.long q2), (.int (29 : Int32)), (.ref a1)])) _
    refine XS.lushr X36.here hx rfl (hb hby d1_60) rfl ?_
    show Steps p.tables e below (T36.setTop (mkF m 61 #[.val (.ref a1), .val (.int (24 : Int32)), .val (.long q2), .second] [(.long ((q2.toUInt64 >>> ((16 : Int32) &&& 0x3f).toInt64.toUInt64).toInt64)), (.int (29 : Int32)), (.ref a1)])) _
    refine XS.l2i X36.here hx rfl (hb hby d1_61) rfl ?_
    show Steps p.tables e below (T36.setTop (mkF m 62 #[.val (.ref a1), .val (.int (24 : Int32)), .val (.long q2), .second] [(.int (((q2.toUInt64 >>> ((16 : Int32) &&& 0x3f).toInt64.toUInt64).toInt64).toInt32)), (.int (29 : Int32)), (.ref a1)])) _
    refine XS.i2b X36.here hx rfl (hb hby d1_62) rfl ?_
    show Steps p.tables e below (T36.setTop (mkF m 63 #[.val (.ref a1), .val (.int (24 : Int32)), .val (.long q2), .second] [(.int ((((q2.toUInt64 >>> ((16 : Int32) &&& 0x3f).toInt64.toUInt64).toInt64).toInt32).toInt8.toInt32)), (.int (29 : Int32)), (.ref a1)])) _
    refine st38 _ ?_
    show Steps p.tables e below (T38.setTop (mkF m 64 #[.val (.ref a1), .val (.int (24 : Int32)), .val (.long q2), .second] [])) _
    refine XS.aloadN X38.here hx rfl (hb hby d1_64) rfl rfl ?_
    show Steps p.tables e below (T38.setTop (mkF m 65 #[.val (.ref a1), .val (.int (24 : Int32)), .val (.long q2), .second] [(.ref a1)])) _
    refine XS.iloadN X38.here hx rfl (hb hby d1_65) rfl ?_
    show Steps p.tables e below (T38.setTop (mkF m 66 #[.val (.ref a1), .val (.int (24 : Int32)), .val (.long q2), .second] [(.int (24 : Int32)), (.ref a1)])) _
    refine XS.bipush X38.here hx rfl (hb hby d1_66) ?_
    show Steps p.tables e below (T38.setTop (mkF m 68 #[.val (.ref a1), .val (.int (24 : Int32)), .val (.long q2), .second] [(.int (6 : Int32)), (.int (24 : Int32)), (.ref a1)])) _
    refine XS.iadd X38.here hx rfl (hb hby d1_68) rfl ?_
    show Steps p.tables e below (T38.setTop (mkF m 69 #[.val (.ref a1), .val (.int (24 : Int32)), .val (.long q2), .second] [(.int (30 : Int32)), (.ref a1)])) _
    refine XS.lloadN X38.here hx rfl (hb hby d1_69) rfl ?_
    show Steps p.tables e below (T38.setTop (mkF m 70 #[.val (.ref a1), .val (.int (24 : Int32)), .val (.long q2), .second] [(.long q2), (.int (30 : Int32)), (.ref a1)])) _
    refine XS.bipush X38.here hx rfl (hb hby d1_70) ?_
    show Steps p.tables e below (T38.setTop (mkF m 72 #[.val (.ref a1), .val (.int (24 : Int32)), .val (.long q2), .second] [(.int (8 : Int32)), (.long q2), (.int (30 : Int32)), (.ref a1)])) _
    refine XS.lushr X38.here hx rfl (hb hby d1_72) rfl ?_
    show Steps p.tables e below (T38.setTop (mkF m 73 #[.val (.ref a1), .val (.int (24 : Int32)), .val (.long q2), .second] [(.long ((q2.toUInt64 >>> ((8 : Int32) &&& 0x3f).toInt64.toUInt64).toInt64)), (.int (30 : Int32)), (.ref a1)])) _
    refine XS.l2i X38.here hx rfl (hb hby d1_73) rfl ?_
    show Steps p.tables e below (T38.setTop (mkF m 74 #[.val (.ref a1), .val (.int (24 : Int32)), .val (.long q2), .second] [(.int (((q2.toUInt64 >>> ((8 : Int32) &&& 0x3f).toInt64.toUInt64).toInt64).toInt32)), (.int (30 : Int32)), (.ref a1)])) _
    refine XS.i2b X38.here hx rfl (hb hby d1_74) rfl ?_
    show Steps p.tables e below (T38.setTop (mkF m 75 #[.val (.ref a1), .val (.int (24 : Int32)), .val (.long q2), .second] [(.int ((((q2.toUInt64 >>> ((8 : Int32) &&& 0x3f).toInt64.toUInt64).toInt64).toInt32).toInt8.toInt32)), (.int (30 : Int32)), (.ref a1)])) _
    refine st40 _ ?_
    show Steps p.tables e below (T40.setTop (mkF m 76 #[.val (.ref a1), .val (.int (24 : Int32)), .val (.long q2), .second] [])) _
    refine XS.aloadN X40.here hx rfl (hb hby d1_76) rfl rfl ?_
    show Steps p.tables e below (T40.setTop (mkF m 77 #[.val (.ref a1), .val (.int (24 : Int32)), .val (.long q2), .second] [(.ref a1)])) _
    refine XS.iloadN X40.here hx rfl (hb hby d1_77) rfl ?_
    show Steps p.tables e below (T40.setTop (mkF m 78 #[.val (.ref a1), .val (.int (24 : Int32)), .val (.long q2), .second] [(.int (24 : Int32)), (.ref a1)])) _
    refine XS.bipush X40.here hx rfl (hb hby d1_78) ?_
    show Steps p.tables e below (T40.setTop (mkF m 80 #[.val (.ref a1), .val (.int (24 : Int32)), .val (.long q2), .second] [(.int (7 : Int32)), (.int (24 : Int32)), (.ref a1)])) _
    refine XS.iadd X40.here hx rfl (hb hby d1_80) rfl ?_
    show Steps p.tables e below (T40.setTop (mkF m 81 #[.val (.ref a1), .val (.int (24 : Int32)), .val (.long q2), .second] [(.int (31 : Int32)), (.ref a1)])) _
    refine XS.lloadN X40.here hx rfl (hb hby d1_81) rfl ?_
    show Steps p.tables e below (T40.setTop (mkF m 82 #[.val (.ref a1), .val (.int (24 : Int32)), .val (.long q2), .second] [(.long q2), (.int (31 : Int32)), (.ref a1)])) _
    refine XS.l2i X40.here hx rfl (hb hby d1_82) rfl ?_
    show Steps p.tables e below (T40.setTop (mkF m 83 #[.val (.ref a1), .val (.int (24 : Int32)), .val (.long q2), .second] [(.int (q2.toInt32)), (.int (31 : Int32)), (.ref a1)])) _
    refine XS.i2b X40.here hx rfl (hb hby d1_83) rfl ?_
    show Steps p.tables e below (T40.setTop (mkF m 84 #[.val (.ref a1), .val (.int (24 : Int32)), .val (.long q2), .second] [(.int ((q2.toInt32).toInt8.toInt32)), (.int (31 : Int32)), (.ref a1)])) _
    refine st42 _ ?_
    show Steps p.tables e below (T42.setTop (mkF m 85 #[.val (.ref a1), .val (.int (24 : Int32)), .val (.long q2), .second] [])) _
    exact X42.returnOut hx Bd.returns (hb hby d1_85) hr
  · show Q1_4 Z a1 q2 k_a1 w3 w4 w5 w6 w7 w8 w9 w10 w11 w12 w13 w14 w15 w16 w17 w18 w19 w20 w21 w22 w23 w24 w25 w26 h0 n0 _ T42.heap _
    rw [e42]
    exact ⟨rfl, N42, K0_42, V42⟩
theorem d2_0 : decode prog_12_method_5_code 0 = .ok (.getstatic 37, 3) := by decide +kernel
theorem d2_3 : decode prog_12_method_5_code 3 = .ok (.getstatic 37, 3) := by decide +kernel
theorem d2_6 : decode prog_12_method_5_code 6 = .ok (.arraylength, 1) := by decide +kernel
theorem d2_7 : decode prog_12_method_5_code 7 = .ok (.aload_n 0, 1) := by decide +kernel
theorem d2_8 : decode prog_12_method_5_code 8 = .ok (.arraylength, 1) := by decide +kernel
theorem d2_9 : decode prog_12_method_5_code 9 = .ok (.iadd, 1) := by decide +kernel
theorem d2_10 : decode prog_12_method_5_code 10 = .ok (.invokestatic 41, 3) := by decide +kernel
theorem d3_0 : decode jdk_65_method_121_code 0 = .ok (.iload_n 1, 1) := by decide +kernel
theorem d3_1 : decode jdk_65_method_121_code 1 = .ok (.aload_n 0, 1) := by decide +kernel
theorem d3_2 : decode jdk_65_method_121_code 2 = .ok (.arraylength, 1) := by decide +kernel
theorem d3_3 : decode jdk_65_method_121_code 3 = .ok (.if_icmp .ne 11, 3) := by decide +kernel
theorem d3_14 : decode jdk_65_method_121_code 14 = .ok (.iload_n 1, 1) := by decide +kernel
theorem d3_15 : decode jdk_65_method_121_code 15 = .ok (.newarray .byte, 2) := by decide +kernel
theorem d3_17 : decode jdk_65_method_121_code 17 = .ok (.astore_n 2, 1) := by decide +kernel
theorem d3_18 : decode jdk_65_method_121_code 18 = .ok (.aload_n 0, 1) := by decide +kernel
theorem d3_19 : decode jdk_65_method_121_code 19 = .ok (.iconst 0, 1) := by decide +kernel
theorem d3_20 : decode jdk_65_method_121_code 20 = .ok (.aload_n 2, 1) := by decide +kernel
theorem d3_21 : decode jdk_65_method_121_code 21 = .ok (.iconst 0, 1) := by decide +kernel
theorem d3_22 : decode jdk_65_method_121_code 22 = .ok (.aload_n 0, 1) := by decide +kernel
theorem d3_23 : decode jdk_65_method_121_code 23 = .ok (.arraylength, 1) := by decide +kernel
theorem d3_24 : decode jdk_65_method_121_code 24 = .ok (.iload_n 1, 1) := by decide +kernel
theorem d3_25 : decode jdk_65_method_121_code 25 = .ok (.invokestatic 304, 3) := by decide +kernel
theorem d4_0 : decode jdk_29_method_69_code 0 = .ok (.iload_n 0, 1) := by decide +kernel
theorem d4_1 : decode jdk_29_method_69_code 1 = .ok (.iload_n 1, 1) := by decide +kernel
theorem d4_2 : decode jdk_29_method_69_code 2 = .ok (.if_icmp .gt 7, 3) := by decide +kernel
theorem d4_5 : decode jdk_29_method_69_code 5 = .ok (.iload_n 0, 1) := by decide +kernel
theorem d4_6 : decode jdk_29_method_69_code 6 = .ok (.goto 4, 3) := by decide +kernel
theorem d4_10 : decode jdk_29_method_69_code 10 = .ok (.ireturn, 1) := by decide +kernel
theorem ef_4_II (m : MethodId) (x0 : Int32) (x1 : Int32) : entryFrame m #[(.int x0), (.int x1)] 2 = mkF m 0 #[.val (.int x0), .val (.int x1)] [] := by first | (simp [entryFrame, mkF, argsToLocals, Value.category]; done) | rfl
def Q4_1 (Z : State)  (h0 : Heap) (n0 : Nat) (v : Option Value) (h : Heap) (L : List Loc) : Prop := v = some (.int (12 : Int32)) ∧ Fr n0 L ∧ h = h0
set_option maxRecDepth 65536 in
set_option maxHeartbeats 40000000 in
theorem rm4_1 (l : Launch) (Z : State) (a0 : Array Value) (hw : ∀ d ∈ tables_1, d.before a0 Z = true) (ws : List Jvm.Cond)  (h0 : Heap) (n0 : Nat) (Z0 : n0 ≤ h0.size) :
    MetFree l (⟨"java/lang/Math", "min", "(II)I"⟩ : MethodName) (head1 (Jvm.Cond.code (⟨"java/lang/Math", "min", "(II)I"⟩ : MethodName) jdk_29_method_69_code 2 (some .int) :: ws) ({ frames := 0, cells := 0, slots := 0, locals := 0 } : Room)) (fun a U => a = #[(.int (12 : Int32)), (.int (44 : Int32))] ∧ Z.Warmed39 U.vm ∧ U.heap = h0) (fun _ _ _ _ _ => True) (fun _ U o U' => ∃ v L, o = .returned v ∧ Q4_1 Z  h0 n0 v U'.heap L ∧ FrameEnd U o U' L ({ frames := 0, cells := 0, slots := 0, locals := 0 } : Room).cells ({ frames := 0, cells := 0, slots := 0, locals := 0 } : Room).slots) := by
  refine MetFree.of_bodySF (Jvm.Free.JP.mathPlain rfl (by decide +kernel)) hisR ?_
  intro p e s m args below meth c s₁ Bd hml0 hP hK
  obtain ⟨rfl, hZ, hh⟩ := hP
  have hx := Bd.exec
  have hby := Bd.bytes
  have hml : c.maxLocals = 2 := hml0
  have hown : s.vm.findClass "java/lang/Math" = some m.cls := findClass_of_methodNamed Bd.named
  have hnm := (name_of_methodNamed Bd.named Bd.method).1
  have X0 : Stand p l e ({ frames := 0, cells := 0, slots := 0, locals := 0 } : Room) s m #[(.int (12 : Int32)), (.int (44 : Int32))] below meth c s₁ [] 0 0 := Stand.of_body Bd
  have e0 : s₁.heap = h0 := by rw [← hh, Bd.state]; rfl
  have N0 := Fr.nil n0
  have pre0 : ∀ t, Steps p.tables e below (s₁.setTop (mkF m 0 #[.val (.int (12 : Int32)), .val (.int (44 : Int32))] [])) t → Steps p.tables e below (s₁.setTop (entryFrame m #[(.int (12 : Int32)), (.int (44 : Int32))] 2)) t := fun t k => castTop (ef_4_II m (12 : Int32) (44 : Int32)) k
  obtain ⟨fs, hr, hrun, hended, hW, hsame⟩ := X0.leave (v := some (.int (12 : Int32))) (fun h => by rw [Bd.returns] at h; cases h)
  refine ⟨_, _, pre0 _ ?_, hrun, hended, _, _, rfl, ?_, ⟨_, rfl⟩, hW, hsame.mono (by decide) (by decide)⟩
  · show Steps p.tables e below (s₁.setTop (mkF m 0 #[.val (.int (12 : Int32)), .val (.int (44 : Int32))] [])) _
    refine XS.iloadN X0.here hx rfl (hb hby d4_0) rfl ?_
    show Steps p.tables e below (s₁.setTop (mkF m 1 #[.val (.int (12 : Int32)), .val (.int (44 : Int32))] [(.int (12 : Int32))])) _
    refine XS.iloadN X0.here hx rfl (hb hby d4_1) rfl ?_
    show Steps p.tables e below (s₁.setTop (mkF m 2 #[.val (.int (12 : Int32)), .val (.int (44 : Int32))] [(.int (44 : Int32)), (.int (12 : Int32))])) _
    refine XS.icmpNo X0.here hx rfl (hb hby d4_2) rfl (flt (by decide : ¬ ((44 : Int32) < (12 : Int32)))).2.2.1 ?_
    show Steps p.tables e below (s₁.setTop (mkF m 5 #[.val (.int (12 : Int32)), .val (.int (44 : Int32))] [])) _
    refine XS.iloadN X0.here hx rfl (hb hby d4_5) rfl ?_
    show Steps p.tables e below (s₁.setTop (mkF m 6 #[.val (.int (12 : Int32)), .val (.int (44 : Int32))] [(.int (12 : Int32))])) _
    refine XS.goto X0.here hx rfl (pc0 := 6) (pc' := 10) rfl (hb hby d4_6) (by decide) (by decide) ?_
    show Steps p.tables e below (s₁.setTop (mkF m 10 #[.val (.int (12 : Int32)), .val (.int (44 : Int32))] [(.int (12 : Int32))])) _
    exact retI X0 hx Bd.returns (hb hby d4_10) hr
  · show Q4_1 Z  h0 n0 _ s₁.heap _
    rw [e0]
    exact ⟨rfl, N0, rfl⟩
theorem pd_1 : parseMethodDescriptor "(II)I" = some ⟨[.int, .int], some .int⟩ := by decide +kernel
theorem d3_28 : decode jdk_65_method_121_code 28 = .ok (.invokestatic 150, 3) := by decide +kernel
theorem d3_31 : decode jdk_65_method_121_code 31 = .ok (.aload_n 2, 1) := by decide +kernel
theorem d3_32 : decode jdk_65_method_121_code 32 = .ok (.areturn, 1) := by decide +kernel
theorem ef_3_RI (m : MethodId) (x0 : Addr) (x1 : Int32) : entryFrame m #[(.ref x0), (.int x1)] 3 = mkF m 0 #[.val (.ref x0), .val (.int x1), .unset] [] := by first | (simp [entryFrame, mkF, argsToLocals, Value.category]; done) | rfl
theorem pn_3 : plainName "java/util/Arrays" = true := by first | (simp [plainName, overriddenIn]; done) | decide +kernel
def Q3_1 (Z : State) (a1 : Addr) (k_a1 : ClassId) (h0 : Heap) (n0 : Nat) (v : Option Value) (h : Heap) (L : List Loc) : Prop := ∃ (b3 : Addr) (k3 : ClassId), v = some (.ref b3) ∧ Fr n0 L ∧ Keep h0 h [] ∧ h0.size ≤ b3 ∧ Arv Z h b3 k3 .byte (44 : Int32) [(.int (48 : Int32)), (.int (42 : Int32)), (.int (48 : Int32)), (.int (5 : Int32)), (.int (6 : Int32)), (.int (3 : Int32)), (.int (43 : Int32)), (.int (101 : Int32)), (.int (112 : Int32)), (.int (3 : Int32)), (.int (33 : Int32)), (.int (0 : Int32)), (.int (0 : Int32)), (.int (0 : Int32)), (.int (0 : Int32)), (.int (0 : Int32)), (.int (0 : Int32)), (.int (0 : Int32)), (.int (0 : Int32)), (.int (0 : Int32)), (.int (0 : Int32)), (.int (0 : Int32)), (.int (0 : Int32)), (.int (0 : Int32)), (.int (0 : Int32)), (.int (0 : Int32)), (.int (0 : Int32)), (.int (0 : Int32)), (.int (0 : Int32)), (.int (0 : Int32)), (.int (0 : Int32)), (.int (0 : Int32)), (.int (0 : Int32)), (.int (0 : Int32)), (.int (0 : Int32)), (.int (0 : Int32)), (.int (0 : Int32)), (.int (0 : Int32)), (.int (0 : Int32)), (.int (0 : Int32)), (.int (0 : Int32)), (.int (0 : Int32)), (.int (0 : Int32)), (.int (0 : Int32))] (.int (0 : Int32))
set_option maxRecDepth 65536 in
set_option maxHeartbeats 40000000 in
theorem rm3_1 (l : Launch) (Z : State) (a0 : Array Value) (hw : ∀ d ∈ tables_1, d.before a0 Z = true) (ws : List Jvm.Cond) (a1 : Addr) (k_a1 : ClassId) (h0 : Heap) (n0 : Nat) (Z0 : n0 ≤ h0.size) (V_a1 : Arv Z h0 a1 k_a1 .byte (12 : Int32) [(.int (48 : Int32)), (.int (42 : Int32)), (.int (48 : Int32)), (.int (5 : Int32)), (.int (6 : Int32)), (.int (3 : Int32)), (.int (43 : Int32)), (.int (101 : Int32)), (.int (112 : Int32)), (.int (3 : Int32)), (.int (33 : Int32)), (.int (0 : Int32))] (.int (0 : Int32))) :
    MetFree l (⟨"java/util/Arrays", "copyOf", "([BI)[B"⟩ : MethodName) (head1 (Jvm.Cond.code (⟨"java/util/Arrays", "copyOf", "([BI)[B"⟩ : MethodName) jdk_65_method_121_code 3 (some (.array .byte)) :: ws) ({ frames := 1, cells := 1, slots := 44, locals := 18 } : Room)) (fun a U => a = #[(.ref a1), (.int (44 : Int32))] ∧ Z.Warmed39 U.vm ∧ U.heap = h0) (fun _ _ _ _ _ => True) (fun _ U o U' => ∃ v L, o = .returned v ∧ Q3_1 Z a1 k_a1 h0 n0 v U'.heap L ∧ FrameEnd U o U' L ({ frames := 1, cells := 1, slots := 44, locals := 18 } : Room).cells ({ frames := 1, cells := 1, slots := 44, locals := 18 } : Room).slots) := by
  refine MetFree.of_bodySF (plainFor_of_name pn_3) hisR ?_
  intro p e s m args below meth c s₁ Bd hml0 hP hK
  obtain ⟨rfl, hZ, hh⟩ := hP
  have hx := Bd.exec
  have hby := Bd.bytes
  have hml : c.maxLocals = 3 := hml0
  have hown : s.vm.findClass "java/util/Arrays" = some m.cls := findClass_of_methodNamed Bd.named
  have hnm := (name_of_methodNamed Bd.named Bd.method).1
  have X0 : Stand p l e ({ frames := 1, cells := 1, slots := 44, locals := 18 } : Room) s m #[(.ref a1), (.int (44 : Int32))] below meth c s₁ [] 0 0 := Stand.of_body Bd
  have e0 : s₁.heap = h0 := by rw [← hh, Bd.state]; rfl
  have N0 := Fr.nil n0
  have pre0 : ∀ t, Steps p.tables e below (s₁.setTop (mkF m 0 #[.val (.ref a1), .val (.int (44 : Int32)), .unset] [])) t → Steps p.tables e below (s₁.setTop (entryFrame m #[(.ref a1), (.int (44 : Int32))] 3)) t := fun t k => castTop (ef_3_RI m a1 (44 : Int32)) k
  obtain ⟨cl2, Ar2, -, S2, N_2, -, -⟩ := id V_a1
  obtain ⟨T3, h3, k3, X3, e3, E3, A3, st3⟩ := newP X0 hx hZ (hw _ (List.mem_of_getElem? (i := 0) rfl)) e0 (g := (mkF m 15 #[.val (.ref a1), .val (.int (44 : Int32)), .unset] [(.int (44 : Int32))])) rfl (hb hby d3_15) rfl (by decide) (cap := 44) (by decide) (by decide) (by decide) (by decide)
  obtain ⟨b3, g3⟩ : ∃ z, z = h0.size := ⟨_, rfl⟩
  rw [← g3] at A3 st3
  have sz_b3 : h0.size ≤ b3 := Nat.le_trans (Keep.refl h0 []).1 (Nat.le_of_eq g3.symm)
  have g_b3 : n0 ≤ b3 := Nat.le_trans Z0 sz_b3
  have K0_3 : Keep h0 h3 [] := (Keep.refl h0 []).ext E3
  have Z3 : n0 ≤ h3.size := Nat.le_trans Z0 E3.1
  have V_b3 : Arv Z h3 b3 k3 .byte (44 : Int32) [(.int (0 : Int32)), (.int (0 : Int32)), (.int (0 : Int32)), (.int (0 : Int32)), (.int (0 : Int32)), (.int (0 : Int32)), (.int (0 : Int32)), (.int (0 : Int32)), (.int (0 : Int32)), (.int (0 : Int32)), (.int (0 : Int32)), (.int (0 : Int32)), (.int (0 : Int32)), (.int (0 : Int32)), (.int (0 : Int32)), (.int (0 : Int32)), (.int (0 : Int32)), (.int (0 : Int32)), (.int (0 : Int32)), (.int (0 : Int32)), (.int (0 : Int32)), (.int (0 : Int32)), (.int (0 : Int32)), (.int (0 : Int32)), (.int (0 : Int32)), (.int (0 : Int32)), (.int (0 : Int32)), (.int (0 : Int32)), (.int (0 : Int32)), (.int (0 : Int32)), (.int (0 : Int32)), (.int (0 : Int32)), (.int (0 : Int32)), (.int (0 : Int32)), (.int (0 : Int32)), (.int (0 : Int32)), (.int (0 : Int32)), (.int (0 : Int32)), (.int (0 : Int32)), (.int (0 : Int32)), (.int (0 : Int32)), (.int (0 : Int32)), (.int (0 : Int32)), (.int (0 : Int32))] (.int (0 : Int32)) := (Arv.new A3 (by decide)).pad (pad_rep [] (.int (0 : Int32)) 44)
  have f4 := (V_a1.ext E3)
  obtain ⟨cl5, Ar5, -, S5, N_5, -, -⟩ := id f4
  obtain ⟨_, _, ⟨T6, L6, k6, n6⟩, -, X6, ⟨Lc6, hQ6, l6, y6, z6⟩, st6⟩ := Jvm.LawKit.callS X3 hx (y := (⟨"java/lang/Math", "min", "(II)I"⟩ : MethodName)) hown (mvT hZ (hw _ (List.mem_of_getElem? (i := 15) rfl))) (mvT hZ (hw _ (List.mem_of_getElem? (i := 16) rfl))) (mvT hZ (hw _ (List.mem_of_getElem? (i := 17) rfl))) (mvT hZ (hw _ (List.mem_of_getElem? (i := 18) rfl))) (by decide) (backOf (W := 4) (rm4_1 l Z a0 hw []  h3 n0 Z3) hZ (hw _ (List.mem_of_getElem? (i := 18) rfl)) (hw _ (List.mem_of_getElem? (i := 17) rfl)) (by decide) (by decide)) (g := (mkF m 25 #[.val (.ref a1), .val (.int (44 : Int32)), .val (.ref b3)] [(.int (44 : Int32)), (.int (12 : Int32)), (.int (0 : Int32)), (.ref b3), (.int (0 : Int32)), (.ref a1)])) rfl (by rw [hml]; rfl) (argsL := [(.int (12 : Int32)), (.int (44 : Int32))]) (rest := [(.int (0 : Int32)), (.ref b3), (.int (0 : Int32)), (.ref a1)]) (lenOf pd_1 rfl) rfl (by show 2 * 0 + _ ≤ _; exact Nat.le_of_eq rfl) (hb hby d3_25) (fun _ _ => ⟨rfl, e3, (by decide : 1 + 0 ≤ _), (by decide : 44 + 0 ≤ _)⟩)
  dsimp only [Pt.U, Pt.locs, Pt.cells, Pt.slots] at X6 l6 y6 z6 st6 hQ6
  subst l6 y6 z6
  obtain ⟨rfl, Nq6, e6⟩ := hQ6
  have N6 := Fr.app N0 Nq6
  obtain ⟨T7, h7, L7, X7, e7, N7, K7, V7, st7⟩ := cpA X6 hx hZ hown (hw _ (List.mem_of_getElem? (i := 19) rfl)) (hw _ (List.mem_of_getElem? (i := 22) rfl)) (hw _ (List.mem_of_getElem? (i := 20) rfl)) (hw _ (List.mem_of_getElem? (i := 21) rfl)) e6 (us := [(.int (48 : Int32)), (.int (42 : Int32)), (.int (48 : Int32)), (.int (5 : Int32)), (.int (6 : Int32)), (.int (3 : Int32)), (.int (43 : Int32)), (.int (101 : Int32)), (.int (112 : Int32)), (.int (3 : Int32)), (.int (33 : Int32)), (.int (0 : Int32))]) f4 V_b3 (Or.inl ⟨rfl, rfl⟩) (by decide) (by decide) (by decide) (by decide) (by decide) rfl (Nat.le_of_ble_eq_true rfl) N6 g_b3 (g := (mkF m 28 #[.val (.ref a1), .val (.int (44 : Int32)), .val (.ref b3)] [(.int (12 : Int32)), (.int (0 : Int32)), (.ref b3), (.int (0 : Int32)), (.ref a1)])) rfl (by rw [hml]; rfl) rfl (hb hby d3_28) (by decide) (W := 0) (by show 2 * 0 + _ ≤ _; exact Nat.le_of_eq rfl) (by decide)
  have K0_7 : Keep h0 h7 [] := K0_3.trans K7 (allS (Or.inr sz_b3) all0)
  have Z7 : n0 ≤ h7.size := Nat.le_trans Z3 K7.1
  have V7' : Arv Z h7 b3 k3 .byte (44 : Int32) [(.int (48 : Int32)), (.int (42 : Int32)), (.int (48 : Int32)), (.int (5 : Int32)), (.int (6 : Int32)), (.int (3 : Int32)), (.int (43 : Int32)), (.int (101 : Int32)), (.int (112 : Int32)), (.int (3 : Int32)), (.int (33 : Int32)), (.int (0 : Int32)), (.int (0 : Int32)), (.int (0 : Int32)), (.int (0 : Int32)), (.int (0 : Int32)), (.int (0 : Int32)), (.int (0 : Int32)), (.int (0 : Int32)), (.int (0 : Int32)), (.int (0 : Int32)), (.int (0 : Int32)), (.int (0 : Int32)), (.int (0 : Int32)), (.int (0 : Int32)), (.int (0 : Int32)), (.int (0 : Int32)), (.int (0 : Int32)), (.int (0 : Int32)), (.int (0 : Int32)), (.int (0 : Int32)), (.int (0 : Int32)), (.int (0 : Int32)), (.int (0 : Int32)), (.int (0 : Int32)), (.int (0 : Int32)), (.int (0 : Int32)), (.int (0 : Int32)), (.int (0 : Int32)), (.int (0 : Int32)), (.int (0 : Int32)), (.int (0 : Int32)), (.int (0 : Int32)), (.int (0 : Int32))] (.int (0 : Int32)) := V7
  obtain ⟨fs, hr, hrun, hended, hW, hsame⟩ := X7.leave (v := some (.ref b3)) (fun h => by rw [Bd.returns] at h; cases h)
  refine ⟨_, _, pre0 _ ?_, hrun, hended, _, _, rfl, ?_, ⟨_, rfl⟩, hW, hsame.mono (by decide) (by decide)⟩
  · show Steps p.tables e below (s₁.setTop (mkF m 0 #[.val (.ref a1), .val (.int (44 : Int32)), .unset] [])) _
    refine XS.iloadN X0.here hx rfl (hb hby d3_0) rfl ?_
    show Steps p.tables e below (s₁.setTop (mkF m 1 #[.val (.ref a1), .val (.int (44 : Int32)), .unset] [(.int (44 : Int32))])) _
    refine XS.aloadN X0.here hx rfl (hb hby d3_1) rfl rfl ?_
    show Steps p.tables e below (s₁.setTop (mkF m 2 #[.val (.ref a1), .val (.int (44 : Int32)), .unset] [(.ref a1), (.int (44 : Int32))])) _
    refine X0.arraylength hx (by rw [e0]; exact Ar2.1) (State.isArrayOf_alike hZ.alike Ar2.2.1) (g := (mkF m 2 #[.val (.ref a1), .val (.int (44 : Int32)), .unset] [(.ref a1), (.int (44 : Int32))])) rfl rfl (hb hby d3_2) _ ?_
    rw [len_of S2 N_2]
    show Steps p.tables e below (s₁.setTop (mkF m 3 #[.val (.ref a1), .val (.int (44 : Int32)), .unset] [(.int (12 : Int32)), (.int (44 : Int32))])) _
    refine XS.icmpYes X0.here hx rfl (pc0 := 3) (pc' := 14) rfl (hb hby d3_3) rfl (feq (by decide : ¬ ((44 : Int32) = (12 : Int32)))).2 (by decide) (by decide) ?_
    show Steps p.tables e below (s₁.setTop (mkF m 14 #[.val (.ref a1), .val (.int (44 : Int32)), .unset] [])) _
    refine XS.iloadN X0.here hx rfl (hb hby d3_14) rfl ?_
    show Steps p.tables e below (s₁.setTop (mkF m 15 #[.val (.ref a1), .val (.int (44 : Int32)), .unset] [(.int (44 : Int32))])) _
    refine st3 _ ?_
    show Steps p.tables e below (T3.setTop (mkF m 17 #[.val (.ref a1), .val (.int (44 : Int32)), .unset] [(.ref b3)])) _
    refine XS.astoreN X3.here hx rfl (hb hby d3_17) rfl rfl (l' := #[.val (.ref a1), .val (.int (44 : Int32)), .val (.ref b3)]) rfl ?_
    show Steps p.tables e below (T3.setTop (mkF m 18 #[.val (.ref a1), .val (.int (44 : Int32)), .val (.ref b3)] [])) _
    refine XS.aloadN X3.here hx rfl (hb hby d3_18) rfl rfl ?_
    show Steps p.tables e below (T3.setTop (mkF m 19 #[.val (.ref a1), .val (.int (44 : Int32)), .val (.ref b3)] [(.ref a1)])) _
    refine XS.iconst X3.here hx rfl (hb hby d3_19) ?_
    show Steps p.tables e below (T3.setTop (mkF m 20 #[.val (.ref a1), .val (.int (44 : Int32)), .val (.ref b3)] [(.int (0 : Int32)), (.ref a1)])) _
    refine XS.aloadN X3.here hx rfl (hb hby d3_20) rfl rfl ?_
    show Steps p.tables e below (T3.setTop (mkF m 21 #[.val (.ref a1), .val (.int (44 : Int32)), .val (.ref b3)] [(.ref b3), (.int (0 : Int32)), (.ref a1)])) _
    refine XS.iconst X3.here hx rfl (hb hby d3_21) ?_
    show Steps p.tables e below (T3.setTop (mkF m 22 #[.val (.ref a1), .val (.int (44 : Int32)), .val (.ref b3)] [(.int (0 : Int32)), (.ref b3), (.int (0 : Int32)), (.ref a1)])) _
    refine XS.aloadN X3.here hx rfl (hb hby d3_22) rfl rfl ?_
    show Steps p.tables e below (T3.setTop (mkF m 23 #[.val (.ref a1), .val (.int (44 : Int32)), .val (.ref b3)] [(.ref a1), (.int (0 : Int32)), (.ref b3), (.int (0 : Int32)), (.ref a1)])) _
    refine X3.arraylength hx (by rw [e3]; exact Ar5.1) (State.isArrayOf_alike hZ.alike Ar5.2.1) (g := (mkF m 23 #[.val (.ref a1), .val (.int (44 : Int32)), .val (.ref b3)] [(.ref a1), (.int (0 : Int32)), (.ref b3), (.int (0 : Int32)), (.ref a1)])) rfl rfl (hb hby d3_23) _ ?_
    rw [len_of S5 N_5]
    show Steps p.tables e below (T3.setTop (mkF m 24 #[.val (.ref a1), .val (.int (44 : Int32)), .val (.ref b3)] [(.int (12 : Int32)), (.int (0 : Int32)), (.ref b3), (.int (0 : Int32)), (.ref a1)])) _
    refine XS.iloadN X3.here hx rfl (hb hby d3_24) rfl ?_
    show Steps p.tables e below (T3.setTop (mkF m 25 #[.val (.ref a1), .val (.int (44 : Int32)), .val (.ref b3)] [(.int (44 : Int32)), (.int (12 : Int32)), (.int (0 : Int32)), (.ref b3), (.int (0 : Int32)), (.ref a1)])) _
    refine st6 _ ?_
    show Steps p.tables e below (T6.setTop (mkF m 28 #[.val (.ref a1), .val (.int (44 : Int32)), .val (.ref b3)] [(.int (12 : Int32)), (.int (0 : Int32)), (.ref b3), (.int (0 : Int32)), (.ref a1)])) _
    refine st7 _ ?_
    show Steps p.tables e below (T7.setTop (mkF m 31 #[.val (.ref a1), .val (.int (44 : Int32)), .val (.ref b3)] [])) _
    refine XS.aloadN X7.here hx rfl (hb hby d3_31) rfl rfl ?_
    show Steps p.tables e below (T7.setTop (mkF m 32 #[.val (.ref a1), .val (.int (44 : Int32)), .val (.ref b3)] [(.ref b3)])) _
    jvm_step X7.here [X7.here.top, hx, (hb hby d3_32), X7.method', Bd.returns, Value.isRef, FieldType.isReference]
    first | (intro acts; rw [hr _ acts rfl rfl rfl]) | rw [hr _ _ rfl rfl rfl]
    exact Steps.refl _
  · show Q3_1 Z a1 k_a1 h0 n0 _ T7.heap _
    rw [e7]
    exact ⟨b3, k3, rfl, N7, K0_7, sz_b3, V7'⟩
theorem pd_2 : parseMethodDescriptor "([BI)[B" = some ⟨[(.array .byte), .int], some (.array .byte)⟩ := by decide +kernel
theorem d2_13 : decode prog_12_method_5_code 13 = .ok (.astore_n 1, 1) := by decide +kernel
theorem d2_14 : decode prog_12_method_5_code 14 = .ok (.aload_n 0, 1) := by decide +kernel
theorem d2_15 : decode prog_12_method_5_code 15 = .ok (.iconst 0, 1) := by decide +kernel
theorem d2_16 : decode prog_12_method_5_code 16 = .ok (.aload_n 1, 1) := by decide +kernel
theorem d2_17 : decode prog_12_method_5_code 17 = .ok (.getstatic 37, 3) := by decide +kernel
theorem d2_20 : decode prog_12_method_5_code 20 = .ok (.arraylength, 1) := by decide +kernel
theorem d2_21 : decode prog_12_method_5_code 21 = .ok (.aload_n 0, 1) := by decide +kernel
theorem d2_22 : decode prog_12_method_5_code 22 = .ok (.arraylength, 1) := by decide +kernel
theorem d2_23 : decode prog_12_method_5_code 23 = .ok (.invokestatic 47, 3) := by decide +kernel
theorem d2_26 : decode prog_12_method_5_code 26 = .ok (.aload_n 1, 1) := by decide +kernel
theorem d2_27 : decode prog_12_method_5_code 27 = .ok (.areturn, 1) := by decide +kernel
theorem ef_2_R (m : MethodId) (x0 : Addr) : entryFrame m #[(.ref x0)] 2 = mkF m 0 #[.val (.ref x0), .unset] [] := by first | (simp [entryFrame, mkF, argsToLocals, Value.category]; done) | rfl
theorem pn_2 : plainName "com/example/lasting_names/lastingnames/Ed25519" = true := by first | (simp [plainName, overriddenIn]; done) | decide +kernel
def Q2_1 (Z : State) (a1 : Addr) (w2 : Addr) (k_w2 : ClassId) (k_a1 : ClassId) (w6 : Int32) (w7 : Int32) (w8 : Int32) (w9 : Int32) (w10 : Int32) (w11 : Int32) (w12 : Int32) (w13 : Int32) (w14 : Int32) (w15 : Int32) (w16 : Int32) (w17 : Int32) (w18 : Int32) (w19 : Int32) (w20 : Int32) (w21 : Int32) (w22 : Int32) (w23 : Int32) (w24 : Int32) (w25 : Int32) (w26 : Int32) (w27 : Int32) (w28 : Int32) (w29 : Int32) (w30 : Int32) (w31 : Int32) (w32 : Int32) (w33 : Int32) (w34 : Int32) (w35 : Int32) (w36 : Int32) (w37 : Int32) (h0 : Heap) (n0 : Nat) (v : Option Value) (h : Heap) (L : List Loc) : Prop := ∃ (b3_39 : Addr) (k3_39 : ClassId), v = some (.ref b3_39) ∧ Fr n0 L ∧ Keep h0 h [] ∧ h0.size ≤ b3_39 ∧ Arv Z h b3_39 k3_39 .byte (44 : Int32) [(.int (48 : Int32)), (.int (42 : Int32)), (.int (48 : Int32)), (.int (5 : Int32)), (.int (6 : Int32)), (.int (3 : Int32)), (.int (43 : Int32)), (.int (101 : Int32)), (.int (112 : Int32)), (.int (3 : Int32)), (.int (33 : Int32)), (.int (0 : Int32)), (.int w6), (.int w7), (.int w8), (.int w9), (.int w10), (.int w11), (.int w12), (.int w13), (.int w14), (.int w15), (.int w16), (.int w17), (.int w18), (.int w19), (.int w20), (.int w21), (.int w22), (.int w23), (.int w24), (.int w25), (.int w26), (.int w27), (.int w28), (.int w29), (.int w30), (.int w31), (.int w32), (.int w33), (.int w34), (.int w35), (.int w36), (.int w37)] (.int (0 : Int32))
set_option maxRecDepth 65536 in
set_option maxHeartbeats 40000000 in
theorem rm2_1 (l : Launch) (Z : State) (a0 : Array Value) (hw : ∀ d ∈ tables_1, d.before a0 Z = true) (ws : List Jvm.Cond) (a1 : Addr) (w2 : Addr) (k_w2 : ClassId) (k_a1 : ClassId) (w6 : Int32) (w7 : Int32) (w8 : Int32) (w9 : Int32) (w10 : Int32) (w11 : Int32) (w12 : Int32) (w13 : Int32) (w14 : Int32) (w15 : Int32) (w16 : Int32) (w17 : Int32) (w18 : Int32) (w19 : Int32) (w20 : Int32) (w21 : Int32) (w22 : Int32) (w23 : Int32) (w24 : Int32) (w25 : Int32) (w26 : Int32) (w27 : Int32) (w28 : Int32) (w29 : Int32) (w30 : Int32) (w31 : Int32) (w32 : Int32) (w33 : Int32) (w34 : Int32) (w35 : Int32) (w36 : Int32) (w37 : Int32) (h0 : Heap) (n0 : Nat) (Z0 : n0 ≤ h0.size) (S_SUBJECT_PUBLIC_KEY_INFO_HEAD : Sta Z h0 "com/example/lasting_names/lastingnames/Ed25519" "SUBJECT_PUBLIC_KEY_INFO_HEAD" "[B" (.ref w2)) (V_w2 : Arv Z h0 w2 k_w2 .byte (12 : Int32) [(.int (48 : Int32)), (.int (42 : Int32)), (.int (48 : Int32)), (.int (5 : Int32)), (.int (6 : Int32)), (.int (3 : Int32)), (.int (43 : Int32)), (.int (101 : Int32)), (.int (112 : Int32)), (.int (3 : Int32)), (.int (33 : Int32)), (.int (0 : Int32))] (.int (0 : Int32))) (V_a1 : Arv Z h0 a1 k_a1 .byte (32 : Int32) [(.int w6), (.int w7), (.int w8), (.int w9), (.int w10), (.int w11), (.int w12), (.int w13), (.int w14), (.int w15), (.int w16), (.int w17), (.int w18), (.int w19), (.int w20), (.int w21), (.int w22), (.int w23), (.int w24), (.int w25), (.int w26), (.int w27), (.int w28), (.int w29), (.int w30), (.int w31), (.int w32), (.int w33), (.int w34), (.int w35), (.int w36), (.int w37)] (.int (0 : Int32))) :
    MetFree l (⟨"com/example/lasting_names/lastingnames/Ed25519", "subjectPublicKeyInfo", "([B)[B"⟩ : MethodName) (head1 (Jvm.Cond.code (⟨"com/example/lasting_names/lastingnames/Ed25519", "subjectPublicKeyInfo", "([B)[B"⟩ : MethodName) prog_12_method_5_code 2 (some (.array .byte)) :: ws) ({ frames := 2, cells := 1, slots := 44, locals := 32 } : Room)) (fun a U => a = #[(.ref a1)] ∧ Z.Warmed39 U.vm ∧ U.heap = h0) (fun _ _ _ _ _ => True) (fun _ U o U' => ∃ v L, o = .returned v ∧ Q2_1 Z a1 w2 k_w2 k_a1 w6 w7 w8 w9 w10 w11 w12 w13 w14 w15 w16 w17 w18 w19 w20 w21 w22 w23 w24 w25 w26 w27 w28 w29 w30 w31 w32 w33 w34 w35 w36 w37 h0 n0 v U'.heap L ∧ FrameEnd U o U' L ({ frames := 2, cells := 1, slots := 44, locals := 32 } : Room).cells ({ frames := 2, cells := 1, slots := 44, locals := 32 } : Room).slots) := by
  refine MetFree.of_bodySF (plainFor_of_name pn_2) hisR ?_
  intro p e s m args below meth c s₁ Bd hml0 hP hK
  obtain ⟨rfl, hZ, hh⟩ := hP
  have hx := Bd.exec
  have hby := Bd.bytes
  have hml : c.maxLocals = 2 := hml0
  have hown : s.vm.findClass "com/example/lasting_names/lastingnames/Ed25519" = some m.cls := findClass_of_methodNamed Bd.named
  have hnm := (name_of_methodNamed Bd.named Bd.method).1
  have X0 : Stand p l e ({ frames := 2, cells := 1, slots := 44, locals := 32 } : Room) s m #[(.ref a1)] below meth c s₁ [] 0 0 := Stand.of_body Bd
  have e0 : s₁.heap = h0 := by rw [← hh, Bd.state]; rfl
  have N0 := Fr.nil n0
  have pre0 : ∀ t, Steps p.tables e below (s₁.setTop (mkF m 0 #[.val (.ref a1), .unset] [])) t → Steps p.tables e below (s₁.setTop (entryFrame m #[(.ref a1)] 2)) t := fun t k => castTop (ef_2_R m a1) k
  obtain ⟨T3, X3, e3, st3⟩ := getS2 X0 hx hZ hown (host := "") (Or.inl (hw _ (List.mem_of_getElem? (i := 9) rfl))) Via.refl e0 S_SUBJECT_PUBLIC_KEY_INFO_HEAD (g := (mkF m 0 #[.val (.ref a1), .unset] [])) rfl (hb hby d2_0)
  obtain ⟨T4, X4, e4, st4⟩ := getS2 X3 hx hZ hown (host := "") (Or.inl (hw _ (List.mem_of_getElem? (i := 9) rfl))) Via.refl e3 S_SUBJECT_PUBLIC_KEY_INFO_HEAD (g := (mkF m 3 #[.val (.ref a1), .unset] [(.ref w2)])) rfl (hb hby d2_3)
  obtain ⟨cl5, Ar5, -, S5, N_5, -, -⟩ := id V_w2
  obtain ⟨cl38, Ar38, -, S38, N_38, -, -⟩ := id V_a1
  obtain ⟨_, _, ⟨T39, L39, k39, n39⟩, -, X39, ⟨Lc39, hQ39, l39, y39, z39⟩, st39⟩ := Jvm.LawKit.callS X4 hx (y := (⟨"java/util/Arrays", "copyOf", "([BI)[B"⟩ : MethodName)) hown (mvT hZ (hw _ (List.mem_of_getElem? (i := 11) rfl))) (mvT hZ (hw _ (List.mem_of_getElem? (i := 12) rfl))) (mvT hZ (hw _ (List.mem_of_getElem? (i := 13) rfl))) (mvT hZ (hw _ (List.mem_of_getElem? (i := 14) rfl))) (by decide) (backOf (W := 0) (rm3_1 l Z a0 hw [] w2 k_w2 h0 n0 Z0 V_w2) hZ (hw _ (List.mem_of_getElem? (i := 14) rfl)) (hw _ (List.mem_of_getElem? (i := 13) rfl)) (by decide) (by decide)) (g := (mkF m 10 #[.val (.ref a1), .unset] [(.int (44 : Int32)), (.ref w2)])) rfl (by rw [hml]; rfl) (argsL := [(.ref w2), (.int (44 : Int32))]) (rest := []) (lenOf pd_2 rfl) rfl (by show 2 * 0 + _ ≤ _; exact Nat.le_of_eq rfl) (hb hby d2_10) (fun _ _ => ⟨rfl, e4, (by decide : 0 + 1 ≤ _), (by decide : 0 + 44 ≤ _)⟩)
  dsimp only [Pt.U, Pt.locs, Pt.cells, Pt.slots] at X39 l39 y39 z39 st39 hQ39
  subst l39 y39 z39
  obtain ⟨b3_39, k3_39, rfl, Nq39, K39, x39_0, x39_1⟩ := hQ39
  have N39 := Fr.app N0 Nq39
  have sz_b3_39 : h0.size ≤ b3_39 := Nat.le_trans (Keep.refl h0 []).1 x39_0
  have g_b3_39 : n0 ≤ b3_39 := Nat.le_trans Z0 sz_b3_39
  have K0_39 : Keep h0 T39.heap [] := (Keep.refl h0 []).trans K39 all0
  have Z39 : n0 ≤ T39.heap.size := Nat.le_trans Z0 K39.1
  have f40 := (own_sta_keep S_SUBJECT_PUBLIC_KEY_INFO_HEAD K39 all0)
  obtain ⟨T41, X41, e41, st41⟩ := getS2 X39 hx hZ hown (host := "") (Or.inl (hw _ (List.mem_of_getElem? (i := 9) rfl))) Via.refl rfl f40 (g := (mkF m 17 #[.val (.ref a1), .val (.ref b3_39)] [(.ref b3_39), (.int (0 : Int32)), (.ref a1)])) rfl (hb hby d2_17)
  have f42 := (V_w2.keep K39 nin0)
  obtain ⟨cl43, Ar43, -, S43, N_43, -, -⟩ := id f42
  have f44 := (V_a1.keep K39 nin0)
  obtain ⟨cl45, Ar45, -, S45, N_45, -, -⟩ := id f44
  obtain ⟨T46, h46, L46, X46, e46, N46, K46, V46, st46⟩ := cpA X41 hx hZ hown (hw _ (List.mem_of_getElem? (i := 23) rfl)) (hw _ (List.mem_of_getElem? (i := 22) rfl)) (hw _ (List.mem_of_getElem? (i := 20) rfl)) (hw _ (List.mem_of_getElem? (i := 21) rfl)) e41 (us := [(.int w6), (.int w7), (.int w8), (.int w9), (.int w10), (.int w11), (.int w12), (.int w13), (.int w14), (.int w15), (.int w16), (.int w17), (.int w18), (.int w19), (.int w20), (.int w21), (.int w22), (.int w23), (.int w24), (.int w25), (.int w26), (.int w27), (.int w28), (.int w29), (.int w30), (.int w31), (.int w32), (.int w33), (.int w34), (.int w35), (.int w36), (.int w37)]) f44 x39_1 (Or.inl ⟨rfl, rfl⟩) (by decide) (by decide) (by decide) (by decide) (by decide) rfl (Nat.le_of_ble_eq_true rfl) N39 g_b3_39 (g := (mkF m 23 #[.val (.ref a1), .val (.ref b3_39)] [(.int (32 : Int32)), (.int (12 : Int32)), (.ref b3_39), (.int (0 : Int32)), (.ref a1)])) rfl (by rw [hml]; rfl) rfl (hb hby d2_23) (by decide) (W := 0) (by show 2 * 0 + _ ≤ _; exact Nat.le_of_eq rfl) (by decide)
  have K0_46 : Keep h0 h46 [] := K0_39.trans K46 (allS (Or.inr sz_b3_39) all0)
  have Z46 : n0 ≤ h46.size := Nat.le_trans Z39 K46.1
  have V46' : Arv Z h46 b3_39 k3_39 .byte (44 : Int32) [(.int (48 : Int32)), (.int (42 : Int32)), (.int (48 : Int32)), (.int (5 : Int32)), (.int (6 : Int32)), (.int (3 : Int32)), (.int (43 : Int32)), (.int (101 : Int32)), (.int (112 : Int32)), (.int (3 : Int32)), (.int (33 : Int32)), (.int (0 : Int32)), (.int w6), (.int w7), (.int w8), (.int w9), (.int w10), (.int w11), (.int w12), (.int w13), (.int w14), (.int w15), (.int w16), (.int w17), (.int w18), (.int w19), (.int w20), (.int w21), (.int w22), (.int w23), (.int w24), (.int w25), (.int w26), (.int w27), (.int w28), (.int w29), (.int w30), (.int w31), (.int w32), (.int w33), (.int w34), (.int w35), (.int w36), (.int w37)] (.int (0 : Int32)) := V46
  obtain ⟨fs, hr, hrun, hended, hW, hsame⟩ := X46.leave (v := some (.ref b3_39)) (fun h => by rw [Bd.returns] at h; cases h)
  refine ⟨_, _, pre0 _ ?_, hrun, hended, _, _, rfl, ?_, ⟨_, rfl⟩, hW, hsame.mono (by decide) (by decide)⟩
  · show Steps p.tables e below (s₁.setTop (mkF m 0 #[.val (.ref a1), .unset] [])) _
    refine st3 _ ?_
    show Steps p.tables e below (T3.setTop (mkF m 3 #[.val (.ref a1), .unset] [(.ref w2)])) _
    refine st4 _ ?_
    show Steps p.tables e below (T4.setTop (mkF m 6 #[.val (.ref a1), .unset] [(.ref w2), (.ref w2)])) _
    refine X4.arraylength hx (by rw [e4]; exact Ar5.1) (State.isArrayOf_alike hZ.alike Ar5.2.1) (g := (mkF m 6 #[.val (.ref a1), .unset] [(.ref w2), (.ref w2)])) rfl rfl (hb hby d2_6) _ ?_
    rw [len_of S5 N_5]
    show Steps p.tables e below (T4.setTop (mkF m 7 #[.val (.ref a1), .unset] [(.int (12 : Int32)), (.ref w2)])) _
    refine XS.aloadN X4.here hx rfl (hb hby d2_7) rfl rfl ?_
    show Steps p.tables e below (T4.setTop (mkF m 8 #[.val (.ref a1), .unset] [(.ref a1), (.int (12 : Int32)), (.ref w2)])) _
    refine X4.arraylength hx (by rw [e4]; exact Ar38.1) (State.isArrayOf_alike hZ.alike Ar38.2.1) (g := (mkF m 8 #[.val (.ref a1), .unset] [(.ref a1), (.int (12 : Int32)), (.ref w2)])) rfl rfl (hb hby d2_8) _ ?_
    rw [len_of S38 N_38]
    show Steps p.tables e below (T4.setTop (mkF m 9 #[.val (.ref a1), .unset] [(.int (32 : Int32)), (.int (12 : Int32)), (.ref w2)])) _
    refine XS.iadd X4.here hx rfl (hb hby d2_9) rfl ?_
    show Steps p.tables e below (T4.setTop (mkF m 10 #[.val (.ref a1), .unset] [(.int (44 : Int32)), (.ref w2)])) _
    refine st39 _ ?_
    show Steps p.tables e below (T39.setTop (mkF m 13 #[.val (.ref a1), .unset] [(.ref b3_39)])) _
    refine XS.astoreN X39.here hx rfl (hb hby d2_13) rfl rfl (l' := #[.val (.ref a1), .val (.ref b3_39)]) rfl ?_
    show Steps p.tables e below (T39.setTop (mkF m 14 #[.val (.ref a1), .val (.ref b3_39)] [])) _
    refine XS.aloadN X39.here hx rfl (hb hby d2_14) rfl rfl ?_
    show Steps p.tables e below (T39.setTop (mkF m 15 #[.val (.ref a1), .val (.ref b3_39)] [(.ref a1)])) _
    refine XS.iconst X39.here hx rfl (hb hby d2_15) ?_
    show Steps p.tables e below (T39.setTop (mkF m 16 #[.val (.ref a1), .val (.ref b3_39)] [(.int (0 : Int32)), (.ref a1)])) _
    refine XS.aloadN X39.here hx rfl (hb hby d2_16) rfl rfl ?_
    show Steps p.tables e below (T39.setTop (mkF m 17 #[.val (.ref a1), .val (.ref b3_39)] [(.ref b3_39), (.int (0 : Int32)), (.ref a1)])) _
    refine st41 _ ?_
    show Steps p.tables e below (T41.setTop (mkF m 20 #[.val (.ref a1), .val (.ref b3_39)] [(.ref w2), (.ref b3_39), (.int (0 : Int32)), (.ref a1)])) _
    refine X41.arraylength hx (by rw [e41]; exact Ar43.1) (State.isArrayOf_alike hZ.alike Ar43.2.1) (g := (mkF m 20 #[.val (.ref a1), .val (.ref b3_39)] [(.ref w2), (.ref b3_39), (.int (0 : Int32)), (.ref a1)])) rfl rfl (hb hby d2_20) _ ?_
    rw [len_of S43 N_43]
    show Steps p.tables e below (T41.setTop (mkF m 21 #[.val (.ref a1), .val (.ref b3_39)] [(.int (12 : Int32)), (.ref b3_39), (.int (0 : Int32)), (.ref a1)])) _
    refine XS.aloadN X41.here hx rfl (hb hby d2_21) rfl rfl ?_
    show Steps p.tables e below (T41.setTop (mkF m 22 #[.val (.ref a1), .val (.ref b3_39)] [(.ref a1), (.int (12 : Int32)), (.ref b3_39), (.int (0 : Int32)), (.ref a1)])) _
    refine X41.arraylength hx (by rw [e41]; exact Ar45.1) (State.isArrayOf_alike hZ.alike Ar45.2.1) (g := (mkF m 22 #[.val (.ref a1), .val (.ref b3_39)] [(.ref a1), (.int (12 : Int32)), (.ref b3_39), (.int (0 : Int32)), (.ref a1)])) rfl rfl (hb hby d2_22) _ ?_
    rw [len_of S45 N_45]
    show Steps p.tables e below (T41.setTop (mkF m 23 #[.val (.ref a1), .val (.ref b3_39)] [(.int (32 : Int32)), (.int (12 : Int32)), (.ref b3_39), (.int (0 : Int32)), (.ref a1)])) _
    refine st46 _ ?_
    show Steps p.tables e below (T46.setTop (mkF m 26 #[.val (.ref a1), .val (.ref b3_39)] [])) _
    refine XS.aloadN X46.here hx rfl (hb hby d2_26) rfl rfl ?_
    show Steps p.tables e below (T46.setTop (mkF m 27 #[.val (.ref a1), .val (.ref b3_39)] [(.ref b3_39)])) _
    jvm_step X46.here [X46.here.top, hx, (hb hby d2_27), X46.method', Bd.returns, Value.isRef, FieldType.isReference]
    first | (intro acts; rw [hr _ acts rfl rfl rfl]) | rw [hr _ _ rfl rfl rfl]
    exact Steps.refl _
  · show Q2_1 Z a1 w2 k_w2 k_a1 w6 w7 w8 w9 w10 w11 w12 w13 w14 w15 w16 w17 w18 w19 w20 w21 w22 w23 w24 w25 w26 w27 w28 w29 w30 w31 w32 w33 w34 w35 w36 w37 h0 n0 _ T46.heap _
    rw [e46]
    exact ⟨b3_39, k3_39, rfl, N46, K0_46, sz_b3_39, V46'⟩
theorem pd_3 : parseMethodDescriptor "([B)[B" = some ⟨[(.array .byte)], some (.array .byte)⟩ := by decide +kernel
theorem d5_0 : decode method_3_code 0 = .ok (.aload_n 0, 1) := by decide +kernel
theorem d5_1 : decode method_3_code 1 = .ok (.iload_n 1, 1) := by decide +kernel
theorem d5_2 : decode method_3_code 2 = .ok (.baload, 1) := by decide +kernel
theorem d5_3 : decode method_3_code 3 = .ok (.lload_n 2, 1) := by decide +kernel
theorem d5_4 : decode method_3_code 4 = .ok (.bipush 56, 2) := by decide +kernel
theorem d5_6 : decode method_3_code 6 = .ok (.lushr, 1) := by decide +kernel
theorem d5_7 : decode method_3_code 7 = .ok (.l2i, 1) := by decide +kernel
theorem d5_8 : decode method_3_code 8 = .ok (.i2b, 1) := by decide +kernel
theorem d5_9 : decode method_3_code 9 = .ok (.if_icmp .ne 104, 3) := by decide +kernel
theorem d5_12 : decode method_3_code 12 = .ok (.aload_n 0, 1) := by decide +kernel
theorem d5_13 : decode method_3_code 13 = .ok (.iload_n 1, 1) := by decide +kernel
theorem d5_14 : decode method_3_code 14 = .ok (.iconst 1, 1) := by decide +kernel
theorem d5_15 : decode method_3_code 15 = .ok (.iadd, 1) := by decide +kernel
theorem d5_16 : decode method_3_code 16 = .ok (.baload, 1) := by decide +kernel
theorem d5_17 : decode method_3_code 17 = .ok (.lload_n 2, 1) := by decide +kernel
theorem d5_18 : decode method_3_code 18 = .ok (.bipush 48, 2) := by decide +kernel
theorem d5_20 : decode method_3_code 20 = .ok (.lushr, 1) := by decide +kernel
theorem d5_21 : decode method_3_code 21 = .ok (.l2i, 1) := by decide +kernel
theorem d5_22 : decode method_3_code 22 = .ok (.i2b, 1) := by decide +kernel
theorem d5_23 : decode method_3_code 23 = .ok (.if_icmp .ne 90, 3) := by decide +kernel
theorem d5_26 : decode method_3_code 26 = .ok (.aload_n 0, 1) := by decide +kernel
theorem d5_27 : decode method_3_code 27 = .ok (.iload_n 1, 1) := by decide +kernel
theorem d5_28 : decode method_3_code 28 = .ok (.iconst 2, 1) := by decide +kernel
theorem d5_29 : decode method_3_code 29 = .ok (.iadd, 1) := by decide +kernel
theorem d5_30 : decode method_3_code 30 = .ok (.baload, 1) := by decide +kernel
theorem d5_31 : decode method_3_code 31 = .ok (.lload_n 2, 1) := by decide +kernel
theorem d5_32 : decode method_3_code 32 = .ok (.bipush 40, 2) := by decide +kernel
theorem d5_34 : decode method_3_code 34 = .ok (.lushr, 1) := by decide +kernel
theorem d5_35 : decode method_3_code 35 = .ok (.l2i, 1) := by decide +kernel
theorem d5_36 : decode method_3_code 36 = .ok (.i2b, 1) := by decide +kernel
theorem d5_37 : decode method_3_code 37 = .ok (.if_icmp .ne 76, 3) := by decide +kernel
theorem d5_40 : decode method_3_code 40 = .ok (.aload_n 0, 1) := by decide +kernel
theorem d5_41 : decode method_3_code 41 = .ok (.iload_n 1, 1) := by decide +kernel
theorem d5_42 : decode method_3_code 42 = .ok (.iconst 3, 1) := by decide +kernel
theorem d5_43 : decode method_3_code 43 = .ok (.iadd, 1) := by decide +kernel
theorem d5_44 : decode method_3_code 44 = .ok (.baload, 1) := by decide +kernel
theorem d5_45 : decode method_3_code 45 = .ok (.lload_n 2, 1) := by decide +kernel
theorem d5_46 : decode method_3_code 46 = .ok (.bipush 32, 2) := by decide +kernel
theorem d5_48 : decode method_3_code 48 = .ok (.lushr, 1) := by decide +kernel
theorem d5_49 : decode method_3_code 49 = .ok (.l2i, 1) := by decide +kernel
theorem d5_50 : decode method_3_code 50 = .ok (.i2b, 1) := by decide +kernel
theorem d5_51 : decode method_3_code 51 = .ok (.if_icmp .ne 62, 3) := by decide +kernel
theorem d5_54 : decode method_3_code 54 = .ok (.aload_n 0, 1) := by decide +kernel
theorem d5_55 : decode method_3_code 55 = .ok (.iload_n 1, 1) := by decide +kernel
theorem d5_56 : decode method_3_code 56 = .ok (.iconst 4, 1) := by decide +kernel
theorem d5_57 : decode method_3_code 57 = .ok (.iadd, 1) := by decide +kernel
theorem d5_58 : decode method_3_code 58 = .ok (.baload, 1) := by decide +kernel
theorem d5_59 : decode method_3_code 59 = .ok (.lload_n 2, 1) := by decide +kernel
theorem d5_60 : decode method_3_code 60 = .ok (.bipush 24, 2) := by decide +kernel
theorem d5_62 : decode method_3_code 62 = .ok (.lushr, 1) := by decide +kernel
theorem d5_63 : decode method_3_code 63 = .ok (.l2i, 1) := by decide +kernel
theorem d5_64 : decode method_3_code 64 = .ok (.i2b, 1) := by decide +kernel
theorem d5_65 : decode method_3_code 65 = .ok (.if_icmp .ne 48, 3) := by decide +kernel
theorem d5_68 : decode method_3_code 68 = .ok (.aload_n 0, 1) := by decide +kernel
theorem d5_69 : decode method_3_code 69 = .ok (.iload_n 1, 1) := by decide +kernel
theorem d5_70 : decode method_3_code 70 = .ok (.iconst 5, 1) := by decide +kernel
theorem d5_71 : decode method_3_code 71 = .ok (.iadd, 1) := by decide +kernel
theorem d5_72 : decode method_3_code 72 = .ok (.baload, 1) := by decide +kernel
theorem d5_73 : decode method_3_code 73 = .ok (.lload_n 2, 1) := by decide +kernel
theorem d5_74 : decode method_3_code 74 = .ok (.bipush 16, 2) := by decide +kernel
theorem d5_76 : decode method_3_code 76 = .ok (.lushr, 1) := by decide +kernel
theorem d5_77 : decode method_3_code 77 = .ok (.l2i, 1) := by decide +kernel
theorem d5_78 : decode method_3_code 78 = .ok (.i2b, 1) := by decide +kernel
theorem d5_79 : decode method_3_code 79 = .ok (.if_icmp .ne 34, 3) := by decide +kernel
theorem d5_82 : decode method_3_code 82 = .ok (.aload_n 0, 1) := by decide +kernel
theorem d5_83 : decode method_3_code 83 = .ok (.iload_n 1, 1) := by decide +kernel
theorem d5_84 : decode method_3_code 84 = .ok (.bipush 6, 2) := by decide +kernel
theorem d5_86 : decode method_3_code 86 = .ok (.iadd, 1) := by decide +kernel
theorem d5_87 : decode method_3_code 87 = .ok (.baload, 1) := by decide +kernel
theorem d5_88 : decode method_3_code 88 = .ok (.lload_n 2, 1) := by decide +kernel
theorem d5_89 : decode method_3_code 89 = .ok (.bipush 8, 2) := by decide +kernel
theorem d5_91 : decode method_3_code 91 = .ok (.lushr, 1) := by decide +kernel
theorem d5_92 : decode method_3_code 92 = .ok (.l2i, 1) := by decide +kernel
theorem d5_93 : decode method_3_code 93 = .ok (.i2b, 1) := by decide +kernel
theorem d5_94 : decode method_3_code 94 = .ok (.if_icmp .ne 19, 3) := by decide +kernel
theorem d5_97 : decode method_3_code 97 = .ok (.aload_n 0, 1) := by decide +kernel
theorem d5_98 : decode method_3_code 98 = .ok (.iload_n 1, 1) := by decide +kernel
theorem d5_99 : decode method_3_code 99 = .ok (.bipush 7, 2) := by decide +kernel
theorem d5_101 : decode method_3_code 101 = .ok (.iadd, 1) := by decide +kernel
theorem d5_102 : decode method_3_code 102 = .ok (.baload, 1) := by decide +kernel
theorem d5_103 : decode method_3_code 103 = .ok (.lload_n 2, 1) := by decide +kernel
theorem d5_104 : decode method_3_code 104 = .ok (.l2i, 1) := by decide +kernel
theorem d5_105 : decode method_3_code 105 = .ok (.i2b, 1) := by decide +kernel
theorem d5_106 : decode method_3_code 106 = .ok (.if_icmp .ne 7, 3) := by decide +kernel
theorem d5_109 : decode method_3_code 109 = .ok (.iconst 1, 1) := by decide +kernel
theorem d5_110 : decode method_3_code 110 = .ok (.goto 4, 3) := by decide +kernel
theorem d5_114 : decode method_3_code 114 = .ok (.ireturn, 1) := by decide +kernel
theorem ef_5_RIJ (m : MethodId) (x0 : Addr) (x1 : Int32) (x2 : Int64) : entryFrame m #[(.ref x0), (.int x1), (.long x2)] 4 = mkF m 0 #[.val (.ref x0), .val (.int x1), .val (.long x2), .second] [] := by first | (simp [entryFrame, mkF, argsToLocals, Value.category]; done) | rfl
theorem pn_5 : plainName "com/example/lasting_names/lastingnames/Ed25519SubjectPublicKeyInfoPinLaw" = true := by first | (simp [plainName, overriddenIn]; done) | decide +kernel
def Q5_1 (Z : State) (a1 : Addr) (q2 : Int64) (k_a1 : ClassId) (w3 : Int32) (w4 : Int32) (w5 : Int32) (w6 : Int32) (w7 : Int32) (w8 : Int32) (w9 : Int32) (w10 : Int32) (w11 : Int32) (w12 : Int32) (w13 : Int32) (w14 : Int32) (w15 : Int32) (w16 : Int32) (w17 : Int32) (w18 : Int32) (w19 : Int32) (w20 : Int32) (w21 : Int32) (w22 : Int32) (w23 : Int32) (w24 : Int32) (w25 : Int32) (w26 : Int32) (w27 : Int32) (w28 : Int32) (w29 : Int32) (w30 : Int32) (w31 : Int32) (w32 : Int32) (w33 : Int32) (w34 : Int32) (h0 : Heap) (n0 : Nat) (v : Option Value) (h : Heap) (L : List Loc) : Prop := v = some (.int (1 : Int32)) ∧ Fr n0 L ∧ h = h0
set_option maxRecDepth 65536 in
set_option maxHeartbeats 40000000 in
theorem rm5_1 (l : Launch) (Z : State) (a0 : Array Value) (hw : ∀ d ∈ tables_1, d.before a0 Z = true) (ws : List Jvm.Cond) (a1 : Addr) (q2 : Int64) (k_a1 : ClassId) (w3 : Int32) (w4 : Int32) (w5 : Int32) (w6 : Int32) (w7 : Int32) (w8 : Int32) (w9 : Int32) (w10 : Int32) (w11 : Int32) (w12 : Int32) (w13 : Int32) (w14 : Int32) (w15 : Int32) (w16 : Int32) (w17 : Int32) (w18 : Int32) (w19 : Int32) (w20 : Int32) (w21 : Int32) (w22 : Int32) (w23 : Int32) (w24 : Int32) (w25 : Int32) (w26 : Int32) (w27 : Int32) (w28 : Int32) (w29 : Int32) (w30 : Int32) (w31 : Int32) (w32 : Int32) (w33 : Int32) (w34 : Int32) (h0 : Heap) (n0 : Nat) (Z0 : n0 ≤ h0.size) (V_a1 : Arv Z h0 a1 k_a1 .byte (44 : Int32) [(.int (48 : Int32)), (.int (42 : Int32)), (.int (48 : Int32)), (.int (5 : Int32)), (.int (6 : Int32)), (.int (3 : Int32)), (.int (43 : Int32)), (.int (101 : Int32)), (.int (112 : Int32)), (.int (3 : Int32)), (.int (33 : Int32)), (.int (0 : Int32)), (.int w3), (.int w4), (.int w5), (.int w6), (.int w7), (.int w8), (.int w9), (.int w10), (.int w11), (.int w12), (.int w13), (.int w14), (.int w15), (.int w16), (.int w17), (.int w18), (.int w19), (.int w20), (.int w21), (.int w22), (.int w23), (.int w24), (.int w25), (.int w26), (.int w27), (.int w28), (.int w29), (.int w30), (.int w31), (.int w32), (.int w33), (.int w34)] (.int (0 : Int32))) (P36 : w3 = ((((q2.toUInt64 >>> ((56 : Int32) &&& 0x3f).toInt64.toUInt64).toInt64).toInt32).toInt8.toInt32)) (P38 : w4 = ((((q2.toUInt64 >>> ((48 : Int32) &&& 0x3f).toInt64.toUInt64).toInt64).toInt32).toInt8.toInt32)) (P40 : w5 = ((((q2.toUInt64 >>> ((40 : Int32) &&& 0x3f).toInt64.toUInt64).toInt64).toInt32).toInt8.toInt32)) (P42 : w6 = ((((q2.toUInt64 >>> ((32 : Int32) &&& 0x3f).toInt64.toUInt64).toInt64).toInt32).toInt8.toInt32)) (P44 : w7 = ((((q2.toUInt64 >>> ((24 : Int32) &&& 0x3f).toInt64.toUInt64).toInt64).toInt32).toInt8.toInt32)) (P46 : w8 = ((((q2.toUInt64 >>> ((16 : Int32) &&& 0x3f).toInt64.toUInt64).toInt64).toInt32).toInt8.toInt32)) (P48 : w9 = ((((q2.toUInt64 >>> ((8 : Int32) &&& 0x3f).toInt64.toUInt64).toInt64).toInt32).toInt8.toInt32)) (P50 : w10 = ((q2.toInt32).toInt8.toInt32)) :
    MetFree l (⟨"com/example/lasting_names/lastingnames/Ed25519SubjectPublicKeyInfoPinLaw", "same", "([BIJ)Z"⟩ : MethodName) (head1 (Jvm.Cond.code (⟨"com/example/lasting_names/lastingnames/Ed25519SubjectPublicKeyInfoPinLaw", "same", "([BIJ)Z"⟩ : MethodName) method_3_code 4 (some .boolean) :: ws) ({ frames := 0, cells := 0, slots := 0, locals := 0 } : Room)) (fun a U => a = #[(.ref a1), (.int (12 : Int32)), (.long q2)] ∧ Z.Warmed39 U.vm ∧ U.heap = h0) (fun _ _ _ _ _ => True) (fun _ U o U' => ∃ v L, o = .returned v ∧ Q5_1 Z a1 q2 k_a1 w3 w4 w5 w6 w7 w8 w9 w10 w11 w12 w13 w14 w15 w16 w17 w18 w19 w20 w21 w22 w23 w24 w25 w26 w27 w28 w29 w30 w31 w32 w33 w34 h0 n0 v U'.heap L ∧ FrameEnd U o U' L ({ frames := 0, cells := 0, slots := 0, locals := 0 } : Room).cells ({ frames := 0, cells := 0, slots := 0, locals := 0 } : Room).slots) := by
  refine MetFree.of_bodySF (plainFor_of_name pn_5) hisR ?_
  intro p e s m args below meth c s₁ Bd hml0 hP hK
  obtain ⟨rfl, hZ, hh⟩ := hP
  have hx := Bd.exec
  have hby := Bd.bytes
  have hml : c.maxLocals = 4 := hml0
  have hown : s.vm.findClass "com/example/lasting_names/lastingnames/Ed25519SubjectPublicKeyInfoPinLaw" = some m.cls := findClass_of_methodNamed Bd.named
  have hnm := (name_of_methodNamed Bd.named Bd.method).1
  have X0 : Stand p l e ({ frames := 0, cells := 0, slots := 0, locals := 0 } : Room) s m #[(.ref a1), (.int (12 : Int32)), (.long q2)] below meth c s₁ [] 0 0 := Stand.of_body Bd
  have e0 : s₁.heap = h0 := by rw [← hh, Bd.state]; rfl
  have N0 := Fr.nil n0
  have pre0 : ∀ t, Steps p.tables e below (s₁.setTop (mkF m 0 #[.val (.ref a1), .val (.int (12 : Int32)), .val (.long q2), .second] [])) t → Steps p.tables e below (s₁.setTop (entryFrame m #[(.ref a1), (.int (12 : Int32)), (.long q2)] 4)) t := fun t k => castTop (ef_5_RIJ m a1 (12 : Int32) q2) k
  obtain ⟨cl35, Ar35, q35, S35, N_35, H35, G35⟩ := id V_a1
  have hin35 : ¬ ((12 : Int32) < 0 ∨ cl35.slots.size ≤ ((12 : Int32)).toNatClampNeg) := inb_of S35 ⟨by decide, (by decide : (12 : Int32) < (44 : Int32))⟩
  have hat35 : cl35.slots[((12 : Int32)).toNatClampNeg]? = some (.int w3) := Has.at H35 hin35 rfl
  obtain ⟨cl37, Ar37, q37, S37, N_37, H37, G37⟩ := id V_a1
  have hin37 : ¬ ((13 : Int32) < 0 ∨ cl37.slots.size ≤ ((13 : Int32)).toNatClampNeg) := inb_of S37 ⟨by decide, (by decide : (13 : Int32) < (44 : Int32))⟩
  have hat37 : cl37.slots[((13 : Int32)).toNatClampNeg]? = some (.int w4) := Has.at H37 hin37 rfl
  obtain ⟨cl39, Ar39, q39, S39, N_39, H39, G39⟩ := id V_a1
  have hin39 : ¬ ((14 : Int32) < 0 ∨ cl39.slots.size ≤ ((14 : Int32)).toNatClampNeg) := inb_of S39 ⟨by decide, (by decide : (14 : Int32) < (44 : Int32))⟩
  have hat39 : cl39.slots[((14 : Int32)).toNatClampNeg]? = some (.int w5) := Has.at H39 hin39 rfl
  obtain ⟨cl41, Ar41, q41, S41, N_41, H41, G41⟩ := id V_a1
  have hin41 : ¬ ((15 : Int32) < 0 ∨ cl41.slots.size ≤ ((15 : Int32)).toNatClampNeg) := inb_of S41 ⟨by decide, (by decide : (15 : Int32) < (44 : Int32))⟩
  have hat41 : cl41.slots[((15 : Int32)).toNatClampNeg]? = some (.int w6) := Has.at H41 hin41 rfl
  obtain ⟨cl43, Ar43, q43, S43, N_43, H43, G43⟩ := id V_a1
  have hin43 : ¬ ((16 : Int32) < 0 ∨ cl43.slots.size ≤ ((16 : Int32)).toNatClampNeg) := inb_of S43 ⟨by decide, (by decide : (16 : Int32) < (44 : Int32))⟩
  have hat43 : cl43.slots[((16 : Int32)).toNatClampNeg]? = some (.int w7) := Has.at H43 hin43 rfl
  obtain ⟨cl45, Ar45, q45, S45, N_45, H45, G45⟩ := id V_a1
  have hin45 : ¬ ((17 : Int32) < 0 ∨ cl45.slots.size ≤ ((17 : Int32)).toNatClampNeg) := inb_of S45 ⟨by decide, (by decide : (17 : Int32) < (44 : Int32))⟩
  have hat45 : cl45.slots[((17 : Int32)).toNatClampNeg]? = some (.int w8) := Has.at H45 hin45 rfl
  obtain ⟨cl47, Ar47, q47, S47, N_47, H47, G47⟩ := id V_a1
  have hin47 : ¬ ((18 : Int32) < 0 ∨ cl47.slots.size ≤ ((18 : Int32)).toNatClampNeg) := inb_of S47 ⟨by decide, (by decide : (18 : Int32) < (44 : Int32))⟩
  have hat47 : cl47.slots[((18 : Int32)).toNatClampNeg]? = some (.int w9) := Has.at H47 hin47 rfl
  obtain ⟨cl49, Ar49, q49, S49, N_49, H49, G49⟩ := id V_a1
  have hin49 : ¬ ((19 : Int32) < 0 ∨ cl49.slots.size ≤ ((19 : Int32)).toNatClampNeg) := inb_of S49 ⟨by decide, (by decide : (19 : Int32) < (44 : Int32))⟩
  have hat49 : cl49.slots[((19 : Int32)).toNatClampNeg]? = some (.int w10) := Has.at H49 hin49 rfl
  obtain ⟨fs, hr, hrun, hended, hW, hsame⟩ := X0.leave (v := some (.int (1 : Int32))) (fun h => by rw [Bd.returns] at h; cases h)
  refine ⟨_, _, pre0 _ ?_, hrun, hended, _, _, rfl, ?_, ⟨_, rfl⟩, hW, hsame.mono (by decide) (by decide)⟩
  · show Steps p.tables e below (s₁.setTop (mkF m 0 #[.val (.ref a1), .val (.int (12 : Int32)), .val (.long q2), .second] [])) _
    refine XS.aloadN X0.here hx rfl (hb hby d5_0) rfl rfl ?_
    show Steps p.tables e below (s₁.setTop (mkF m 1 #[.val (.ref a1), .val (.int (12 : Int32)), .val (.long q2), .second] [(.ref a1)])) _
    refine XS.iloadN X0.here hx rfl (hb hby d5_1) rfl ?_
    show Steps p.tables e below (s₁.setTop (mkF m 2 #[.val (.ref a1), .val (.int (12 : Int32)), .val (.long q2), .second] [(.int (12 : Int32)), (.ref a1)])) _
    refine X0.baloadBytes hx (j := (12 : Int32)) (v := (.int w3)) (by rw [e0]; exact Ar35.1) (State.isArrayOf_alike hZ.alike Ar35.2.1) Ar35.2.2 hin35 hat35 (g := (mkF m 2 #[.val (.ref a1), .val (.int (12 : Int32)), .val (.long q2), .second] [(.int (12 : Int32)), (.ref a1)])) rfl rfl (hb hby d5_2) _ ?_
    show Steps p.tables e below (s₁.setTop (mkF m 3 #[.val (.ref a1), .val (.int (12 : Int32)), .val (.long q2), .second] [(.int w3)])) _
    refine XS.lloadN X0.here hx rfl (hb hby d5_3) rfl ?_
    show Steps p.tables e below (s₁.setTop (mkF m 4 #[.val (.ref a1), .val (.int (12 : Int32)), .val (.long q2), .second] [(.long q2), (.int w3)])) _
    refine XS.bipush X0.here hx rfl (hb hby d5_4) ?_
    show Steps p.tables e below (s₁.setTop (mkF m 6 #[.val (.ref a1), .val (.int (12 : Int32)), .val (.long q2), .second] [(.int (56 : Int32)), (.long q2), (.int w3)])) _
    refine XS.lushr X0.here hx rfl (hb hby d5_6) rfl ?_
    show Steps p.tables e below (s₁.setTop (mkF m 7 #[.val (.ref a1), .val (.int (12 : Int32)), .val (.long q2), .second] [(.long ((q2.toUInt64 >>> ((56 : Int32) &&& 0x3f).toInt64.toUInt64).toInt64)), (.int w3)])) _
    refine XS.l2i X0.here hx rfl (hb hby d5_7) rfl ?_
    show Steps p.tables e below (s₁.setTop (mkF m 8 #[.val (.ref a1), .val (.int (12 : Int32)), .val (.long q2), .second] [(.int (((q2.toUInt64 >>> ((56 : Int32) &&& 0x3f).toInt64.toUInt64).toInt64).toInt32)), (.int w3)])) _
    refine XS.i2b X0.here hx rfl (hb hby d5_8) rfl ?_
    show Steps p.tables e below (s₁.setTop (mkF m 9 #[.val (.ref a1), .val (.int (12 : Int32)), .val (.long q2), .second] [(.int ((((q2.toUInt64 >>> ((56 : Int32) &&& 0x3f).toInt64.toUInt64).toInt64).toInt32).toInt8.toInt32)), (.int w3)])) _
    refine XS.icmpNo X0.here hx rfl (hb hby d5_9) rfl (teq P36).2 ?_
    show Steps p.tables e below (s₁.setTop (mkF m 12 #[.val (.ref a1), .val (.int (12 : Int32)), .val (.long q2), .second] [])) _
    refine XS.aloadN X0.here hx rfl (hb hby d5_12) rfl rfl ?_
    show Steps p.tables e below (s₁.setTop (mkF m 13 #[.val (.ref a1), .val (.int (12 : Int32)), .val (.long q2), .second] [(.ref a1)])) _
    refine XS.iloadN X0.here hx rfl (hb hby d5_13) rfl ?_
    show Steps p.tables e below (s₁.setTop (mkF m 14 #[.val (.ref a1), .val (.int (12 : Int32)), .val (.long q2), .second] [(.int (12 : Int32)), (.ref a1)])) _
    refine XS.iconst X0.here hx rfl (hb hby d5_14) ?_
    show Steps p.tables e below (s₁.setTop (mkF m 15 #[.val (.ref a1), .val (.int (12 : Int32)), .val (.long q2), .second] [(.int (1 : Int32)), (.int (12 : Int32)), (.ref a1)])) _
    refine XS.iadd X0.here hx rfl (hb hby d5_15) rfl ?_
    show Steps p.tables e below (s₁.setTop (mkF m 16 #[.val (.ref a1), .val (.int (12 : Int32)), .val (.long q2), .second] [(.int (13 : Int32)), (.ref a1)])) _
    refine X0.baloadBytes hx (j := (13 : Int32)) (v := (.int w4)) (by rw [e0]; exact Ar37.1) (State.isArrayOf_alike hZ.alike Ar37.2.1) Ar37.2.2 hin37 hat37 (g := (mkF m 16 #[.val (.ref a1), .val (.int (12 : Int32)), .val (.long q2), .second] [(.int (13 : Int32)), (.ref a1)])) rfl rfl (hb hby d5_16) _ ?_
    show Steps p.tables e below (s₁.setTop (mkF m 17 #[.val (.ref a1), .val (.int (12 : Int32)), .val (.long q2), .second] [(.int w4)])) _
    refine XS.lloadN X0.here hx rfl (hb hby d5_17) rfl ?_
    show Steps p.tables e below (s₁.setTop (mkF m 18 #[.val (.ref a1), .val (.int (12 : Int32)), .val (.long q2), .second] [(.long q2), (.int w4)])) _
    refine XS.bipush X0.here hx rfl (hb hby d5_18) ?_
    show Steps p.tables e below (s₁.setTop (mkF m 20 #[.val (.ref a1), .val (.int (12 : Int32)), .val (.long q2), .second] [(.int (48 : Int32)), (.long q2), (.int w4)])) _
    refine XS.lushr X0.here hx rfl (hb hby d5_20) rfl ?_
    show Steps p.tables e below (s₁.setTop (mkF m 21 #[.val (.ref a1), .val (.int (12 : Int32)), .val (.long q2), .second] [(.long ((q2.toUInt64 >>> ((48 : Int32) &&& 0x3f).toInt64.toUInt64).toInt64)), (.int w4)])) _
    refine XS.l2i X0.here hx rfl (hb hby d5_21) rfl ?_
    show Steps p.tables e below (s₁.setTop (mkF m 22 #[.val (.ref a1), .val (.int (12 : Int32)), .val (.long q2), .second] [(.int (((q2.toUInt64 >>> ((48 : Int32) &&& 0x3f).toInt64.toUInt64).toInt64).toInt32)), (.int w4)])) _
    refine XS.i2b X0.here hx rfl (hb hby d5_22) rfl ?_
    show Steps p.tables e below (s₁.setTop (mkF m 23 #[.val (.ref a1), .val (.int (12 : Int32)), .val (.long q2), .second] [(.int ((((q2.toUInt64 >>> ((48 : Int32) &&& 0x3f).toInt64.toUInt64).toInt64).toInt32).toInt8.toInt32)), (.int w4)])) _
    refine XS.icmpNo X0.here hx rfl (hb hby d5_23) rfl (teq P38).2 ?_
    show Steps p.tables e below (s₁.setTop (mkF m 26 #[.val (.ref a1), .val (.int (12 : Int32)), .val (.long q2), .second] [])) _
    refine XS.aloadN X0.here hx rfl (hb hby d5_26) rfl rfl ?_
    show Steps p.tables e below (s₁.setTop (mkF m 27 #[.val (.ref a1), .val (.int (12 : Int32)), .val (.long q2), .second] [(.ref a1)])) _
    refine XS.iloadN X0.here hx rfl (hb hby d5_27) rfl ?_
    show Steps p.tables e below (s₁.setTop (mkF m 28 #[.val (.ref a1), .val (.int (12 : Int32)), .val (.long q2), .second] [(.int (12 : Int32)), (.ref a1)])) _
    refine XS.iconst X0.here hx rfl (hb hby d5_28) ?_
    show Steps p.tables e below (s₁.setTop (mkF m 29 #[.val (.ref a1), .val (.int (12 : Int32)), .val (.long q2), .second] [(.int (2 : Int32)), (.int (12 : Int32)), (.ref a1)])) _
    refine XS.iadd X0.here hx rfl (hb hby d5_29) rfl ?_
    show Steps p.tables e below (s₁.setTop (mkF m 30 #[.val (.ref a1), .val (.int (12 : Int32)), .val (.long q2), .second] [(.int (14 : Int32)), (.ref a1)])) _
    refine X0.baloadBytes hx (j := (14 : Int32)) (v := (.int w5)) (by rw [e0]; exact Ar39.1) (State.isArrayOf_alike hZ.alike Ar39.2.1) Ar39.2.2 hin39 hat39 (g := (mkF m 30 #[.val (.ref a1), .val (.int (12 : Int32)), .val (.long q2), .second] [(.int (14 : Int32)), (.ref a1)])) rfl rfl (hb hby d5_30) _ ?_
    show Steps p.tables e below (s₁.setTop (mkF m 31 #[.val (.ref a1), .val (.int (12 : Int32)), .val (.long q2), .second] [(.int w5)])) _
    refine XS.lloadN X0.here hx rfl (hb hby d5_31) rfl ?_
    show Steps p.tables e below (s₁.setTop (mkF m 32 #[.val (.ref a1), .val (.int (12 : Int32)), .val (.long q2), .second] [(.long q2), (.int w5)])) _
    refine XS.bipush X0.here hx rfl (hb hby d5_32) ?_
    show Steps p.tables e below (s₁.setTop (mkF m 34 #[.val (.ref a1), .val (.int (12 : Int32)), .val (.long q2), .second] [(.int (40 : Int32)), (.long q2), (.int w5)])) _
    refine XS.lushr X0.here hx rfl (hb hby d5_34) rfl ?_
    show Steps p.tables e below (s₁.setTop (mkF m 35 #[.val (.ref a1), .val (.int (12 : Int32)), .val (.long q2), .second] [(.long ((q2.toUInt64 >>> ((40 : Int32) &&& 0x3f).toInt64.toUInt64).toInt64)), (.int w5)])) _
    refine XS.l2i X0.here hx rfl (hb hby d5_35) rfl ?_
    show Steps p.tables e below (s₁.setTop (mkF m 36 #[.val (.ref a1), .val (.int (12 : Int32)), .val (.long q2), .second] [(.int (((q2.toUInt64 >>> ((40 : Int32) &&& 0x3f).toInt64.toUInt64).toInt64).toInt32)), (.int w5)])) _
    refine XS.i2b X0.here hx rfl (hb hby d5_36) rfl ?_
    show Steps p.tables e below (s₁.setTop (mkF m 37 #[.val (.ref a1), .val (.int (12 : Int32)), .val (.long q2), .second] [(.int ((((q2.toUInt64 >>> ((40 : Int32) &&& 0x3f).toInt64.toUInt64).toInt64).toInt32).toInt8.toInt32)), (.int w5)])) _
    refine XS.icmpNo X0.here hx rfl (hb hby d5_37) rfl (teq P40).2 ?_
    show Steps p.tables e below (s₁.setTop (mkF m 40 #[.val (.ref a1), .val (.int (12 : Int32)), .val (.long q2), .second] [])) _
    refine XS.aloadN X0.here hx rfl (hb hby d5_40) rfl rfl ?_
    show Steps p.tables e below (s₁.setTop (mkF m 41 #[.val (.ref a1), .val (.int (12 : Int32)), .val (.long q2), .second] [(.ref a1)])) _
    refine XS.iloadN X0.here hx rfl (hb hby d5_41) rfl ?_
    show Steps p.tables e below (s₁.setTop (mkF m 42 #[.val (.ref a1), .val (.int (12 : Int32)), .val (.long q2), .second] [(.int (12 : Int32)), (.ref a1)])) _
    refine XS.iconst X0.here hx rfl (hb hby d5_42) ?_
    show Steps p.tables e below (s₁.setTop (mkF m 43 #[.val (.ref a1), .val (.int (12 : Int32)), .val (.long q2), .second] [(.int (3 : Int32)), (.int (12 : Int32)), (.ref a1)])) _
    refine XS.iadd X0.here hx rfl (hb hby d5_43) rfl ?_
    show Steps p.tables e below (s₁.setTop (mkF m 44 #[.val (.ref a1), .val (.int (12 : Int32)), .val (.long q2), .second] [(.int (15 : Int32)), (.ref a1)])) _
    refine X0.baloadBytes hx (j := (15 : Int32)) (v := (.int w6)) (by rw [e0]; exact Ar41.1) (State.isArrayOf_alike hZ.alike Ar41.2.1) Ar41.2.2 hin41 hat41 (g := (mkF m 44 #[.val (.ref a1), .val (.int (12 : Int32)), .val (.long q2), .second] [(.int (15 : Int32)), (.ref a1)])) rfl rfl (hb hby d5_44) _ ?_
    show Steps p.tables e below (s₁.setTop (mkF m 45 #[.val (.ref a1), .val (.int (12 : Int32)), .val (.long q2), .second] [(.int w6)])) _
    refine XS.lloadN X0.here hx rfl (hb hby d5_45) rfl ?_
    show Steps p.tables e below (s₁.setTop (mkF m 46 #[.val (.ref a1), .val (.int (12 : Int32)), .val (.long q2), .second] [(.long q2), (.int w6)])) _
    refine XS.bipush X0.here hx rfl (hb hby d5_46) ?_
    show Steps p.tables e below (s₁.setTop (mkF m 48 #[.val (.ref a1), .val (.int (12 : Int32)), .val (.long q2), .second] [(.int (32 : Int32)), (.long q2), (.int w6)])) _
    refine XS.lushr X0.here hx rfl (hb hby d5_48) rfl ?_
    show Steps p.tables e below (s₁.setTop (mkF m 49 #[.val (.ref a1), .val (.int (12 : Int32)), .val (.long q2), .second] [(.long ((q2.toUInt64 >>> ((32 : Int32) &&& 0x3f).toInt64.toUInt64).toInt64)), (.int w6)])) _
    refine XS.l2i X0.here hx rfl (hb hby d5_49) rfl ?_
    show Steps p.tables e below (s₁.setTop (mkF m 50 #[.val (.ref a1), .val (.int (12 : Int32)), .val (.long q2), .second] [(.int (((q2.toUInt64 >>> ((32 : Int32) &&& 0x3f).toInt64.toUInt64).toInt64).toInt32)), (.int w6)])) _
    refine XS.i2b X0.here hx rfl (hb hby d5_50) rfl ?_
    show Steps p.tables e below (s₁.setTop (mkF m 51 #[.val (.ref a1), .val (.int (12 : Int32)), .val (.long q2), .second] [(.int ((((q2.toUInt64 >>> ((32 : Int32) &&& 0x3f).toInt64.toUInt64).toInt64).toInt32).toInt8.toInt32)), (.int w6)])) _
    refine XS.icmpNo X0.here hx rfl (hb hby d5_51) rfl (teq P42).2 ?_
    show Steps p.tables e below (s₁.setTop (mkF m 54 #[.val (.ref a1), .val (.int (12 : Int32)), .val (.long q2), .second] [])) _
    refine XS.aloadN X0.here hx rfl (hb hby d5_54) rfl rfl ?_
    show Steps p.tables e below (s₁.setTop (mkF m 55 #[.val (.ref a1), .val (.int (12 : Int32)), .val (.long q2), .second] [(.ref a1)])) _
    refine XS.iloadN X0.here hx rfl (hb hby d5_55) rfl ?_
    show Steps p.tables e below (s₁.setTop (mkF m 56 #[.val (.ref a1), .val (.int (12 : Int32)), .val (.long q2), .second] [(.int (12 : Int32)), (.ref a1)])) _
    refine XS.iconst X0.here hx rfl (hb hby d5_56) ?_
    show Steps p.tables e below (s₁.setTop (mkF m 57 #[.val (.ref a1), .val (.int (12 : Int32)), .val (.long q2), .second] [(.int (4 : Int32)), (.int (12 : Int32)), (.ref a1)])) _
    refine XS.iadd X0.here hx rfl (hb hby d5_57) rfl ?_
    show Steps p.tables e below (s₁.setTop (mkF m 58 #[.val (.ref a1), .val (.int (12 : Int32)), .val (.long q2), .second] [(.int (16 : Int32)), (.ref a1)])) _
    refine X0.baloadBytes hx (j := (16 : Int32)) (v := (.int w7)) (by rw [e0]; exact Ar43.1) (State.isArrayOf_alike hZ.alike Ar43.2.1) Ar43.2.2 hin43 hat43 (g := (mkF m 58 #[.val (.ref a1), .val (.int (12 : Int32)), .val (.long q2), .second] [(.int (16 : Int32)), (.ref a1)])) rfl rfl (hb hby d5_58) _ ?_
    show Steps p.tables e below (s₁.setTop (mkF m 59 #[.val (.ref a1), .val (.int (12 : Int32)), .val (.long q2), .second] [(.int w7)])) _
    refine XS.lloadN X0.here hx rfl (hb hby d5_59) rfl ?_
    show Steps p.tables e below (s₁.setTop (mkF m 60 #[.val (.ref a1), .val (.int (12 : Int32)), .val (.long q2), .second] [(.long q2), (.int w7)])) _
    refine XS.bipush X0.here hx rfl (hb hby d5_60) ?_
    show Steps p.tables e below (s₁.setTop (mkF m 62 #[.val (.ref a1), .val (.int (12 : Int32)), .val (.long q2), .second] [(.int (24 : Int32)), (.long q2), (.int w7)])) _
    refine XS.lushr X0.here hx rfl (hb hby d5_62) rfl ?_
    show Steps p.tables e below (s₁.setTop (mkF m 63 #[.val (.ref a1), .val (.int (12 : Int32)), .val (.long q2), .second] [(.long ((q2.toUInt64 >>> ((24 : Int32) &&& 0x3f).toInt64.toUInt64).toInt64)), (.int w7)])) _
    refine XS.l2i X0.here hx rfl (hb hby d5_63) rfl ?_
    show Steps p.tables e below (s₁.setTop (mkF m 64 #[.val (.ref a1), .val (.int (12 : Int32)), .val (.long q2), .second] [(.int (((q2.toUInt64 >>> ((24 : Int32) &&& 0x3f).toInt64.toUInt64).toInt64).toInt32)), (.int w7)])) _
    refine XS.i2b X0.here hx rfl (hb hby d5_64) rfl ?_
    show Steps p.tables e below (s₁.setTop (mkF m 65 #[.val (.ref a1), .val (.int (12 : Int32)), .val (.long q2), .second] [(.int ((((q2.toUInt64 >>> ((24 : Int32) &&& 0x3f).toInt64.toUInt64).toInt64).toInt32).toInt8.toInt32)), (.int w7)])) _
    refine XS.icmpNo X0.here hx rfl (hb hby d5_65) rfl (teq P44).2 ?_
    show Steps p.tables e below (s₁.setTop (mkF m 68 #[.val (.ref a1), .val (.int (12 : Int32)), .val (.long q2), .second] [])) _
    refine XS.aloadN X0.here hx rfl (hb hby d5_68) rfl rfl ?_
    show Steps p.tables e below (s₁.setTop (mkF m 69 #[.val (.ref a1), .val (.int (12 : Int32)), .val (.long q2), .second] [(.ref a1)])) _
    refine XS.iloadN X0.here hx rfl (hb hby d5_69) rfl ?_
    show Steps p.tables e below (s₁.setTop (mkF m 70 #[.val (.ref a1), .val (.int (12 : Int32)), .val (.long q2), .second] [(.int (12 : Int32)), (.ref a1)])) _
    refine XS.iconst X0.here hx rfl (hb hby d5_70) ?_
    show Steps p.tables e below (s₁.setTop (mkF m 71 #[.val (.ref a1), .val (.int (12 : Int32)), .val (.long q2), .second] [(.int (5 : Int32)), (.int (12 : Int32)), (.ref a1)])) _
    refine XS.iadd X0.here hx rfl (hb hby d5_71) rfl ?_
    show Steps p.tables e below (s₁.setTop (mkF m 72 #[.val (.ref a1), .val (.int (12 : Int32)), .val (.long q2), .second] [(.int (17 : Int32)), (.ref a1)])) _
    refine X0.baloadBytes hx (j := (17 : Int32)) (v := (.int w8)) (by rw [e0]; exact Ar45.1) (State.isArrayOf_alike hZ.alike Ar45.2.1) Ar45.2.2 hin45 hat45 (g := (mkF m 72 #[.val (.ref a1), .val (.int (12 : Int32)), .val (.long q2), .second] [(.int (17 : Int32)), (.ref a1)])) rfl rfl (hb hby d5_72) _ ?_
    show Steps p.tables e below (s₁.setTop (mkF m 73 #[.val (.ref a1), .val (.int (12 : Int32)), .val (.long q2), .second] [(.int w8)])) _
    refine XS.lloadN X0.here hx rfl (hb hby d5_73) rfl ?_
    show Steps p.tables e below (s₁.setTop (mkF m 74 #[.val (.ref a1), .val (.int (12 : Int32)), .val (.long q2), .second] [(.long q2), (.int w8)])) _
    refine XS.bipush X0.here hx rfl (hb hby d5_74) ?_
    show Steps p.tables e below (s₁.setTop (mkF m 76 #[.val (.ref a1), .val (.int (12 : Int32)), .val (.long q2), .second] [(.int (16 : Int32)), (.long q2), (.int w8)])) _
    refine XS.lushr X0.here hx rfl (hb hby d5_76) rfl ?_
    show Steps p.tables e below (s₁.setTop (mkF m 77 #[.val (.ref a1), .val (.int (12 : Int32)), .val (.long q2), .second] [(.long ((q2.toUInt64 >>> ((16 : Int32) &&& 0x3f).toInt64.toUInt64).toInt64)), (.int w8)])) _
    refine XS.l2i X0.here hx rfl (hb hby d5_77) rfl ?_
    show Steps p.tables e below (s₁.setTop (mkF m 78 #[.val (.ref a1), .val (.int (12 : Int32)), .val (.long q2), .second] [(.int (((q2.toUInt64 >>> ((16 : Int32) &&& 0x3f).toInt64.toUInt64).toInt64).toInt32)), (.int w8)])) _
    refine XS.i2b X0.here hx rfl (hb hby d5_78) rfl ?_
    show Steps p.tables e below (s₁.setTop (mkF m 79 #[.val (.ref a1), .val (.int (12 : Int32)), .val (.long q2), .second] [(.int ((((q2.toUInt64 >>> ((16 : Int32) &&& 0x3f).toInt64.toUInt64).toInt64).toInt32).toInt8.toInt32)), (.int w8)])) _
    refine XS.icmpNo X0.here hx rfl (hb hby d5_79) rfl (teq P46).2 ?_
    show Steps p.tables e below (s₁.setTop (mkF m 82 #[.val (.ref a1), .val (.int (12 : Int32)), .val (.long q2), .second] [])) _
    refine XS.aloadN X0.here hx rfl (hb hby d5_82) rfl rfl ?_
    show Steps p.tables e below (s₁.setTop (mkF m 83 #[.val (.ref a1), .val (.int (12 : Int32)), .val (.long q2), .second] [(.ref a1)])) _
    refine XS.iloadN X0.here hx rfl (hb hby d5_83) rfl ?_
    show Steps p.tables e below (s₁.setTop (mkF m 84 #[.val (.ref a1), .val (.int (12 : Int32)), .val (.long q2), .second] [(.int (12 : Int32)), (.ref a1)])) _
    refine XS.bipush X0.here hx rfl (hb hby d5_84) ?_
    show Steps p.tables e below (s₁.setTop (mkF m 86 #[.val (.ref a1), .val (.int (12 : Int32)), .val (.long q2), .second] [(.int (6 : Int32)), (.int (12 : Int32)), (.ref a1)])) _
    refine XS.iadd X0.here hx rfl (hb hby d5_86) rfl ?_
    show Steps p.tables e below (s₁.setTop (mkF m 87 #[.val (.ref a1), .val (.int (12 : Int32)), .val (.long q2), .second] [(.int (18 : Int32)), (.ref a1)])) _
    refine X0.baloadBytes hx (j := (18 : Int32)) (v := (.int w9)) (by rw [e0]; exact Ar47.1) (State.isArrayOf_alike hZ.alike Ar47.2.1) Ar47.2.2 hin47 hat47 (g := (mkF m 87 #[.val (.ref a1), .val (.int (12 : Int32)), .val (.long q2), .second] [(.int (18 : Int32)), (.ref a1)])) rfl rfl (hb hby d5_87) _ ?_
    show Steps p.tables e below (s₁.setTop (mkF m 88 #[.val (.ref a1), .val (.int (12 : Int32)), .val (.long q2), .second] [(.int w9)])) _
    refine XS.lloadN X0.here hx rfl (hb hby d5_88) rfl ?_
    show Steps p.tables e below (s₁.setTop (mkF m 89 #[.val (.ref a1), .val (.int (12 : Int32)), .val (.long q2), .second] [(.long q2), (.int w9)])) _
    refine XS.bipush X0.here hx rfl (hb hby d5_89) ?_
    show Steps p.tables e below (s₁.setTop (mkF m 91 #[.val (.ref a1), .val (.int (12 : Int32)), .val (.long q2), .second] [(.int (8 : Int32)), (.long q2), (.int w9)])) _
    refine XS.lushr X0.here hx rfl (hb hby d5_91) rfl ?_
    show Steps p.tables e below (s₁.setTop (mkF m 92 #[.val (.ref a1), .val (.int (12 : Int32)), .val (.long q2), .second] [(.long ((q2.toUInt64 >>> ((8 : Int32) &&& 0x3f).toInt64.toUInt64).toInt64)), (.int w9)])) _
    refine XS.l2i X0.here hx rfl (hb hby d5_92) rfl ?_
    show Steps p.tables e below (s₁.setTop (mkF m 93 #[.val (.ref a1), .val (.int (12 : Int32)), .val (.long q2), .second] [(.int (((q2.toUInt64 >>> ((8 : Int32) &&& 0x3f).toInt64.toUInt64).toInt64).toInt32)), (.int w9)])) _
    refine XS.i2b X0.here hx rfl (hb hby d5_93) rfl ?_
    show Steps p.tables e below (s₁.setTop (mkF m 94 #[.val (.ref a1), .val (.int (12 : Int32)), .val (.long q2), .second] [(.int ((((q2.toUInt64 >>> ((8 : Int32) &&& 0x3f).toInt64.toUInt64).toInt64).toInt32).toInt8.toInt32)), (.int w9)])) _
    refine XS.icmpNo X0.here hx rfl (hb hby d5_94) rfl (teq P48).2 ?_
    show Steps p.tables e below (s₁.setTop (mkF m 97 #[.val (.ref a1), .val (.int (12 : Int32)), .val (.long q2), .second] [])) _
    refine XS.aloadN X0.here hx rfl (hb hby d5_97) rfl rfl ?_
    show Steps p.tables e below (s₁.setTop (mkF m 98 #[.val (.ref a1), .val (.int (12 : Int32)), .val (.long q2), .second] [(.ref a1)])) _
    refine XS.iloadN X0.here hx rfl (hb hby d5_98) rfl ?_
    show Steps p.tables e below (s₁.setTop (mkF m 99 #[.val (.ref a1), .val (.int (12 : Int32)), .val (.long q2), .second] [(.int (12 : Int32)), (.ref a1)])) _
    refine XS.bipush X0.here hx rfl (hb hby d5_99) ?_
    show Steps p.tables e below (s₁.setTop (mkF m 101 #[.val (.ref a1), .val (.int (12 : Int32)), .val (.long q2), .second] [(.int (7 : Int32)), (.int (12 : Int32)), (.ref a1)])) _
    refine XS.iadd X0.here hx rfl (hb hby d5_101) rfl ?_
    show Steps p.tables e below (s₁.setTop (mkF m 102 #[.val (.ref a1), .val (.int (12 : Int32)), .val (.long q2), .second] [(.int (19 : Int32)), (.ref a1)])) _
    refine X0.baloadBytes hx (j := (19 : Int32)) (v := (.int w10)) (by rw [e0]; exact Ar49.1) (State.isArrayOf_alike hZ.alike Ar49.2.1) Ar49.2.2 hin49 hat49 (g := (mkF m 102 #[.val (.ref a1), .val (.int (12 : Int32)), .val (.long q2), .second] [(.int (19 : Int32)), (.ref a1)])) rfl rfl (hb hby d5_102) _ ?_
    show Steps p.tables e below (s₁.setTop (mkF m 103 #[.val (.ref a1), .val (.int (12 : Int32)), .val (.long q2), .second] [(.int w10)])) _
    refine XS.lloadN X0.here hx rfl (hb hby d5_103) rfl ?_
    show Steps p.tables e below (s₁.setTop (mkF m 104 #[.val (.ref a1), .val (.int (12 : Int32)), .val (.long q2), .second] [(.long q2), (.int w10)])) _
    refine XS.l2i X0.here hx rfl (hb hby d5_104) rfl ?_
    show Steps p.tables e below (s₁.setTop (mkF m 105 #[.val (.ref a1), .val (.int (12 : Int32)), .val (.long q2), .second] [(.int (q2.toInt32)), (.int w10)])) _
    refine XS.i2b X0.here hx rfl (hb hby d5_105) rfl ?_
    show Steps p.tables e below (s₁.setTop (mkF m 106 #[.val (.ref a1), .val (.int (12 : Int32)), .val (.long q2), .second] [(.int ((q2.toInt32).toInt8.toInt32)), (.int w10)])) _
    refine XS.icmpNo X0.here hx rfl (hb hby d5_106) rfl (teq P50).2 ?_
    show Steps p.tables e below (s₁.setTop (mkF m 109 #[.val (.ref a1), .val (.int (12 : Int32)), .val (.long q2), .second] [])) _
    refine XS.iconst X0.here hx rfl (hb hby d5_109) ?_
    show Steps p.tables e below (s₁.setTop (mkF m 110 #[.val (.ref a1), .val (.int (12 : Int32)), .val (.long q2), .second] [(.int (1 : Int32))])) _
    refine XS.goto X0.here hx rfl (pc0 := 110) (pc' := 114) rfl (hb hby d5_110) (by decide) (by decide) ?_
    show Steps p.tables e below (s₁.setTop (mkF m 114 #[.val (.ref a1), .val (.int (12 : Int32)), .val (.long q2), .second] [(.int (1 : Int32))])) _
    exact retN X0 hx (t := .boolean) Bd.returns (by simp) (hb hby d5_114) hr
  · show Q5_1 Z a1 q2 k_a1 w3 w4 w5 w6 w7 w8 w9 w10 w11 w12 w13 w14 w15 w16 w17 w18 w19 w20 w21 w22 w23 w24 w25 w26 w27 w28 w29 w30 w31 w32 w33 w34 h0 n0 _ s₁.heap _
    rw [e0]
    exact ⟨rfl, N0, rfl⟩
theorem pd_4 : parseMethodDescriptor "([BIJ)Z" = some ⟨[(.array .byte), .int, .long], some .boolean⟩ := by decide +kernel
def Q5_2 (Z : State) (a1 : Addr) (q2 : Int64) (k_a1 : ClassId) (w3 : Int32) (w4 : Int32) (w5 : Int32) (w6 : Int32) (w7 : Int32) (w8 : Int32) (w9 : Int32) (w10 : Int32) (w11 : Int32) (w12 : Int32) (w13 : Int32) (w14 : Int32) (w15 : Int32) (w16 : Int32) (w17 : Int32) (w18 : Int32) (w19 : Int32) (w20 : Int32) (w21 : Int32) (w22 : Int32) (w23 : Int32) (w24 : Int32) (w25 : Int32) (w26 : Int32) (w27 : Int32) (w28 : Int32) (w29 : Int32) (w30 : Int32) (w31 : Int32) (w32 : Int32) (w33 : Int32) (w34 : Int32) (h0 : Heap) (n0 : Nat) (v : Option Value) (h : Heap) (L : List Loc) : Prop := v = some (.int (1 : Int32)) ∧ Fr n0 L ∧ h = h0
set_option maxRecDepth 65536 in
set_option maxHeartbeats 40000000 in
theorem rm5_2 (l : Launch) (Z : State) (a0 : Array Value) (hw : ∀ d ∈ tables_1, d.before a0 Z = true) (ws : List Jvm.Cond) (a1 : Addr) (q2 : Int64) (k_a1 : ClassId) (w3 : Int32) (w4 : Int32) (w5 : Int32) (w6 : Int32) (w7 : Int32) (w8 : Int32) (w9 : Int32) (w10 : Int32) (w11 : Int32) (w12 : Int32) (w13 : Int32) (w14 : Int32) (w15 : Int32) (w16 : Int32) (w17 : Int32) (w18 : Int32) (w19 : Int32) (w20 : Int32) (w21 : Int32) (w22 : Int32) (w23 : Int32) (w24 : Int32) (w25 : Int32) (w26 : Int32) (w27 : Int32) (w28 : Int32) (w29 : Int32) (w30 : Int32) (w31 : Int32) (w32 : Int32) (w33 : Int32) (w34 : Int32) (h0 : Heap) (n0 : Nat) (Z0 : n0 ≤ h0.size) (V_a1 : Arv Z h0 a1 k_a1 .byte (44 : Int32) [(.int (48 : Int32)), (.int (42 : Int32)), (.int (48 : Int32)), (.int (5 : Int32)), (.int (6 : Int32)), (.int (3 : Int32)), (.int (43 : Int32)), (.int (101 : Int32)), (.int (112 : Int32)), (.int (3 : Int32)), (.int (33 : Int32)), (.int (0 : Int32)), (.int w3), (.int w4), (.int w5), (.int w6), (.int w7), (.int w8), (.int w9), (.int w10), (.int w11), (.int w12), (.int w13), (.int w14), (.int w15), (.int w16), (.int w17), (.int w18), (.int w19), (.int w20), (.int w21), (.int w22), (.int w23), (.int w24), (.int w25), (.int w26), (.int w27), (.int w28), (.int w29), (.int w30), (.int w31), (.int w32), (.int w33), (.int w34)] (.int (0 : Int32))) (P36 : w11 = ((((q2.toUInt64 >>> ((56 : Int32) &&& 0x3f).toInt64.toUInt64).toInt64).toInt32).toInt8.toInt32)) (P38 : w12 = ((((q2.toUInt64 >>> ((48 : Int32) &&& 0x3f).toInt64.toUInt64).toInt64).toInt32).toInt8.toInt32)) (P40 : w13 = ((((q2.toUInt64 >>> ((40 : Int32) &&& 0x3f).toInt64.toUInt64).toInt64).toInt32).toInt8.toInt32)) (P42 : w14 = ((((q2.toUInt64 >>> ((32 : Int32) &&& 0x3f).toInt64.toUInt64).toInt64).toInt32).toInt8.toInt32)) (P44 : w15 = ((((q2.toUInt64 >>> ((24 : Int32) &&& 0x3f).toInt64.toUInt64).toInt64).toInt32).toInt8.toInt32)) (P46 : w16 = ((((q2.toUInt64 >>> ((16 : Int32) &&& 0x3f).toInt64.toUInt64).toInt64).toInt32).toInt8.toInt32)) (P48 : w17 = ((((q2.toUInt64 >>> ((8 : Int32) &&& 0x3f).toInt64.toUInt64).toInt64).toInt32).toInt8.toInt32)) (P50 : w18 = ((q2.toInt32).toInt8.toInt32)) :
    MetFree l (⟨"com/example/lasting_names/lastingnames/Ed25519SubjectPublicKeyInfoPinLaw", "same", "([BIJ)Z"⟩ : MethodName) (head1 (Jvm.Cond.code (⟨"com/example/lasting_names/lastingnames/Ed25519SubjectPublicKeyInfoPinLaw", "same", "([BIJ)Z"⟩ : MethodName) method_3_code 4 (some .boolean) :: ws) ({ frames := 0, cells := 0, slots := 0, locals := 0 } : Room)) (fun a U => a = #[(.ref a1), (.int (20 : Int32)), (.long q2)] ∧ Z.Warmed39 U.vm ∧ U.heap = h0) (fun _ _ _ _ _ => True) (fun _ U o U' => ∃ v L, o = .returned v ∧ Q5_2 Z a1 q2 k_a1 w3 w4 w5 w6 w7 w8 w9 w10 w11 w12 w13 w14 w15 w16 w17 w18 w19 w20 w21 w22 w23 w24 w25 w26 w27 w28 w29 w30 w31 w32 w33 w34 h0 n0 v U'.heap L ∧ FrameEnd U o U' L ({ frames := 0, cells := 0, slots := 0, locals := 0 } : Room).cells ({ frames := 0, cells := 0, slots := 0, locals := 0 } : Room).slots) := by
  refine MetFree.of_bodySF (plainFor_of_name pn_5) hisR ?_
  intro p e s m args below meth c s₁ Bd hml0 hP hK
  obtain ⟨rfl, hZ, hh⟩ := hP
  have hx := Bd.exec
  have hby := Bd.bytes
  have hml : c.maxLocals = 4 := hml0
  have hown : s.vm.findClass "com/example/lasting_names/lastingnames/Ed25519SubjectPublicKeyInfoPinLaw" = some m.cls := findClass_of_methodNamed Bd.named
  have hnm := (name_of_methodNamed Bd.named Bd.method).1
  have X0 : Stand p l e ({ frames := 0, cells := 0, slots := 0, locals := 0 } : Room) s m #[(.ref a1), (.int (20 : Int32)), (.long q2)] below meth c s₁ [] 0 0 := Stand.of_body Bd
  have e0 : s₁.heap = h0 := by rw [← hh, Bd.state]; rfl
  have N0 := Fr.nil n0
  have pre0 : ∀ t, Steps p.tables e below (s₁.setTop (mkF m 0 #[.val (.ref a1), .val (.int (20 : Int32)), .val (.long q2), .second] [])) t → Steps p.tables e below (s₁.setTop (entryFrame m #[(.ref a1), (.int (20 : Int32)), (.long q2)] 4)) t := fun t k => castTop (ef_5_RIJ m a1 (20 : Int32) q2) k
  obtain ⟨cl35, Ar35, q35, S35, N_35, H35, G35⟩ := id V_a1
  have hin35 : ¬ ((20 : Int32) < 0 ∨ cl35.slots.size ≤ ((20 : Int32)).toNatClampNeg) := inb_of S35 ⟨by decide, (by decide : (20 : Int32) < (44 : Int32))⟩
  have hat35 : cl35.slots[((20 : Int32)).toNatClampNeg]? = some (.int w11) := Has.at H35 hin35 rfl
  obtain ⟨cl37, Ar37, q37, S37, N_37, H37, G37⟩ := id V_a1
  have hin37 : ¬ ((21 : Int32) < 0 ∨ cl37.slots.size ≤ ((21 : Int32)).toNatClampNeg) := inb_of S37 ⟨by decide, (by decide : (21 : Int32) < (44 : Int32))⟩
  have hat37 : cl37.slots[((21 : Int32)).toNatClampNeg]? = some (.int w12) := Has.at H37 hin37 rfl
  obtain ⟨cl39, Ar39, q39, S39, N_39, H39, G39⟩ := id V_a1
  have hin39 : ¬ ((22 : Int32) < 0 ∨ cl39.slots.size ≤ ((22 : Int32)).toNatClampNeg) := inb_of S39 ⟨by decide, (by decide : (22 : Int32) < (44 : Int32))⟩
  have hat39 : cl39.slots[((22 : Int32)).toNatClampNeg]? = some (.int w13) := Has.at H39 hin39 rfl
  obtain ⟨cl41, Ar41, q41, S41, N_41, H41, G41⟩ := id V_a1
  have hin41 : ¬ ((23 : Int32) < 0 ∨ cl41.slots.size ≤ ((23 : Int32)).toNatClampNeg) := inb_of S41 ⟨by decide, (by decide : (23 : Int32) < (44 : Int32))⟩
  have hat41 : cl41.slots[((23 : Int32)).toNatClampNeg]? = some (.int w14) := Has.at H41 hin41 rfl
  obtain ⟨cl43, Ar43, q43, S43, N_43, H43, G43⟩ := id V_a1
  have hin43 : ¬ ((24 : Int32) < 0 ∨ cl43.slots.size ≤ ((24 : Int32)).toNatClampNeg) := inb_of S43 ⟨by decide, (by decide : (24 : Int32) < (44 : Int32))⟩
  have hat43 : cl43.slots[((24 : Int32)).toNatClampNeg]? = some (.int w15) := Has.at H43 hin43 rfl
  obtain ⟨cl45, Ar45, q45, S45, N_45, H45, G45⟩ := id V_a1
  have hin45 : ¬ ((25 : Int32) < 0 ∨ cl45.slots.size ≤ ((25 : Int32)).toNatClampNeg) := inb_of S45 ⟨by decide, (by decide : (25 : Int32) < (44 : Int32))⟩
  have hat45 : cl45.slots[((25 : Int32)).toNatClampNeg]? = some (.int w16) := Has.at H45 hin45 rfl
  obtain ⟨cl47, Ar47, q47, S47, N_47, H47, G47⟩ := id V_a1
  have hin47 : ¬ ((26 : Int32) < 0 ∨ cl47.slots.size ≤ ((26 : Int32)).toNatClampNeg) := inb_of S47 ⟨by decide, (by decide : (26 : Int32) < (44 : Int32))⟩
  have hat47 : cl47.slots[((26 : Int32)).toNatClampNeg]? = some (.int w17) := Has.at H47 hin47 rfl
  obtain ⟨cl49, Ar49, q49, S49, N_49, H49, G49⟩ := id V_a1
  have hin49 : ¬ ((27 : Int32) < 0 ∨ cl49.slots.size ≤ ((27 : Int32)).toNatClampNeg) := inb_of S49 ⟨by decide, (by decide : (27 : Int32) < (44 : Int32))⟩
  have hat49 : cl49.slots[((27 : Int32)).toNatClampNeg]? = some (.int w18) := Has.at H49 hin49 rfl
  obtain ⟨fs, hr, hrun, hended, hW, hsame⟩ := X0.leave (v := some (.int (1 : Int32))) (fun h => by rw [Bd.returns] at h; cases h)
  refine ⟨_, _, pre0 _ ?_, hrun, hended, _, _, rfl, ?_, ⟨_, rfl⟩, hW, hsame.mono (by decide) (by decide)⟩
  · show Steps p.tables e below (s₁.setTop (mkF m 0 #[.val (.ref a1), .val (.int (20 : Int32)), .val (.long q2), .second] [])) _
    refine XS.aloadN X0.here hx rfl (hb hby d5_0) rfl rfl ?_
    show Steps p.tables e below (s₁.setTop (mkF m 1 #[.val (.ref a1), .val (.int (20 : Int32)), .val (.long q2), .second] [(.ref a1)])) _
    refine XS.iloadN X0.here hx rfl (hb hby d5_1) rfl ?_
    show Steps p.tables e below (s₁.setTop (mkF m 2 #[.val (.ref a1), .val (.int (20 : Int32)), .val (.long q2), .second] [(.int (20 : Int32)), (.ref a1)])) _
    refine X0.baloadBytes hx (j := (20 : Int32)) (v := (.int w11)) (by rw [e0]; exact Ar35.1) (State.isArrayOf_alike hZ.alike Ar35.2.1) Ar35.2.2 hin35 hat35 (g := (mkF m 2 #[.val (.ref a1), .val (.int (20 : Int32)), .val (.long q2), .second] [(.int (20 : Int32)), (.ref a1)])) rfl rfl (hb hby d5_2) _ ?_
    show Steps p.tables e below (s₁.setTop (mkF m 3 #[.val (.ref a1), .val (.int (20 : Int32)), .val (.long q2), .second] [(.int w11)])) _
    refine XS.lloadN X0.here hx rfl (hb hby d5_3) rfl ?_
    show Steps p.tables e below (s₁.setTop (mkF m 4 #[.val (.ref a1), .val (.int (20 : Int32)), .val (.long q2), .second] [(.long q2), (.int w11)])) _
    refine XS.bipush X0.here hx rfl (hb hby d5_4) ?_
    show Steps p.tables e below (s₁.setTop (mkF m 6 #[.val (.ref a1), .val (.int (20 : Int32)), .val (.long q2), .second] [(.int (56 : Int32)), (.long q2), (.int w11)])) _
    refine XS.lushr X0.here hx rfl (hb hby d5_6) rfl ?_
    show Steps p.tables e below (s₁.setTop (mkF m 7 #[.val (.ref a1), .val (.int (20 : Int32)), .val (.long q2), .second] [(.long ((q2.toUInt64 >>> ((56 : Int32) &&& 0x3f).toInt64.toUInt64).toInt64)), (.int w11)])) _
    refine XS.l2i X0.here hx rfl (hb hby d5_7) rfl ?_
    show Steps p.tables e below (s₁.setTop (mkF m 8 #[.val (.ref a1), .val (.int (20 : Int32)), .val (.long q2), .second] [(.int (((q2.toUInt64 >>> ((56 : Int32) &&& 0x3f).toInt64.toUInt64).toInt64).toInt32)), (.int w11)])) _
    refine XS.i2b X0.here hx rfl (hb hby d5_8) rfl ?_
    show Steps p.tables e below (s₁.setTop (mkF m 9 #[.val (.ref a1), .val (.int (20 : Int32)), .val (.long q2), .second] [(.int ((((q2.toUInt64 >>> ((56 : Int32) &&& 0x3f).toInt64.toUInt64).toInt64).toInt32).toInt8.toInt32)), (.int w11)])) _
    refine XS.icmpNo X0.here hx rfl (hb hby d5_9) rfl (teq P36).2 ?_
    show Steps p.tables e below (s₁.setTop (mkF m 12 #[.val (.ref a1), .val (.int (20 : Int32)), .val (.long q2), .second] [])) _
    refine XS.aloadN X0.here hx rfl (hb hby d5_12) rfl rfl ?_
    show Steps p.tables e below (s₁.setTop (mkF m 13 #[.val (.ref a1), .val (.int (20 : Int32)), .val (.long q2), .second] [(.ref a1)])) _
    refine XS.iloadN X0.here hx rfl (hb hby d5_13) rfl ?_
    show Steps p.tables e below (s₁.setTop (mkF m 14 #[.val (.ref a1), .val (.int (20 : Int32)), .val (.long q2), .second] [(.int (20 : Int32)), (.ref a1)])) _
    refine XS.iconst X0.here hx rfl (hb hby d5_14) ?_
    show Steps p.tables e below (s₁.setTop (mkF m 15 #[.val (.ref a1), .val (.int (20 : Int32)), .val (.long q2), .second] [(.int (1 : Int32)), (.int (20 : Int32)), (.ref a1)])) _
    refine XS.iadd X0.here hx rfl (hb hby d5_15) rfl ?_
    show Steps p.tables e below (s₁.setTop (mkF m 16 #[.val (.ref a1), .val (.int (20 : Int32)), .val (.long q2), .second] [(.int (21 : Int32)), (.ref a1)])) _
    refine X0.baloadBytes hx (j := (21 : Int32)) (v := (.int w12)) (by rw [e0]; exact Ar37.1) (State.isArrayOf_alike hZ.alike Ar37.2.1) Ar37.2.2 hin37 hat37 (g := (mkF m 16 #[.val (.ref a1), .val (.int (20 : Int32)), .val (.long q2), .second] [(.int (21 : Int32)), (.ref a1)])) rfl rfl (hb hby d5_16) _ ?_
    show Steps p.tables e below (s₁.setTop (mkF m 17 #[.val (.ref a1), .val (.int (20 : Int32)), .val (.long q2), .second] [(.int w12)])) _
    refine XS.lloadN X0.here hx rfl (hb hby d5_17) rfl ?_
    show Steps p.tables e below (s₁.setTop (mkF m 18 #[.val (.ref a1), .val (.int (20 : Int32)), .val (.long q2), .second] [(.long q2), (.int w12)])) _
    refine XS.bipush X0.here hx rfl (hb hby d5_18) ?_
    show Steps p.tables e below (s₁.setTop (mkF m 20 #[.val (.ref a1), .val (.int (20 : Int32)), .val (.long q2), .second] [(.int (48 : Int32)), (.long q2), (.int w12)])) _
    refine XS.lushr X0.here hx rfl (hb hby d5_20) rfl ?_
    show Steps p.tables e below (s₁.setTop (mkF m 21 #[.val (.ref a1), .val (.int (20 : Int32)), .val (.long q2), .second] [(.long ((q2.toUInt64 >>> ((48 : Int32) &&& 0x3f).toInt64.toUInt64).toInt64)), (.int w12)])) _
    refine XS.l2i X0.here hx rfl (hb hby d5_21) rfl ?_
    show Steps p.tables e below (s₁.setTop (mkF m 22 #[.val (.ref a1), .val (.int (20 : Int32)), .val (.long q2), .second] [(.int (((q2.toUInt64 >>> ((48 : Int32) &&& 0x3f).toInt64.toUInt64).toInt64).toInt32)), (.int w12)])) _
    refine XS.i2b X0.here hx rfl (hb hby d5_22) rfl ?_
    show Steps p.tables e below (s₁.setTop (mkF m 23 #[.val (.ref a1), .val (.int (20 : Int32)), .val (.long q2), .second] [(.int ((((q2.toUInt64 >>> ((48 : Int32) &&& 0x3f).toInt64.toUInt64).toInt64).toInt32).toInt8.toInt32)), (.int w12)])) _
    refine XS.icmpNo X0.here hx rfl (hb hby d5_23) rfl (teq P38).2 ?_
    show Steps p.tables e below (s₁.setTop (mkF m 26 #[.val (.ref a1), .val (.int (20 : Int32)), .val (.long q2), .second] [])) _
    refine XS.aloadN X0.here hx rfl (hb hby d5_26) rfl rfl ?_
    show Steps p.tables e below (s₁.setTop (mkF m 27 #[.val (.ref a1), .val (.int (20 : Int32)), .val (.long q2), .second] [(.ref a1)])) _
    refine XS.iloadN X0.here hx rfl (hb hby d5_27) rfl ?_
    show Steps p.tables e below (s₁.setTop (mkF m 28 #[.val (.ref a1), .val (.int (20 : Int32)), .val (.long q2), .second] [(.int (20 : Int32)), (.ref a1)])) _
    refine XS.iconst X0.here hx rfl (hb hby d5_28) ?_
    show Steps p.tables e below (s₁.setTop (mkF m 29 #[.val (.ref a1), .val (.int (20 : Int32)), .val (.long q2), .second] [(.int (2 : Int32)), (.int (20 : Int32)), (.ref a1)])) _
    refine XS.iadd X0.here hx rfl (hb hby d5_29) rfl ?_
    show Steps p.tables e below (s₁.setTop (mkF m 30 #[.val (.ref a1), .val (.int (20 : Int32)), .val (.long q2), .second] [(.int (22 : Int32)), (.ref a1)])) _
    refine X0.baloadBytes hx (j := (22 : Int32)) (v := (.int w13)) (by rw [e0]; exact Ar39.1) (State.isArrayOf_alike hZ.alike Ar39.2.1) Ar39.2.2 hin39 hat39 (g := (mkF m 30 #[.val (.ref a1), .val (.int (20 : Int32)), .val (.long q2), .second] [(.int (22 : Int32)), (.ref a1)])) rfl rfl (hb hby d5_30) _ ?_
    show Steps p.tables e below (s₁.setTop (mkF m 31 #[.val (.ref a1), .val (.int (20 : Int32)), .val (.long q2), .second] [(.int w13)])) _
    refine XS.lloadN X0.here hx rfl (hb hby d5_31) rfl ?_
    show Steps p.tables e below (s₁.setTop (mkF m 32 #[.val (.ref a1), .val (.int (20 : Int32)), .val (.long q2), .second] [(.long q2), (.int w13)])) _
    refine XS.bipush X0.here hx rfl (hb hby d5_32) ?_
    show Steps p.tables e below (s₁.setTop (mkF m 34 #[.val (.ref a1), .val (.int (20 : Int32)), .val (.long q2), .second] [(.int (40 : Int32)), (.long q2), (.int w13)])) _
    refine XS.lushr X0.here hx rfl (hb hby d5_34) rfl ?_
    show Steps p.tables e below (s₁.setTop (mkF m 35 #[.val (.ref a1), .val (.int (20 : Int32)), .val (.long q2), .second] [(.long ((q2.toUInt64 >>> ((40 : Int32) &&& 0x3f).toInt64.toUInt64).toInt64)), (.int w13)])) _
    refine XS.l2i X0.here hx rfl (hb hby d5_35) rfl ?_
    show Steps p.tables e below (s₁.setTop (mkF m 36 #[.val (.ref a1), .val (.int (20 : Int32)), .val (.long q2), .second] [(.int (((q2.toUInt64 >>> ((40 : Int32) &&& 0x3f).toInt64.toUInt64).toInt64).toInt32)), (.int w13)])) _
    refine XS.i2b X0.here hx rfl (hb hby d5_36) rfl ?_
    show Steps p.tables e below (s₁.setTop (mkF m 37 #[.val (.ref a1), .val (.int (20 : Int32)), .val (.long q2), .second] [(.int ((((q2.toUInt64 >>> ((40 : Int32) &&& 0x3f).toInt64.toUInt64).toInt64).toInt32).toInt8.toInt32)), (.int w13)])) _
    refine XS.icmpNo X0.here hx rfl (hb hby d5_37) rfl (teq P40).2 ?_
    show Steps p.tables e below (s₁.setTop (mkF m 40 #[.val (.ref a1), .val (.int (20 : Int32)), .val (.long q2), .second] [])) _
    refine XS.aloadN X0.here hx rfl (hb hby d5_40) rfl rfl ?_
    show Steps p.tables e below (s₁.setTop (mkF m 41 #[.val (.ref a1), .val (.int (20 : Int32)), .val (.long q2), .second] [(.ref a1)])) _
    refine XS.iloadN X0.here hx rfl (hb hby d5_41) rfl ?_
    show Steps p.tables e below (s₁.setTop (mkF m 42 #[.val (.ref a1), .val (.int (20 : Int32)), .val (.long q2), .second] [(.int (20 : Int32)), (.ref a1)])) _
    refine XS.iconst X0.here hx rfl (hb hby d5_42) ?_
    show Steps p.tables e below (s₁.setTop (mkF m 43 #[.val (.ref a1), .val (.int (20 : Int32)), .val (.long q2), .second] [(.int (3 : Int32)), (.int (20 : Int32)), (.ref a1)])) _
    refine XS.iadd X0.here hx rfl (hb hby d5_43) rfl ?_
    show Steps p.tables e below (s₁.setTop (mkF m 44 #[.val (.ref a1), .val (.int (20 : Int32)), .val (.long q2), .second] [(.int (23 : Int32)), (.ref a1)])) _
    refine X0.baloadBytes hx (j := (23 : Int32)) (v := (.int w14)) (by rw [e0]; exact Ar41.1) (State.isArrayOf_alike hZ.alike Ar41.2.1) Ar41.2.2 hin41 hat41 (g := (mkF m 44 #[.val (.ref a1), .val (.int (20 : Int32)), .val (.long q2), .second] [(.int (23 : Int32)), (.ref a1)])) rfl rfl (hb hby d5_44) _ ?_
    show Steps p.tables e below (s₁.setTop (mkF m 45 #[.val (.ref a1), .val (.int (20 : Int32)), .val (.long q2), .second] [(.int w14)])) _
    refine XS.lloadN X0.here hx rfl (hb hby d5_45) rfl ?_
    show Steps p.tables e below (s₁.setTop (mkF m 46 #[.val (.ref a1), .val (.int (20 : Int32)), .val (.long q2), .second] [(.long q2), (.int w14)])) _
    refine XS.bipush X0.here hx rfl (hb hby d5_46) ?_
    show Steps p.tables e below (s₁.setTop (mkF m 48 #[.val (.ref a1), .val (.int (20 : Int32)), .val (.long q2), .second] [(.int (32 : Int32)), (.long q2), (.int w14)])) _
    refine XS.lushr X0.here hx rfl (hb hby d5_48) rfl ?_
    show Steps p.tables e below (s₁.setTop (mkF m 49 #[.val (.ref a1), .val (.int (20 : Int32)), .val (.long q2), .second] [(.long ((q2.toUInt64 >>> ((32 : Int32) &&& 0x3f).toInt64.toUInt64).toInt64)), (.int w14)])) _
    refine XS.l2i X0.here hx rfl (hb hby d5_49) rfl ?_
    show Steps p.tables e below (s₁.setTop (mkF m 50 #[.val (.ref a1), .val (.int (20 : Int32)), .val (.long q2), .second] [(.int (((q2.toUInt64 >>> ((32 : Int32) &&& 0x3f).toInt64.toUInt64).toInt64).toInt32)), (.int w14)])) _
    refine XS.i2b X0.here hx rfl (hb hby d5_50) rfl ?_
    show Steps p.tables e below (s₁.setTop (mkF m 51 #[.val (.ref a1), .val (.int (20 : Int32)), .val (.long q2), .second] [(.int ((((q2.toUInt64 >>> ((32 : Int32) &&& 0x3f).toInt64.toUInt64).toInt64).toInt32).toInt8.toInt32)), (.int w14)])) _
    refine XS.icmpNo X0.here hx rfl (hb hby d5_51) rfl (teq P42).2 ?_
    show Steps p.tables e below (s₁.setTop (mkF m 54 #[.val (.ref a1), .val (.int (20 : Int32)), .val (.long q2), .second] [])) _
    refine XS.aloadN X0.here hx rfl (hb hby d5_54) rfl rfl ?_
    show Steps p.tables e below (s₁.setTop (mkF m 55 #[.val (.ref a1), .val (.int (20 : Int32)), .val (.long q2), .second] [(.ref a1)])) _
    refine XS.iloadN X0.here hx rfl (hb hby d5_55) rfl ?_
    show Steps p.tables e below (s₁.setTop (mkF m 56 #[.val (.ref a1), .val (.int (20 : Int32)), .val (.long q2), .second] [(.int (20 : Int32)), (.ref a1)])) _
    refine XS.iconst X0.here hx rfl (hb hby d5_56) ?_
    show Steps p.tables e below (s₁.setTop (mkF m 57 #[.val (.ref a1), .val (.int (20 : Int32)), .val (.long q2), .second] [(.int (4 : Int32)), (.int (20 : Int32)), (.ref a1)])) _
    refine XS.iadd X0.here hx rfl (hb hby d5_57) rfl ?_
    show Steps p.tables e below (s₁.setTop (mkF m 58 #[.val (.ref a1), .val (.int (20 : Int32)), .val (.long q2), .second] [(.int (24 : Int32)), (.ref a1)])) _
    refine X0.baloadBytes hx (j := (24 : Int32)) (v := (.int w15)) (by rw [e0]; exact Ar43.1) (State.isArrayOf_alike hZ.alike Ar43.2.1) Ar43.2.2 hin43 hat43 (g := (mkF m 58 #[.val (.ref a1), .val (.int (20 : Int32)), .val (.long q2), .second] [(.int (24 : Int32)), (.ref a1)])) rfl rfl (hb hby d5_58) _ ?_
    show Steps p.tables e below (s₁.setTop (mkF m 59 #[.val (.ref a1), .val (.int (20 : Int32)), .val (.long q2), .second] [(.int w15)])) _
    refine XS.lloadN X0.here hx rfl (hb hby d5_59) rfl ?_
    show Steps p.tables e below (s₁.setTop (mkF m 60 #[.val (.ref a1), .val (.int (20 : Int32)), .val (.long q2), .second] [(.long q2), (.int w15)])) _
    refine XS.bipush X0.here hx rfl (hb hby d5_60) ?_
    show Steps p.tables e below (s₁.setTop (mkF m 62 #[.val (.ref a1), .val (.int (20 : Int32)), .val (.long q2), .second] [(.int (24 : Int32)), (.long q2), (.int w15)])) _
    refine XS.lushr X0.here hx rfl (hb hby d5_62) rfl ?_
    show Steps p.tables e below (s₁.setTop (mkF m 63 #[.val (.ref a1), .val (.int (20 : Int32)), .val (.long q2), .second] [(.long ((q2.toUInt64 >>> ((24 : Int32) &&& 0x3f).toInt64.toUInt64).toInt64)), (.int w15)])) _
    refine XS.l2i X0.here hx rfl (hb hby d5_63) rfl ?_
    show Steps p.tables e below (s₁.setTop (mkF m 64 #[.val (.ref a1), .val (.int (20 : Int32)), .val (.long q2), .second] [(.int (((q2.toUInt64 >>> ((24 : Int32) &&& 0x3f).toInt64.toUInt64).toInt64).toInt32)), (.int w15)])) _
    refine XS.i2b X0.here hx rfl (hb hby d5_64) rfl ?_
    show Steps p.tables e below (s₁.setTop (mkF m 65 #[.val (.ref a1), .val (.int (20 : Int32)), .val (.long q2), .second] [(.int ((((q2.toUInt64 >>> ((24 : Int32) &&& 0x3f).toInt64.toUInt64).toInt64).toInt32).toInt8.toInt32)), (.int w15)])) _
    refine XS.icmpNo X0.here hx rfl (hb hby d5_65) rfl (teq P44).2 ?_
    show Steps p.tables e below (s₁.setTop (mkF m 68 #[.val (.ref a1), .val (.int (20 : Int32)), .val (.long q2), .second] [])) _
    refine XS.aloadN X0.here hx rfl (hb hby d5_68) rfl rfl ?_
    show Steps p.tables e below (s₁.setTop (mkF m 69 #[.val (.ref a1), .val (.int (20 : Int32)), .val (.long q2), .second] [(.ref a1)])) _
    refine XS.iloadN X0.here hx rfl (hb hby d5_69) rfl ?_
    show Steps p.tables e below (s₁.setTop (mkF m 70 #[.val (.ref a1), .val (.int (20 : Int32)), .val (.long q2), .second] [(.int (20 : Int32)), (.ref a1)])) _
    refine XS.iconst X0.here hx rfl (hb hby d5_70) ?_
    show Steps p.tables e below (s₁.setTop (mkF m 71 #[.val (.ref a1), .val (.int (20 : Int32)), .val (.long q2), .second] [(.int (5 : Int32)), (.int (20 : Int32)), (.ref a1)])) _
    refine XS.iadd X0.here hx rfl (hb hby d5_71) rfl ?_
    show Steps p.tables e below (s₁.setTop (mkF m 72 #[.val (.ref a1), .val (.int (20 : Int32)), .val (.long q2), .second] [(.int (25 : Int32)), (.ref a1)])) _
    refine X0.baloadBytes hx (j := (25 : Int32)) (v := (.int w16)) (by rw [e0]; exact Ar45.1) (State.isArrayOf_alike hZ.alike Ar45.2.1) Ar45.2.2 hin45 hat45 (g := (mkF m 72 #[.val (.ref a1), .val (.int (20 : Int32)), .val (.long q2), .second] [(.int (25 : Int32)), (.ref a1)])) rfl rfl (hb hby d5_72) _ ?_
    show Steps p.tables e below (s₁.setTop (mkF m 73 #[.val (.ref a1), .val (.int (20 : Int32)), .val (.long q2), .second] [(.int w16)])) _
    refine XS.lloadN X0.here hx rfl (hb hby d5_73) rfl ?_
    show Steps p.tables e below (s₁.setTop (mkF m 74 #[.val (.ref a1), .val (.int (20 : Int32)), .val (.long q2), .second] [(.long q2), (.int w16)])) _
    refine XS.bipush X0.here hx rfl (hb hby d5_74) ?_
    show Steps p.tables e below (s₁.setTop (mkF m 76 #[.val (.ref a1), .val (.int (20 : Int32)), .val (.long q2), .second] [(.int (16 : Int32)), (.long q2), (.int w16)])) _
    refine XS.lushr X0.here hx rfl (hb hby d5_76) rfl ?_
    show Steps p.tables e below (s₁.setTop (mkF m 77 #[.val (.ref a1), .val (.int (20 : Int32)), .val (.long q2), .second] [(.long ((q2.toUInt64 >>> ((16 : Int32) &&& 0x3f).toInt64.toUInt64).toInt64)), (.int w16)])) _
    refine XS.l2i X0.here hx rfl (hb hby d5_77) rfl ?_
    show Steps p.tables e below (s₁.setTop (mkF m 78 #[.val (.ref a1), .val (.int (20 : Int32)), .val (.long q2), .second] [(.int (((q2.toUInt64 >>> ((16 : Int32) &&& 0x3f).toInt64.toUInt64).toInt64).toInt32)), (.int w16)])) _
    refine XS.i2b X0.here hx rfl (hb hby d5_78) rfl ?_
    show Steps p.tables e below (s₁.setTop (mkF m 79 #[.val (.ref a1), .val (.int (20 : Int32)), .val (.long q2), .second] [(.int ((((q2.toUInt64 >>> ((16 : Int32) &&& 0x3f).toInt64.toUInt64).toInt64).toInt32).toInt8.toInt32)), (.int w16)])) _
    refine XS.icmpNo X0.here hx rfl (hb hby d5_79) rfl (teq P46).2 ?_
    show Steps p.tables e below (s₁.setTop (mkF m 82 #[.val (.ref a1), .val (.int (20 : Int32)), .val (.long q2), .second] [])) _
    refine XS.aloadN X0.here hx rfl (hb hby d5_82) rfl rfl ?_
    show Steps p.tables e below (s₁.setTop (mkF m 83 #[.val (.ref a1), .val (.int (20 : Int32)), .val (.long q2), .second] [(.ref a1)])) _
    refine XS.iloadN X0.here hx rfl (hb hby d5_83) rfl ?_
    show Steps p.tables e below (s₁.setTop (mkF m 84 #[.val (.ref a1), .val (.int (20 : Int32)), .val (.long q2), .second] [(.int (20 : Int32)), (.ref a1)])) _
    refine XS.bipush X0.here hx rfl (hb hby d5_84) ?_
    show Steps p.tables e below (s₁.setTop (mkF m 86 #[.val (.ref a1), .val (.int (20 : Int32)), .val (.long q2), .second] [(.int (6 : Int32)), (.int (20 : Int32)), (.ref a1)])) _
    refine XS.iadd X0.here hx rfl (hb hby d5_86) rfl ?_
    show Steps p.tables e below (s₁.setTop (mkF m 87 #[.val (.ref a1), .val (.int (20 : Int32)), .val (.long q2), .second] [(.int (26 : Int32)), (.ref a1)])) _
    refine X0.baloadBytes hx (j := (26 : Int32)) (v := (.int w17)) (by rw [e0]; exact Ar47.1) (State.isArrayOf_alike hZ.alike Ar47.2.1) Ar47.2.2 hin47 hat47 (g := (mkF m 87 #[.val (.ref a1), .val (.int (20 : Int32)), .val (.long q2), .second] [(.int (26 : Int32)), (.ref a1)])) rfl rfl (hb hby d5_87) _ ?_
    show Steps p.tables e below (s₁.setTop (mkF m 88 #[.val (.ref a1), .val (.int (20 : Int32)), .val (.long q2), .second] [(.int w17)])) _
    refine XS.lloadN X0.here hx rfl (hb hby d5_88) rfl ?_
    show Steps p.tables e below (s₁.setTop (mkF m 89 #[.val (.ref a1), .val (.int (20 : Int32)), .val (.long q2), .second] [(.long q2), (.int w17)])) _
    refine XS.bipush X0.here hx rfl (hb hby d5_89) ?_
    show Steps p.tables e below (s₁.setTop (mkF m 91 #[.val (.ref a1), .val (.int (20 : Int32)), .val (.long q2), .second] [(.int (8 : Int32)), (.long q2), (.int w17)])) _
    refine XS.lushr X0.here hx rfl (hb hby d5_91) rfl ?_
    show Steps p.tables e below (s₁.setTop (mkF m 92 #[.val (.ref a1), .val (.int (20 : Int32)), .val (.long q2), .second] [(.long ((q2.toUInt64 >>> ((8 : Int32) &&& 0x3f).toInt64.toUInt64).toInt64)), (.int w17)])) _
    refine XS.l2i X0.here hx rfl (hb hby d5_92) rfl ?_
    show Steps p.tables e below (s₁.setTop (mkF m 93 #[.val (.ref a1), .val (.int (20 : Int32)), .val (.long q2), .second] [(.int (((q2.toUInt64 >>> ((8 : Int32) &&& 0x3f).toInt64.toUInt64).toInt64).toInt32)), (.int w17)])) _
    refine XS.i2b X0.here hx rfl (hb hby d5_93) rfl ?_
    show Steps p.tables e below (s₁.setTop (mkF m 94 #[.val (.ref a1), .val (.int (20 : Int32)), .val (.long q2), .second] [(.int ((((q2.toUInt64 >>> ((8 : Int32) &&& 0x3f).toInt64.toUInt64).toInt64).toInt32).toInt8.toInt32)), (.int w17)])) _
    refine XS.icmpNo X0.here hx rfl (hb hby d5_94) rfl (teq P48).2 ?_
    show Steps p.tables e below (s₁.setTop (mkF m 97 #[.val (.ref a1), .val (.int (20 : Int32)), .val (.long q2), .second] [])) _
    refine XS.aloadN X0.here hx rfl (hb hby d5_97) rfl rfl ?_
    show Steps p.tables e below (s₁.setTop (mkF m 98 #[.val (.ref a1), .val (.int (20 : Int32)), .val (.long q2), .second] [(.ref a1)])) _
    refine XS.iloadN X0.here hx rfl (hb hby d5_98) rfl ?_
    show Steps p.tables e below (s₁.setTop (mkF m 99 #[.val (.ref a1), .val (.int (20 : Int32)), .val (.long q2), .second] [(.int (20 : Int32)), (.ref a1)])) _
    refine XS.bipush X0.here hx rfl (hb hby d5_99) ?_
    show Steps p.tables e below (s₁.setTop (mkF m 101 #[.val (.ref a1), .val (.int (20 : Int32)), .val (.long q2), .second] [(.int (7 : Int32)), (.int (20 : Int32)), (.ref a1)])) _
    refine XS.iadd X0.here hx rfl (hb hby d5_101) rfl ?_
    show Steps p.tables e below (s₁.setTop (mkF m 102 #[.val (.ref a1), .val (.int (20 : Int32)), .val (.long q2), .second] [(.int (27 : Int32)), (.ref a1)])) _
    refine X0.baloadBytes hx (j := (27 : Int32)) (v := (.int w18)) (by rw [e0]; exact Ar49.1) (State.isArrayOf_alike hZ.alike Ar49.2.1) Ar49.2.2 hin49 hat49 (g := (mkF m 102 #[.val (.ref a1), .val (.int (20 : Int32)), .val (.long q2), .second] [(.int (27 : Int32)), (.ref a1)])) rfl rfl (hb hby d5_102) _ ?_
    show Steps p.tables e below (s₁.setTop (mkF m 103 #[.val (.ref a1), .val (.int (20 : Int32)), .val (.long q2), .second] [(.int w18)])) _
    refine XS.lloadN X0.here hx rfl (hb hby d5_103) rfl ?_
    show Steps p.tables e below (s₁.setTop (mkF m 104 #[.val (.ref a1), .val (.int (20 : Int32)), .val (.long q2), .second] [(.long q2), (.int w18)])) _
    refine XS.l2i X0.here hx rfl (hb hby d5_104) rfl ?_
    show Steps p.tables e below (s₁.setTop (mkF m 105 #[.val (.ref a1), .val (.int (20 : Int32)), .val (.long q2), .second] [(.int (q2.toInt32)), (.int w18)])) _
    refine XS.i2b X0.here hx rfl (hb hby d5_105) rfl ?_
    show Steps p.tables e below (s₁.setTop (mkF m 106 #[.val (.ref a1), .val (.int (20 : Int32)), .val (.long q2), .second] [(.int ((q2.toInt32).toInt8.toInt32)), (.int w18)])) _
    refine XS.icmpNo X0.here hx rfl (hb hby d5_106) rfl (teq P50).2 ?_
    show Steps p.tables e below (s₁.setTop (mkF m 109 #[.val (.ref a1), .val (.int (20 : Int32)), .val (.long q2), .second] [])) _
    refine XS.iconst X0.here hx rfl (hb hby d5_109) ?_
    show Steps p.tables e below (s₁.setTop (mkF m 110 #[.val (.ref a1), .val (.int (20 : Int32)), .val (.long q2), .second] [(.int (1 : Int32))])) _
    refine XS.goto X0.here hx rfl (pc0 := 110) (pc' := 114) rfl (hb hby d5_110) (by decide) (by decide) ?_
    show Steps p.tables e below (s₁.setTop (mkF m 114 #[.val (.ref a1), .val (.int (20 : Int32)), .val (.long q2), .second] [(.int (1 : Int32))])) _
    exact retN X0 hx (t := .boolean) Bd.returns (by simp) (hb hby d5_114) hr
  · show Q5_2 Z a1 q2 k_a1 w3 w4 w5 w6 w7 w8 w9 w10 w11 w12 w13 w14 w15 w16 w17 w18 w19 w20 w21 w22 w23 w24 w25 w26 w27 w28 w29 w30 w31 w32 w33 w34 h0 n0 _ s₁.heap _
    rw [e0]
    exact ⟨rfl, N0, rfl⟩
def Q5_3 (Z : State) (a1 : Addr) (q2 : Int64) (k_a1 : ClassId) (w3 : Int32) (w4 : Int32) (w5 : Int32) (w6 : Int32) (w7 : Int32) (w8 : Int32) (w9 : Int32) (w10 : Int32) (w11 : Int32) (w12 : Int32) (w13 : Int32) (w14 : Int32) (w15 : Int32) (w16 : Int32) (w17 : Int32) (w18 : Int32) (w19 : Int32) (w20 : Int32) (w21 : Int32) (w22 : Int32) (w23 : Int32) (w24 : Int32) (w25 : Int32) (w26 : Int32) (w27 : Int32) (w28 : Int32) (w29 : Int32) (w30 : Int32) (w31 : Int32) (w32 : Int32) (w33 : Int32) (w34 : Int32) (h0 : Heap) (n0 : Nat) (v : Option Value) (h : Heap) (L : List Loc) : Prop := v = some (.int (1 : Int32)) ∧ Fr n0 L ∧ h = h0
set_option maxRecDepth 65536 in
set_option maxHeartbeats 40000000 in
theorem rm5_3 (l : Launch) (Z : State) (a0 : Array Value) (hw : ∀ d ∈ tables_1, d.before a0 Z = true) (ws : List Jvm.Cond) (a1 : Addr) (q2 : Int64) (k_a1 : ClassId) (w3 : Int32) (w4 : Int32) (w5 : Int32) (w6 : Int32) (w7 : Int32) (w8 : Int32) (w9 : Int32) (w10 : Int32) (w11 : Int32) (w12 : Int32) (w13 : Int32) (w14 : Int32) (w15 : Int32) (w16 : Int32) (w17 : Int32) (w18 : Int32) (w19 : Int32) (w20 : Int32) (w21 : Int32) (w22 : Int32) (w23 : Int32) (w24 : Int32) (w25 : Int32) (w26 : Int32) (w27 : Int32) (w28 : Int32) (w29 : Int32) (w30 : Int32) (w31 : Int32) (w32 : Int32) (w33 : Int32) (w34 : Int32) (h0 : Heap) (n0 : Nat) (Z0 : n0 ≤ h0.size) (V_a1 : Arv Z h0 a1 k_a1 .byte (44 : Int32) [(.int (48 : Int32)), (.int (42 : Int32)), (.int (48 : Int32)), (.int (5 : Int32)), (.int (6 : Int32)), (.int (3 : Int32)), (.int (43 : Int32)), (.int (101 : Int32)), (.int (112 : Int32)), (.int (3 : Int32)), (.int (33 : Int32)), (.int (0 : Int32)), (.int w3), (.int w4), (.int w5), (.int w6), (.int w7), (.int w8), (.int w9), (.int w10), (.int w11), (.int w12), (.int w13), (.int w14), (.int w15), (.int w16), (.int w17), (.int w18), (.int w19), (.int w20), (.int w21), (.int w22), (.int w23), (.int w24), (.int w25), (.int w26), (.int w27), (.int w28), (.int w29), (.int w30), (.int w31), (.int w32), (.int w33), (.int w34)] (.int (0 : Int32))) (P36 : w19 = ((((q2.toUInt64 >>> ((56 : Int32) &&& 0x3f).toInt64.toUInt64).toInt64).toInt32).toInt8.toInt32)) (P38 : w20 = ((((q2.toUInt64 >>> ((48 : Int32) &&& 0x3f).toInt64.toUInt64).toInt64).toInt32).toInt8.toInt32)) (P40 : w21 = ((((q2.toUInt64 >>> ((40 : Int32) &&& 0x3f).toInt64.toUInt64).toInt64).toInt32).toInt8.toInt32)) (P42 : w22 = ((((q2.toUInt64 >>> ((32 : Int32) &&& 0x3f).toInt64.toUInt64).toInt64).toInt32).toInt8.toInt32)) (P44 : w23 = ((((q2.toUInt64 >>> ((24 : Int32) &&& 0x3f).toInt64.toUInt64).toInt64).toInt32).toInt8.toInt32)) (P46 : w24 = ((((q2.toUInt64 >>> ((16 : Int32) &&& 0x3f).toInt64.toUInt64).toInt64).toInt32).toInt8.toInt32)) (P48 : w25 = ((((q2.toUInt64 >>> ((8 : Int32) &&& 0x3f).toInt64.toUInt64).toInt64).toInt32).toInt8.toInt32)) (P50 : w26 = ((q2.toInt32).toInt8.toInt32)) :
    MetFree l (⟨"com/example/lasting_names/lastingnames/Ed25519SubjectPublicKeyInfoPinLaw", "same", "([BIJ)Z"⟩ : MethodName) (head1 (Jvm.Cond.code (⟨"com/example/lasting_names/lastingnames/Ed25519SubjectPublicKeyInfoPinLaw", "same", "([BIJ)Z"⟩ : MethodName) method_3_code 4 (some .boolean) :: ws) ({ frames := 0, cells := 0, slots := 0, locals := 0 } : Room)) (fun a U => a = #[(.ref a1), (.int (28 : Int32)), (.long q2)] ∧ Z.Warmed39 U.vm ∧ U.heap = h0) (fun _ _ _ _ _ => True) (fun _ U o U' => ∃ v L, o = .returned v ∧ Q5_3 Z a1 q2 k_a1 w3 w4 w5 w6 w7 w8 w9 w10 w11 w12 w13 w14 w15 w16 w17 w18 w19 w20 w21 w22 w23 w24 w25 w26 w27 w28 w29 w30 w31 w32 w33 w34 h0 n0 v U'.heap L ∧ FrameEnd U o U' L ({ frames := 0, cells := 0, slots := 0, locals := 0 } : Room).cells ({ frames := 0, cells := 0, slots := 0, locals := 0 } : Room).slots) := by
  refine MetFree.of_bodySF (plainFor_of_name pn_5) hisR ?_
  intro p e s m args below meth c s₁ Bd hml0 hP hK
  obtain ⟨rfl, hZ, hh⟩ := hP
  have hx := Bd.exec
  have hby := Bd.bytes
  have hml : c.maxLocals = 4 := hml0
  have hown : s.vm.findClass "com/example/lasting_names/lastingnames/Ed25519SubjectPublicKeyInfoPinLaw" = some m.cls := findClass_of_methodNamed Bd.named
  have hnm := (name_of_methodNamed Bd.named Bd.method).1
  have X0 : Stand p l e ({ frames := 0, cells := 0, slots := 0, locals := 0 } : Room) s m #[(.ref a1), (.int (28 : Int32)), (.long q2)] below meth c s₁ [] 0 0 := Stand.of_body Bd
  have e0 : s₁.heap = h0 := by rw [← hh, Bd.state]; rfl
  have N0 := Fr.nil n0
  have pre0 : ∀ t, Steps p.tables e below (s₁.setTop (mkF m 0 #[.val (.ref a1), .val (.int (28 : Int32)), .val (.long q2), .second] [])) t → Steps p.tables e below (s₁.setTop (entryFrame m #[(.ref a1), (.int (28 : Int32)), (.long q2)] 4)) t := fun t k => castTop (ef_5_RIJ m a1 (28 : Int32) q2) k
  obtain ⟨cl35, Ar35, q35, S35, N_35, H35, G35⟩ := id V_a1
  have hin35 : ¬ ((28 : Int32) < 0 ∨ cl35.slots.size ≤ ((28 : Int32)).toNatClampNeg) := inb_of S35 ⟨by decide, (by decide : (28 : Int32) < (44 : Int32))⟩
  have hat35 : cl35.slots[((28 : Int32)).toNatClampNeg]? = some (.int w19) := Has.at H35 hin35 rfl
  obtain ⟨cl37, Ar37, q37, S37, N_37, H37, G37⟩ := id V_a1
  have hin37 : ¬ ((29 : Int32) < 0 ∨ cl37.slots.size ≤ ((29 : Int32)).toNatClampNeg) := inb_of S37 ⟨by decide, (by decide : (29 : Int32) < (44 : Int32))⟩
  have hat37 : cl37.slots[((29 : Int32)).toNatClampNeg]? = some (.int w20) := Has.at H37 hin37 rfl
  obtain ⟨cl39, Ar39, q39, S39, N_39, H39, G39⟩ := id V_a1
  have hin39 : ¬ ((30 : Int32) < 0 ∨ cl39.slots.size ≤ ((30 : Int32)).toNatClampNeg) := inb_of S39 ⟨by decide, (by decide : (30 : Int32) < (44 : Int32))⟩
  have hat39 : cl39.slots[((30 : Int32)).toNatClampNeg]? = some (.int w21) := Has.at H39 hin39 rfl
  obtain ⟨cl41, Ar41, q41, S41, N_41, H41, G41⟩ := id V_a1
  have hin41 : ¬ ((31 : Int32) < 0 ∨ cl41.slots.size ≤ ((31 : Int32)).toNatClampNeg) := inb_of S41 ⟨by decide, (by decide : (31 : Int32) < (44 : Int32))⟩
  have hat41 : cl41.slots[((31 : Int32)).toNatClampNeg]? = some (.int w22) := Has.at H41 hin41 rfl
  obtain ⟨cl43, Ar43, q43, S43, N_43, H43, G43⟩ := id V_a1
  have hin43 : ¬ ((32 : Int32) < 0 ∨ cl43.slots.size ≤ ((32 : Int32)).toNatClampNeg) := inb_of S43 ⟨by decide, (by decide : (32 : Int32) < (44 : Int32))⟩
  have hat43 : cl43.slots[((32 : Int32)).toNatClampNeg]? = some (.int w23) := Has.at H43 hin43 rfl
  obtain ⟨cl45, Ar45, q45, S45, N_45, H45, G45⟩ := id V_a1
  have hin45 : ¬ ((33 : Int32) < 0 ∨ cl45.slots.size ≤ ((33 : Int32)).toNatClampNeg) := inb_of S45 ⟨by decide, (by decide : (33 : Int32) < (44 : Int32))⟩
  have hat45 : cl45.slots[((33 : Int32)).toNatClampNeg]? = some (.int w24) := Has.at H45 hin45 rfl
  obtain ⟨cl47, Ar47, q47, S47, N_47, H47, G47⟩ := id V_a1
  have hin47 : ¬ ((34 : Int32) < 0 ∨ cl47.slots.size ≤ ((34 : Int32)).toNatClampNeg) := inb_of S47 ⟨by decide, (by decide : (34 : Int32) < (44 : Int32))⟩
  have hat47 : cl47.slots[((34 : Int32)).toNatClampNeg]? = some (.int w25) := Has.at H47 hin47 rfl
  obtain ⟨cl49, Ar49, q49, S49, N_49, H49, G49⟩ := id V_a1
  have hin49 : ¬ ((35 : Int32) < 0 ∨ cl49.slots.size ≤ ((35 : Int32)).toNatClampNeg) := inb_of S49 ⟨by decide, (by decide : (35 : Int32) < (44 : Int32))⟩
  have hat49 : cl49.slots[((35 : Int32)).toNatClampNeg]? = some (.int w26) := Has.at H49 hin49 rfl
  obtain ⟨fs, hr, hrun, hended, hW, hsame⟩ := X0.leave (v := some (.int (1 : Int32))) (fun h => by rw [Bd.returns] at h; cases h)
  refine ⟨_, _, pre0 _ ?_, hrun, hended, _, _, rfl, ?_, ⟨_, rfl⟩, hW, hsame.mono (by decide) (by decide)⟩
  · show Steps p.tables e below (s₁.setTop (mkF m 0 #[.val (.ref a1), .val (.int (28 : Int32)), .val (.long q2), .second] [])) _
    refine XS.aloadN X0.here hx rfl (hb hby d5_0) rfl rfl ?_
    show Steps p.tables e below (s₁.setTop (mkF m 1 #[.val (.ref a1), .val (.int (28 : Int32)), .val (.long q2), .second] [(.ref a1)])) _
    refine XS.iloadN X0.here hx rfl (hb hby d5_1) rfl ?_
    show Steps p.tables e below (s₁.setTop (mkF m 2 #[.val (.ref a1), .val (.int (28 : Int32)), .val (.long q2), .second] [(.int (28 : Int32)), (.ref a1)])) _
    refine X0.baloadBytes hx (j := (28 : Int32)) (v := (.int w19)) (by rw [e0]; exact Ar35.1) (State.isArrayOf_alike hZ.alike Ar35.2.1) Ar35.2.2 hin35 hat35 (g := (mkF m 2 #[.val (.ref a1), .val (.int (28 : Int32)), .val (.long q2), .second] [(.int (28 : Int32)), (.ref a1)])) rfl rfl (hb hby d5_2) _ ?_
    show Steps p.tables e below (s₁.setTop (mkF m 3 #[.val (.ref a1), .val (.int (28 : Int32)), .val (.long q2), .second] [(.int w19)])) _
    refine XS.lloadN X0.here hx rfl (hb hby d5_3) rfl ?_
    show Steps p.tables e below (s₁.setTop (mkF m 4 #[.val (.ref a1), .val (.int (28 : Int32)), .val (.long q2), .second] [(.long q2), (.int w19)])) _
    refine XS.bipush X0.here hx rfl (hb hby d5_4) ?_
    show Steps p.tables e below (s₁.setTop (mkF m 6 #[.val (.ref a1), .val (.int (28 : Int32)), .val (.long q2), .second] [(.int (56 : Int32)), (.long q2), (.int w19)])) _
    refine XS.lushr X0.here hx rfl (hb hby d5_6) rfl ?_
    show Steps p.tables e below (s₁.setTop (mkF m 7 #[.val (.ref a1), .val (.int (28 : Int32)), .val (.long q2), .second] [(.long ((q2.toUInt64 >>> ((56 : Int32) &&& 0x3f).toInt64.toUInt64).toInt64)), (.int w19)])) _
    refine XS.l2i X0.here hx rfl (hb hby d5_7) rfl ?_
    show Steps p.tables e below (s₁.setTop (mkF m 8 #[.val (.ref a1), .val (.int (28 : Int32)), .val (.long q2), .second] [(.int (((q2.toUInt64 >>> ((56 : Int32) &&& 0x3f).toInt64.toUInt64).toInt64).toInt32)), (.int w19)])) _
    refine XS.i2b X0.here hx rfl (hb hby d5_8) rfl ?_
    show Steps p.tables e below (s₁.setTop (mkF m 9 #[.val (.ref a1), .val (.int (28 : Int32)), .val (.long q2), .second] [(.int ((((q2.toUInt64 >>> ((56 : Int32) &&& 0x3f).toInt64.toUInt64).toInt64).toInt32).toInt8.toInt32)), (.int w19)])) _
    refine XS.icmpNo X0.here hx rfl (hb hby d5_9) rfl (teq P36).2 ?_
    show Steps p.tables e below (s₁.setTop (mkF m 12 #[.val (.ref a1), .val (.int (28 : Int32)), .val (.long q2), .second] [])) _
    refine XS.aloadN X0.here hx rfl (hb hby d5_12) rfl rfl ?_
    show Steps p.tables e below (s₁.setTop (mkF m 13 #[.val (.ref a1), .val (.int (28 : Int32)), .val (.long q2), .second] [(.ref a1)])) _
    refine XS.iloadN X0.here hx rfl (hb hby d5_13) rfl ?_
    show Steps p.tables e below (s₁.setTop (mkF m 14 #[.val (.ref a1), .val (.int (28 : Int32)), .val (.long q2), .second] [(.int (28 : Int32)), (.ref a1)])) _
    refine XS.iconst X0.here hx rfl (hb hby d5_14) ?_
    show Steps p.tables e below (s₁.setTop (mkF m 15 #[.val (.ref a1), .val (.int (28 : Int32)), .val (.long q2), .second] [(.int (1 : Int32)), (.int (28 : Int32)), (.ref a1)])) _
    refine XS.iadd X0.here hx rfl (hb hby d5_15) rfl ?_
    show Steps p.tables e below (s₁.setTop (mkF m 16 #[.val (.ref a1), .val (.int (28 : Int32)), .val (.long q2), .second] [(.int (29 : Int32)), (.ref a1)])) _
    refine X0.baloadBytes hx (j := (29 : Int32)) (v := (.int w20)) (by rw [e0]; exact Ar37.1) (State.isArrayOf_alike hZ.alike Ar37.2.1) Ar37.2.2 hin37 hat37 (g := (mkF m 16 #[.val (.ref a1), .val (.int (28 : Int32)), .val (.long q2), .second] [(.int (29 : Int32)), (.ref a1)])) rfl rfl (hb hby d5_16) _ ?_
    show Steps p.tables e below (s₁.setTop (mkF m 17 #[.val (.ref a1), .val (.int (28 : Int32)), .val (.long q2), .second] [(.int w20)])) _
    refine XS.lloadN X0.here hx rfl (hb hby d5_17) rfl ?_
    show Steps p.tables e below (s₁.setTop (mkF m 18 #[.val (.ref a1), .val (.int (28 : Int32)), .val (.long q2), .second] [(.long q2), (.int w20)])) _
    refine XS.bipush X0.here hx rfl (hb hby d5_18) ?_
    show Steps p.tables e below (s₁.setTop (mkF m 20 #[.val (.ref a1), .val (.int (28 : Int32)), .val (.long q2), .second] [(.int (48 : Int32)), (.long q2), (.int w20)])) _
    refine XS.lushr X0.here hx rfl (hb hby d5_20) rfl ?_
    show Steps p.tables e below (s₁.setTop (mkF m 21 #[.val (.ref a1), .val (.int (28 : Int32)), .val (.long q2), .second] [(.long ((q2.toUInt64 >>> ((48 : Int32) &&& 0x3f).toInt64.toUInt64).toInt64)), (.int w20)])) _
    refine XS.l2i X0.here hx rfl (hb hby d5_21) rfl ?_
    show Steps p.tables e below (s₁.setTop (mkF m 22 #[.val (.ref a1), .val (.int (28 : Int32)), .val (.long q2), .second] [(.int (((q2.toUInt64 >>> ((48 : Int32) &&& 0x3f).toInt64.toUInt64).toInt64).toInt32)), (.int w20)])) _
    refine XS.i2b X0.here hx rfl (hb hby d5_22) rfl ?_
    show Steps p.tables e below (s₁.setTop (mkF m 23 #[.val (.ref a1), .val (.int (28 : Int32)), .val (.long q2), .second] [(.int ((((q2.toUInt64 >>> ((48 : Int32) &&& 0x3f).toInt64.toUInt64).toInt64).toInt32).toInt8.toInt32)), (.int w20)])) _
    refine XS.icmpNo X0.here hx rfl (hb hby d5_23) rfl (teq P38).2 ?_
    show Steps p.tables e below (s₁.setTop (mkF m 26 #[.val (.ref a1), .val (.int (28 : Int32)), .val (.long q2), .second] [])) _
    refine XS.aloadN X0.here hx rfl (hb hby d5_26) rfl rfl ?_
    show Steps p.tables e below (s₁.setTop (mkF m 27 #[.val (.ref a1), .val (.int (28 : Int32)), .val (.long q2), .second] [(.ref a1)])) _
    refine XS.iloadN X0.here hx rfl (hb hby d5_27) rfl ?_
    show Steps p.tables e below (s₁.setTop (mkF m 28 #[.val (.ref a1), .val (.int (28 : Int32)), .val (.long q2), .second] [(.int (28 : Int32)), (.ref a1)])) _
    refine XS.iconst X0.here hx rfl (hb hby d5_28) ?_
    show Steps p.tables e below (s₁.setTop (mkF m 29 #[.val (.ref a1), .val (.int (28 : Int32)), .val (.long q2), .second] [(.int (2 : Int32)), (.int (28 : Int32)), (.ref a1)])) _
    refine XS.iadd X0.here hx rfl (hb hby d5_29) rfl ?_
    show Steps p.tables e below (s₁.setTop (mkF m 30 #[.val (.ref a1), .val (.int (28 : Int32)), .val (.long q2), .second] [(.int (30 : Int32)), (.ref a1)])) _
    refine X0.baloadBytes hx (j := (30 : Int32)) (v := (.int w21)) (by rw [e0]; exact Ar39.1) (State.isArrayOf_alike hZ.alike Ar39.2.1) Ar39.2.2 hin39 hat39 (g := (mkF m 30 #[.val (.ref a1), .val (.int (28 : Int32)), .val (.long q2), .second] [(.int (30 : Int32)), (.ref a1)])) rfl rfl (hb hby d5_30) _ ?_
    show Steps p.tables e below (s₁.setTop (mkF m 31 #[.val (.ref a1), .val (.int (28 : Int32)), .val (.long q2), .second] [(.int w21)])) _
    refine XS.lloadN X0.here hx rfl (hb hby d5_31) rfl ?_
    show Steps p.tables e below (s₁.setTop (mkF m 32 #[.val (.ref a1), .val (.int (28 : Int32)), .val (.long q2), .second] [(.long q2), (.int w21)])) _
    refine XS.bipush X0.here hx rfl (hb hby d5_32) ?_
    show Steps p.tables e below (s₁.setTop (mkF m 34 #[.val (.ref a1), .val (.int (28 : Int32)), .val (.long q2), .second] [(.int (40 : Int32)), (.long q2), (.int w21)])) _
    refine XS.lushr X0.here hx rfl (hb hby d5_34) rfl ?_
    show Steps p.tables e below (s₁.setTop (mkF m 35 #[.val (.ref a1), .val (.int (28 : Int32)), .val (.long q2), .second] [(.long ((q2.toUInt64 >>> ((40 : Int32) &&& 0x3f).toInt64.toUInt64).toInt64)), (.int w21)])) _
    refine XS.l2i X0.here hx rfl (hb hby d5_35) rfl ?_
    show Steps p.tables e below (s₁.setTop (mkF m 36 #[.val (.ref a1), .val (.int (28 : Int32)), .val (.long q2), .second] [(.int (((q2.toUInt64 >>> ((40 : Int32) &&& 0x3f).toInt64.toUInt64).toInt64).toInt32)), (.int w21)])) _
    refine XS.i2b X0.here hx rfl (hb hby d5_36) rfl ?_
    show Steps p.tables e below (s₁.setTop (mkF m 37 #[.val (.ref a1), .val (.int (28 : Int32)), .val (.long q2), .second] [(.int ((((q2.toUInt64 >>> ((40 : Int32) &&& 0x3f).toInt64.toUInt64).toInt64).toInt32).toInt8.toInt32)), (.int w21)])) _
    refine XS.icmpNo X0.here hx rfl (hb hby d5_37) rfl (teq P40).2 ?_
    show Steps p.tables e below (s₁.setTop (mkF m 40 #[.val (.ref a1), .val (.int (28 : Int32)), .val (.long q2), .second] [])) _
    refine XS.aloadN X0.here hx rfl (hb hby d5_40) rfl rfl ?_
    show Steps p.tables e below (s₁.setTop (mkF m 41 #[.val (.ref a1), .val (.int (28 : Int32)), .val (.long q2), .second] [(.ref a1)])) _
    refine XS.iloadN X0.here hx rfl (hb hby d5_41) rfl ?_
    show Steps p.tables e below (s₁.setTop (mkF m 42 #[.val (.ref a1), .val (.int (28 : Int32)), .val (.long q2), .second] [(.int (28 : Int32)), (.ref a1)])) _
    refine XS.iconst X0.here hx rfl (hb hby d5_42) ?_
    show Steps p.tables e below (s₁.setTop (mkF m 43 #[.val (.ref a1), .val (.int (28 : Int32)), .val (.long q2), .second] [(.int (3 : Int32)), (.int (28 : Int32)), (.ref a1)])) _
    refine XS.iadd X0.here hx rfl (hb hby d5_43) rfl ?_
    show Steps p.tables e below (s₁.setTop (mkF m 44 #[.val (.ref a1), .val (.int (28 : Int32)), .val (.long q2), .second] [(.int (31 : Int32)), (.ref a1)])) _
    refine X0.baloadBytes hx (j := (31 : Int32)) (v := (.int w22)) (by rw [e0]; exact Ar41.1) (State.isArrayOf_alike hZ.alike Ar41.2.1) Ar41.2.2 hin41 hat41 (g := (mkF m 44 #[.val (.ref a1), .val (.int (28 : Int32)), .val (.long q2), .second] [(.int (31 : Int32)), (.ref a1)])) rfl rfl (hb hby d5_44) _ ?_
    show Steps p.tables e below (s₁.setTop (mkF m 45 #[.val (.ref a1), .val (.int (28 : Int32)), .val (.long q2), .second] [(.int w22)])) _
    refine XS.lloadN X0.here hx rfl (hb hby d5_45) rfl ?_
    show Steps p.tables e below (s₁.setTop (mkF m 46 #[.val (.ref a1), .val (.int (28 : Int32)), .val (.long q2), .second] [(.long q2), (.int w22)])) _
    refine XS.bipush X0.here hx rfl (hb hby d5_46) ?_
    show Steps p.tables e below (s₁.setTop (mkF m 48 #[.val (.ref a1), .val (.int (28 : Int32)), .val (.long q2), .second] [(.int (32 : Int32)), (.long q2), (.int w22)])) _
    refine XS.lushr X0.here hx rfl (hb hby d5_48) rfl ?_
    show Steps p.tables e below (s₁.setTop (mkF m 49 #[.val (.ref a1), .val (.int (28 : Int32)), .val (.long q2), .second] [(.long ((q2.toUInt64 >>> ((32 : Int32) &&& 0x3f).toInt64.toUInt64).toInt64)), (.int w22)])) _
    refine XS.l2i X0.here hx rfl (hb hby d5_49) rfl ?_
    show Steps p.tables e below (s₁.setTop (mkF m 50 #[.val (.ref a1), .val (.int (28 : Int32)), .val (.long q2), .second] [(.int (((q2.toUInt64 >>> ((32 : Int32) &&& 0x3f).toInt64.toUInt64).toInt64).toInt32)), (.int w22)])) _
    refine XS.i2b X0.here hx rfl (hb hby d5_50) rfl ?_
    show Steps p.tables e below (s₁.setTop (mkF m 51 #[.val (.ref a1), .val (.int (28 : Int32)), .val (.long q2), .second] [(.int ((((q2.toUInt64 >>> ((32 : Int32) &&& 0x3f).toInt64.toUInt64).toInt64).toInt32).toInt8.toInt32)), (.int w22)])) _
    refine XS.icmpNo X0.here hx rfl (hb hby d5_51) rfl (teq P42).2 ?_
    show Steps p.tables e below (s₁.setTop (mkF m 54 #[.val (.ref a1), .val (.int (28 : Int32)), .val (.long q2), .second] [])) _
    refine XS.aloadN X0.here hx rfl (hb hby d5_54) rfl rfl ?_
    show Steps p.tables e below (s₁.setTop (mkF m 55 #[.val (.ref a1), .val (.int (28 : Int32)), .val (.long q2), .second] [(.ref a1)])) _
    refine XS.iloadN X0.here hx rfl (hb hby d5_55) rfl ?_
    show Steps p.tables e below (s₁.setTop (mkF m 56 #[.val (.ref a1), .val (.int (28 : Int32)), .val (.long q2), .second] [(.int (28 : Int32)), (.ref a1)])) _
    refine XS.iconst X0.here hx rfl (hb hby d5_56) ?_
    show Steps p.tables e below (s₁.setTop (mkF m 57 #[.val (.ref a1), .val (.int (28 : Int32)), .val (.long q2), .second] [(.int (4 : Int32)), (.int (28 : Int32)), (.ref a1)])) _
    refine XS.iadd X0.here hx rfl (hb hby d5_57) rfl ?_
    show Steps p.tables e below (s₁.setTop (mkF m 58 #[.val (.ref a1), .val (.int (28 : Int32)), .val (.long q2), .second] [(.int (32 : Int32)), (.ref a1)])) _
    refine X0.baloadBytes hx (j := (32 : Int32)) (v := (.int w23)) (by rw [e0]; exact Ar43.1) (State.isArrayOf_alike hZ.alike Ar43.2.1) Ar43.2.2 hin43 hat43 (g := (mkF m 58 #[.val (.ref a1), .val (.int (28 : Int32)), .val (.long q2), .second] [(.int (32 : Int32)), (.ref a1)])) rfl rfl (hb hby d5_58) _ ?_
    show Steps p.tables e below (s₁.setTop (mkF m 59 #[.val (.ref a1), .val (.int (28 : Int32)), .val (.long q2), .second] [(.int w23)])) _
    refine XS.lloadN X0.here hx rfl (hb hby d5_59) rfl ?_
    show Steps p.tables e below (s₁.setTop (mkF m 60 #[.val (.ref a1), .val (.int (28 : Int32)), .val (.long q2), .second] [(.long q2), (.int w23)])) _
    refine XS.bipush X0.here hx rfl (hb hby d5_60) ?_
    show Steps p.tables e below (s₁.setTop (mkF m 62 #[.val (.ref a1), .val (.int (28 : Int32)), .val (.long q2), .second] [(.int (24 : Int32)), (.long q2), (.int w23)])) _
    refine XS.lushr X0.here hx rfl (hb hby d5_62) rfl ?_
    show Steps p.tables e below (s₁.setTop (mkF m 63 #[.val (.ref a1), .val (.int (28 : Int32)), .val (.long q2), .second] [(.long ((q2.toUInt64 >>> ((24 : Int32) &&& 0x3f).toInt64.toUInt64).toInt64)), (.int w23)])) _
    refine XS.l2i X0.here hx rfl (hb hby d5_63) rfl ?_
    show Steps p.tables e below (s₁.setTop (mkF m 64 #[.val (.ref a1), .val (.int (28 : Int32)), .val (.long q2), .second] [(.int (((q2.toUInt64 >>> ((24 : Int32) &&& 0x3f).toInt64.toUInt64).toInt64).toInt32)), (.int w23)])) _
    refine XS.i2b X0.here hx rfl (hb hby d5_64) rfl ?_
    show Steps p.tables e below (s₁.setTop (mkF m 65 #[.val (.ref a1), .val (.int (28 : Int32)), .val (.long q2), .second] [(.int ((((q2.toUInt64 >>> ((24 : Int32) &&& 0x3f).toInt64.toUInt64).toInt64).toInt32).toInt8.toInt32)), (.int w23)])) _
    refine XS.icmpNo X0.here hx rfl (hb hby d5_65) rfl (teq P44).2 ?_
    show Steps p.tables e below (s₁.setTop (mkF m 68 #[.val (.ref a1), .val (.int (28 : Int32)), .val (.long q2), .second] [])) _
    refine XS.aloadN X0.here hx rfl (hb hby d5_68) rfl rfl ?_
    show Steps p.tables e below (s₁.setTop (mkF m 69 #[.val (.ref a1), .val (.int (28 : Int32)), .val (.long q2), .second] [(.ref a1)])) _
    refine XS.iloadN X0.here hx rfl (hb hby d5_69) rfl ?_
    show Steps p.tables e below (s₁.setTop (mkF m 70 #[.val (.ref a1), .val (.int (28 : Int32)), .val (.long q2), .second] [(.int (28 : Int32)), (.ref a1)])) _
    refine XS.iconst X0.here hx rfl (hb hby d5_70) ?_
    show Steps p.tables e below (s₁.setTop (mkF m 71 #[.val (.ref a1), .val (.int (28 : Int32)), .val (.long q2), .second] [(.int (5 : Int32)), (.int (28 : Int32)), (.ref a1)])) _
    refine XS.iadd X0.here hx rfl (hb hby d5_71) rfl ?_
    show Steps p.tables e below (s₁.setTop (mkF m 72 #[.val (.ref a1), .val (.int (28 : Int32)), .val (.long q2), .second] [(.int (33 : Int32)), (.ref a1)])) _
    refine X0.baloadBytes hx (j := (33 : Int32)) (v := (.int w24)) (by rw [e0]; exact Ar45.1) (State.isArrayOf_alike hZ.alike Ar45.2.1) Ar45.2.2 hin45 hat45 (g := (mkF m 72 #[.val (.ref a1), .val (.int (28 : Int32)), .val (.long q2), .second] [(.int (33 : Int32)), (.ref a1)])) rfl rfl (hb hby d5_72) _ ?_
    show Steps p.tables e below (s₁.setTop (mkF m 73 #[.val (.ref a1), .val (.int (28 : Int32)), .val (.long q2), .second] [(.int w24)])) _
    refine XS.lloadN X0.here hx rfl (hb hby d5_73) rfl ?_
    show Steps p.tables e below (s₁.setTop (mkF m 74 #[.val (.ref a1), .val (.int (28 : Int32)), .val (.long q2), .second] [(.long q2), (.int w24)])) _
    refine XS.bipush X0.here hx rfl (hb hby d5_74) ?_
    show Steps p.tables e below (s₁.setTop (mkF m 76 #[.val (.ref a1), .val (.int (28 : Int32)), .val (.long q2), .second] [(.int (16 : Int32)), (.long q2), (.int w24)])) _
    refine XS.lushr X0.here hx rfl (hb hby d5_76) rfl ?_
    show Steps p.tables e below (s₁.setTop (mkF m 77 #[.val (.ref a1), .val (.int (28 : Int32)), .val (.long q2), .second] [(.long ((q2.toUInt64 >>> ((16 : Int32) &&& 0x3f).toInt64.toUInt64).toInt64)), (.int w24)])) _
    refine XS.l2i X0.here hx rfl (hb hby d5_77) rfl ?_
    show Steps p.tables e below (s₁.setTop (mkF m 78 #[.val (.ref a1), .val (.int (28 : Int32)), .val (.long q2), .second] [(.int (((q2.toUInt64 >>> ((16 : Int32) &&& 0x3f).toInt64.toUInt64).toInt64).toInt32)), (.int w24)])) _
    refine XS.i2b X0.here hx rfl (hb hby d5_78) rfl ?_
    show Steps p.tables e below (s₁.setTop (mkF m 79 #[.val (.ref a1), .val (.int (28 : Int32)), .val (.long q2), .second] [(.int ((((q2.toUInt64 >>> ((16 : Int32) &&& 0x3f).toInt64.toUInt64).toInt64).toInt32).toInt8.toInt32)), (.int w24)])) _
    refine XS.icmpNo X0.here hx rfl (hb hby d5_79) rfl (teq P46).2 ?_
    show Steps p.tables e below (s₁.setTop (mkF m 82 #[.val (.ref a1), .val (.int (28 : Int32)), .val (.long q2), .second] [])) _
    refine XS.aloadN X0.here hx rfl (hb hby d5_82) rfl rfl ?_
    show Steps p.tables e below (s₁.setTop (mkF m 83 #[.val (.ref a1), .val (.int (28 : Int32)), .val (.long q2), .second] [(.ref a1)])) _
    refine XS.iloadN X0.here hx rfl (hb hby d5_83) rfl ?_
    show Steps p.tables e below (s₁.setTop (mkF m 84 #[.val (.ref a1), .val (.int (28 : Int32)), .val (.long q2), .second] [(.int (28 : Int32)), (.ref a1)])) _
    refine XS.bipush X0.here hx rfl (hb hby d5_84) ?_
    show Steps p.tables e below (s₁.setTop (mkF m 86 #[.val (.ref a1), .val (.int (28 : Int32)), .val (.long q2), .second] [(.int (6 : Int32)), (.int (28 : Int32)), (.ref a1)])) _
    refine XS.iadd X0.here hx rfl (hb hby d5_86) rfl ?_
    show Steps p.tables e below (s₁.setTop (mkF m 87 #[.val (.ref a1), .val (.int (28 : Int32)), .val (.long q2), .second] [(.int (34 : Int32)), (.ref a1)])) _
    refine X0.baloadBytes hx (j := (34 : Int32)) (v := (.int w25)) (by rw [e0]; exact Ar47.1) (State.isArrayOf_alike hZ.alike Ar47.2.1) Ar47.2.2 hin47 hat47 (g := (mkF m 87 #[.val (.ref a1), .val (.int (28 : Int32)), .val (.long q2), .second] [(.int (34 : Int32)), (.ref a1)])) rfl rfl (hb hby d5_87) _ ?_
    show Steps p.tables e below (s₁.setTop (mkF m 88 #[.val (.ref a1), .val (.int (28 : Int32)), .val (.long q2), .second] [(.int w25)])) _
    refine XS.lloadN X0.here hx rfl (hb hby d5_88) rfl ?_
    show Steps p.tables e below (s₁.setTop (mkF m 89 #[.val (.ref a1), .val (.int (28 : Int32)), .val (.long q2), .second] [(.long q2), (.int w25)])) _
    refine XS.bipush X0.here hx rfl (hb hby d5_89) ?_
    show Steps p.tables e below (s₁.setTop (mkF m 91 #[.val (.ref a1), .val (.int (28 : Int32)), .val (.long q2), .second] [(.int (8 : Int32)), (.long q2), (.int w25)])) _
    refine XS.lushr X0.here hx rfl (hb hby d5_91) rfl ?_
    show Steps p.tables e below (s₁.setTop (mkF m 92 #[.val (.ref a1), .val (.int (28 : Int32)), .val (.long q2), .second] [(.long ((q2.toUInt64 >>> ((8 : Int32) &&& 0x3f).toInt64.toUInt64).toInt64)), (.int w25)])) _
    refine XS.l2i X0.here hx rfl (hb hby d5_92) rfl ?_
    show Steps p.tables e below (s₁.setTop (mkF m 93 #[.val (.ref a1), .val (.int (28 : Int32)), .val (.long q2), .second] [(.int (((q2.toUInt64 >>> ((8 : Int32) &&& 0x3f).toInt64.toUInt64).toInt64).toInt32)), (.int w25)])) _
    refine XS.i2b X0.here hx rfl (hb hby d5_93) rfl ?_
    show Steps p.tables e below (s₁.setTop (mkF m 94 #[.val (.ref a1), .val (.int (28 : Int32)), .val (.long q2), .second] [(.int ((((q2.toUInt64 >>> ((8 : Int32) &&& 0x3f).toInt64.toUInt64).toInt64).toInt32).toInt8.toInt32)), (.int w25)])) _
    refine XS.icmpNo X0.here hx rfl (hb hby d5_94) rfl (teq P48).2 ?_
    show Steps p.tables e below (s₁.setTop (mkF m 97 #[.val (.ref a1), .val (.int (28 : Int32)), .val (.long q2), .second] [])) _
    refine XS.aloadN X0.here hx rfl (hb hby d5_97) rfl rfl ?_
    show Steps p.tables e below (s₁.setTop (mkF m 98 #[.val (.ref a1), .val (.int (28 : Int32)), .val (.long q2), .second] [(.ref a1)])) _
    refine XS.iloadN X0.here hx rfl (hb hby d5_98) rfl ?_
    show Steps p.tables e below (s₁.setTop (mkF m 99 #[.val (.ref a1), .val (.int (28 : Int32)), .val (.long q2), .second] [(.int (28 : Int32)), (.ref a1)])) _
    refine XS.bipush X0.here hx rfl (hb hby d5_99) ?_
    show Steps p.tables e below (s₁.setTop (mkF m 101 #[.val (.ref a1), .val (.int (28 : Int32)), .val (.long q2), .second] [(.int (7 : Int32)), (.int (28 : Int32)), (.ref a1)])) _
    refine XS.iadd X0.here hx rfl (hb hby d5_101) rfl ?_
    show Steps p.tables e below (s₁.setTop (mkF m 102 #[.val (.ref a1), .val (.int (28 : Int32)), .val (.long q2), .second] [(.int (35 : Int32)), (.ref a1)])) _
    refine X0.baloadBytes hx (j := (35 : Int32)) (v := (.int w26)) (by rw [e0]; exact Ar49.1) (State.isArrayOf_alike hZ.alike Ar49.2.1) Ar49.2.2 hin49 hat49 (g := (mkF m 102 #[.val (.ref a1), .val (.int (28 : Int32)), .val (.long q2), .second] [(.int (35 : Int32)), (.ref a1)])) rfl rfl (hb hby d5_102) _ ?_
    show Steps p.tables e below (s₁.setTop (mkF m 103 #[.val (.ref a1), .val (.int (28 : Int32)), .val (.long q2), .second] [(.int w26)])) _
    refine XS.lloadN X0.here hx rfl (hb hby d5_103) rfl ?_
    show Steps p.tables e below (s₁.setTop (mkF m 104 #[.val (.ref a1), .val (.int (28 : Int32)), .val (.long q2), .second] [(.long q2), (.int w26)])) _
    refine XS.l2i X0.here hx rfl (hb hby d5_104) rfl ?_
    show Steps p.tables e below (s₁.setTop (mkF m 105 #[.val (.ref a1), .val (.int (28 : Int32)), .val (.long q2), .second] [(.int (q2.toInt32)), (.int w26)])) _
    refine XS.i2b X0.here hx rfl (hb hby d5_105) rfl ?_
    show Steps p.tables e below (s₁.setTop (mkF m 106 #[.val (.ref a1), .val (.int (28 : Int32)), .val (.long q2), .second] [(.int ((q2.toInt32).toInt8.toInt32)), (.int w26)])) _
    refine XS.icmpNo X0.here hx rfl (hb hby d5_106) rfl (teq P50).2 ?_
    show Steps p.tables e below (s₁.setTop (mkF m 109 #[.val (.ref a1), .val (.int (28 : Int32)), .val (.long q2), .second] [])) _
    refine XS.iconst X0.here hx rfl (hb hby d5_109) ?_
    show Steps p.tables e below (s₁.setTop (mkF m 110 #[.val (.ref a1), .val (.int (28 : Int32)), .val (.long q2), .second] [(.int (1 : Int32))])) _
    refine XS.goto X0.here hx rfl (pc0 := 110) (pc' := 114) rfl (hb hby d5_110) (by decide) (by decide) ?_
    show Steps p.tables e below (s₁.setTop (mkF m 114 #[.val (.ref a1), .val (.int (28 : Int32)), .val (.long q2), .second] [(.int (1 : Int32))])) _
    exact retN X0 hx (t := .boolean) Bd.returns (by simp) (hb hby d5_114) hr
  · show Q5_3 Z a1 q2 k_a1 w3 w4 w5 w6 w7 w8 w9 w10 w11 w12 w13 w14 w15 w16 w17 w18 w19 w20 w21 w22 w23 w24 w25 w26 w27 w28 w29 w30 w31 w32 w33 w34 h0 n0 _ s₁.heap _
    rw [e0]
    exact ⟨rfl, N0, rfl⟩
def Q5_4 (Z : State) (a1 : Addr) (q2 : Int64) (k_a1 : ClassId) (w3 : Int32) (w4 : Int32) (w5 : Int32) (w6 : Int32) (w7 : Int32) (w8 : Int32) (w9 : Int32) (w10 : Int32) (w11 : Int32) (w12 : Int32) (w13 : Int32) (w14 : Int32) (w15 : Int32) (w16 : Int32) (w17 : Int32) (w18 : Int32) (w19 : Int32) (w20 : Int32) (w21 : Int32) (w22 : Int32) (w23 : Int32) (w24 : Int32) (w25 : Int32) (w26 : Int32) (w27 : Int32) (w28 : Int32) (w29 : Int32) (w30 : Int32) (w31 : Int32) (w32 : Int32) (w33 : Int32) (w34 : Int32) (h0 : Heap) (n0 : Nat) (v : Option Value) (h : Heap) (L : List Loc) : Prop := v = some (.int (1 : Int32)) ∧ Fr n0 L ∧ h = h0
set_option maxRecDepth 65536 in
set_option maxHeartbeats 40000000 in
theorem rm5_4 (l : Launch) (Z : State) (a0 : Array Value) (hw : ∀ d ∈ tables_1, d.before a0 Z = true) (ws : List Jvm.Cond) (a1 : Addr) (q2 : Int64) (k_a1 : ClassId) (w3 : Int32) (w4 : Int32) (w5 : Int32) (w6 : Int32) (w7 : Int32) (w8 : Int32) (w9 : Int32) (w10 : Int32) (w11 : Int32) (w12 : Int32) (w13 : Int32) (w14 : Int32) (w15 : Int32) (w16 : Int32) (w17 : Int32) (w18 : Int32) (w19 : Int32) (w20 : Int32) (w21 : Int32) (w22 : Int32) (w23 : Int32) (w24 : Int32) (w25 : Int32) (w26 : Int32) (w27 : Int32) (w28 : Int32) (w29 : Int32) (w30 : Int32) (w31 : Int32) (w32 : Int32) (w33 : Int32) (w34 : Int32) (h0 : Heap) (n0 : Nat) (Z0 : n0 ≤ h0.size) (V_a1 : Arv Z h0 a1 k_a1 .byte (44 : Int32) [(.int (48 : Int32)), (.int (42 : Int32)), (.int (48 : Int32)), (.int (5 : Int32)), (.int (6 : Int32)), (.int (3 : Int32)), (.int (43 : Int32)), (.int (101 : Int32)), (.int (112 : Int32)), (.int (3 : Int32)), (.int (33 : Int32)), (.int (0 : Int32)), (.int w3), (.int w4), (.int w5), (.int w6), (.int w7), (.int w8), (.int w9), (.int w10), (.int w11), (.int w12), (.int w13), (.int w14), (.int w15), (.int w16), (.int w17), (.int w18), (.int w19), (.int w20), (.int w21), (.int w22), (.int w23), (.int w24), (.int w25), (.int w26), (.int w27), (.int w28), (.int w29), (.int w30), (.int w31), (.int w32), (.int w33), (.int w34)] (.int (0 : Int32))) (P36 : w27 = ((((q2.toUInt64 >>> ((56 : Int32) &&& 0x3f).toInt64.toUInt64).toInt64).toInt32).toInt8.toInt32)) (P38 : w28 = ((((q2.toUInt64 >>> ((48 : Int32) &&& 0x3f).toInt64.toUInt64).toInt64).toInt32).toInt8.toInt32)) (P40 : w29 = ((((q2.toUInt64 >>> ((40 : Int32) &&& 0x3f).toInt64.toUInt64).toInt64).toInt32).toInt8.toInt32)) (P42 : w30 = ((((q2.toUInt64 >>> ((32 : Int32) &&& 0x3f).toInt64.toUInt64).toInt64).toInt32).toInt8.toInt32)) (P44 : w31 = ((((q2.toUInt64 >>> ((24 : Int32) &&& 0x3f).toInt64.toUInt64).toInt64).toInt32).toInt8.toInt32)) (P46 : w32 = ((((q2.toUInt64 >>> ((16 : Int32) &&& 0x3f).toInt64.toUInt64).toInt64).toInt32).toInt8.toInt32)) (P48 : w33 = ((((q2.toUInt64 >>> ((8 : Int32) &&& 0x3f).toInt64.toUInt64).toInt64).toInt32).toInt8.toInt32)) (P50 : w34 = ((q2.toInt32).toInt8.toInt32)) :
    MetFree l (⟨"com/example/lasting_names/lastingnames/Ed25519SubjectPublicKeyInfoPinLaw", "same", "([BIJ)Z"⟩ : MethodName) (head1 (Jvm.Cond.code (⟨"com/example/lasting_names/lastingnames/Ed25519SubjectPublicKeyInfoPinLaw", "same", "([BIJ)Z"⟩ : MethodName) method_3_code 4 (some .boolean) :: ws) ({ frames := 0, cells := 0, slots := 0, locals := 0 } : Room)) (fun a U => a = #[(.ref a1), (.int (36 : Int32)), (.long q2)] ∧ Z.Warmed39 U.vm ∧ U.heap = h0) (fun _ _ _ _ _ => True) (fun _ U o U' => ∃ v L, o = .returned v ∧ Q5_4 Z a1 q2 k_a1 w3 w4 w5 w6 w7 w8 w9 w10 w11 w12 w13 w14 w15 w16 w17 w18 w19 w20 w21 w22 w23 w24 w25 w26 w27 w28 w29 w30 w31 w32 w33 w34 h0 n0 v U'.heap L ∧ FrameEnd U o U' L ({ frames := 0, cells := 0, slots := 0, locals := 0 } : Room).cells ({ frames := 0, cells := 0, slots := 0, locals := 0 } : Room).slots) := by
  refine MetFree.of_bodySF (plainFor_of_name pn_5) hisR ?_
  intro p e s m args below meth c s₁ Bd hml0 hP hK
  obtain ⟨rfl, hZ, hh⟩ := hP
  have hx := Bd.exec
  have hby := Bd.bytes
  have hml : c.maxLocals = 4 := hml0
  have hown : s.vm.findClass "com/example/lasting_names/lastingnames/Ed25519SubjectPublicKeyInfoPinLaw" = some m.cls := findClass_of_methodNamed Bd.named
  have hnm := (name_of_methodNamed Bd.named Bd.method).1
  have X0 : Stand p l e ({ frames := 0, cells := 0, slots := 0, locals := 0 } : Room) s m #[(.ref a1), (.int (36 : Int32)), (.long q2)] below meth c s₁ [] 0 0 := Stand.of_body Bd
  have e0 : s₁.heap = h0 := by rw [← hh, Bd.state]; rfl
  have N0 := Fr.nil n0
  have pre0 : ∀ t, Steps p.tables e below (s₁.setTop (mkF m 0 #[.val (.ref a1), .val (.int (36 : Int32)), .val (.long q2), .second] [])) t → Steps p.tables e below (s₁.setTop (entryFrame m #[(.ref a1), (.int (36 : Int32)), (.long q2)] 4)) t := fun t k => castTop (ef_5_RIJ m a1 (36 : Int32) q2) k
  obtain ⟨cl35, Ar35, q35, S35, N_35, H35, G35⟩ := id V_a1
  have hin35 : ¬ ((36 : Int32) < 0 ∨ cl35.slots.size ≤ ((36 : Int32)).toNatClampNeg) := inb_of S35 ⟨by decide, (by decide : (36 : Int32) < (44 : Int32))⟩
  have hat35 : cl35.slots[((36 : Int32)).toNatClampNeg]? = some (.int w27) := Has.at H35 hin35 rfl
  obtain ⟨cl37, Ar37, q37, S37, N_37, H37, G37⟩ := id V_a1
  have hin37 : ¬ ((37 : Int32) < 0 ∨ cl37.slots.size ≤ ((37 : Int32)).toNatClampNeg) := inb_of S37 ⟨by decide, (by decide : (37 : Int32) < (44 : Int32))⟩
  have hat37 : cl37.slots[((37 : Int32)).toNatClampNeg]? = some (.int w28) := Has.at H37 hin37 rfl
  obtain ⟨cl39, Ar39, q39, S39, N_39, H39, G39⟩ := id V_a1
  have hin39 : ¬ ((38 : Int32) < 0 ∨ cl39.slots.size ≤ ((38 : Int32)).toNatClampNeg) := inb_of S39 ⟨by decide, (by decide : (38 : Int32) < (44 : Int32))⟩
  have hat39 : cl39.slots[((38 : Int32)).toNatClampNeg]? = some (.int w29) := Has.at H39 hin39 rfl
  obtain ⟨cl41, Ar41, q41, S41, N_41, H41, G41⟩ := id V_a1
  have hin41 : ¬ ((39 : Int32) < 0 ∨ cl41.slots.size ≤ ((39 : Int32)).toNatClampNeg) := inb_of S41 ⟨by decide, (by decide : (39 : Int32) < (44 : Int32))⟩
  have hat41 : cl41.slots[((39 : Int32)).toNatClampNeg]? = some (.int w30) := Has.at H41 hin41 rfl
  obtain ⟨cl43, Ar43, q43, S43, N_43, H43, G43⟩ := id V_a1
  have hin43 : ¬ ((40 : Int32) < 0 ∨ cl43.slots.size ≤ ((40 : Int32)).toNatClampNeg) := inb_of S43 ⟨by decide, (by decide : (40 : Int32) < (44 : Int32))⟩
  have hat43 : cl43.slots[((40 : Int32)).toNatClampNeg]? = some (.int w31) := Has.at H43 hin43 rfl
  obtain ⟨cl45, Ar45, q45, S45, N_45, H45, G45⟩ := id V_a1
  have hin45 : ¬ ((41 : Int32) < 0 ∨ cl45.slots.size ≤ ((41 : Int32)).toNatClampNeg) := inb_of S45 ⟨by decide, (by decide : (41 : Int32) < (44 : Int32))⟩
  have hat45 : cl45.slots[((41 : Int32)).toNatClampNeg]? = some (.int w32) := Has.at H45 hin45 rfl
  obtain ⟨cl47, Ar47, q47, S47, N_47, H47, G47⟩ := id V_a1
  have hin47 : ¬ ((42 : Int32) < 0 ∨ cl47.slots.size ≤ ((42 : Int32)).toNatClampNeg) := inb_of S47 ⟨by decide, (by decide : (42 : Int32) < (44 : Int32))⟩
  have hat47 : cl47.slots[((42 : Int32)).toNatClampNeg]? = some (.int w33) := Has.at H47 hin47 rfl
  obtain ⟨cl49, Ar49, q49, S49, N_49, H49, G49⟩ := id V_a1
  have hin49 : ¬ ((43 : Int32) < 0 ∨ cl49.slots.size ≤ ((43 : Int32)).toNatClampNeg) := inb_of S49 ⟨by decide, (by decide : (43 : Int32) < (44 : Int32))⟩
  have hat49 : cl49.slots[((43 : Int32)).toNatClampNeg]? = some (.int w34) := Has.at H49 hin49 rfl
  obtain ⟨fs, hr, hrun, hended, hW, hsame⟩ := X0.leave (v := some (.int (1 : Int32))) (fun h => by rw [Bd.returns] at h; cases h)
  refine ⟨_, _, pre0 _ ?_, hrun, hended, _, _, rfl, ?_, ⟨_, rfl⟩, hW, hsame.mono (by decide) (by decide)⟩
  · show Steps p.tables e below (s₁.setTop (mkF m 0 #[.val (.ref a1), .val (.int (36 : Int32)), .val (.long q2), .second] [])) _
    refine XS.aloadN X0.here hx rfl (hb hby d5_0) rfl rfl ?_
    show Steps p.tables e below (s₁.setTop (mkF m 1 #[.val (.ref a1), .val (.int (36 : Int32)), .val (.long q2), .second] [(.ref a1)])) _
    refine XS.iloadN X0.here hx rfl (hb hby d5_1) rfl ?_
    show Steps p.tables e below (s₁.setTop (mkF m 2 #[.val (.ref a1), .val (.int (36 : Int32)), .val (.long q2), .second] [(.int (36 : Int32)), (.ref a1)])) _
    refine X0.baloadBytes hx (j := (36 : Int32)) (v := (.int w27)) (by rw [e0]; exact Ar35.1) (State.isArrayOf_alike hZ.alike Ar35.2.1) Ar35.2.2 hin35 hat35 (g := (mkF m 2 #[.val (.ref a1), .val (.int (36 : Int32)), .val (.long q2), .second] [(.int (36 : Int32)), (.ref a1)])) rfl rfl (hb hby d5_2) _ ?_
    show Steps p.tables e below (s₁.setTop (mkF m 3 #[.val (.ref a1), .val (.int (36 : Int32)), .val (.long q2), .second] [(.int w27)])) _
    refine XS.lloadN X0.here hx rfl (hb hby d5_3) rfl ?_
    show Steps p.tables e below (s₁.setTop (mkF m 4 #[.val (.ref a1), .val (.int (36 : Int32)), .val (.long q2), .second] [(.long q2), (.int w27)])) _
    refine XS.bipush X0.here hx rfl (hb hby d5_4) ?_
    show Steps p.tables e below (s₁.setTop (mkF m 6 #[.val (.ref a1), .val (.int (36 : Int32)), .val (.long q2), .second] [(.int (56 : Int32)), (.long q2), (.int w27)])) _
    refine XS.lushr X0.here hx rfl (hb hby d5_6) rfl ?_
    show Steps p.tables e below (s₁.setTop (mkF m 7 #[.val (.ref a1), .val (.int (36 : Int32)), .val (.long q2), .second] [(.long ((q2.toUInt64 >>> ((56 : Int32) &&& 0x3f).toInt64.toUInt64).toInt64)), (.int w27)])) _
    refine XS.l2i X0.here hx rfl (hb hby d5_7) rfl ?_
    show Steps p.tables e below (s₁.setTop (mkF m 8 #[.val (.ref a1), .val (.int (36 : Int32)), .val (.long q2), .second] [(.int (((q2.toUInt64 >>> ((56 : Int32) &&& 0x3f).toInt64.toUInt64).toInt64).toInt32)), (.int w27)])) _
    refine XS.i2b X0.here hx rfl (hb hby d5_8) rfl ?_
    show Steps p.tables e below (s₁.setTop (mkF m 9 #[.val (.ref a1), .val (.int (36 : Int32)), .val (.long q2), .second] [(.int ((((q2.toUInt64 >>> ((56 : Int32) &&& 0x3f).toInt64.toUInt64).toInt64).toInt32).toInt8.toInt32)), (.int w27)])) _
    refine XS.icmpNo X0.here hx rfl (hb hby d5_9) rfl (teq P36).2 ?_
    show Steps p.tables e below (s₁.setTop (mkF m 12 #[.val (.ref a1), .val (.int (36 : Int32)), .val (.long q2), .second] [])) _
    refine XS.aloadN X0.here hx rfl (hb hby d5_12) rfl rfl ?_
    show Steps p.tables e below (s₁.setTop (mkF m 13 #[.val (.ref a1), .val (.int (36 : Int32)), .val (.long q2), .second] [(.ref a1)])) _
    refine XS.iloadN X0.here hx rfl (hb hby d5_13) rfl ?_
    show Steps p.tables e below (s₁.setTop (mkF m 14 #[.val (.ref a1), .val (.int (36 : Int32)), .val (.long q2), .second] [(.int (36 : Int32)), (.ref a1)])) _
    refine XS.iconst X0.here hx rfl (hb hby d5_14) ?_
    show Steps p.tables e below (s₁.setTop (mkF m 15 #[.val (.ref a1), .val (.int (36 : Int32)), .val (.long q2), .second] [(.int (1 : Int32)), (.int (36 : Int32)), (.ref a1)])) _
    refine XS.iadd X0.here hx rfl (hb hby d5_15) rfl ?_
    show Steps p.tables e below (s₁.setTop (mkF m 16 #[.val (.ref a1), .val (.int (36 : Int32)), .val (.long q2), .second] [(.int (37 : Int32)), (.ref a1)])) _
    refine X0.baloadBytes hx (j := (37 : Int32)) (v := (.int w28)) (by rw [e0]; exact Ar37.1) (State.isArrayOf_alike hZ.alike Ar37.2.1) Ar37.2.2 hin37 hat37 (g := (mkF m 16 #[.val (.ref a1), .val (.int (36 : Int32)), .val (.long q2), .second] [(.int (37 : Int32)), (.ref a1)])) rfl rfl (hb hby d5_16) _ ?_
    show Steps p.tables e below (s₁.setTop (mkF m 17 #[.val (.ref a1), .val (.int (36 : Int32)), .val (.long q2), .second] [(.int w28)])) _
    refine XS.lloadN X0.here hx rfl (hb hby d5_17) rfl ?_
    show Steps p.tables e below (s₁.setTop (mkF m 18 #[.val (.ref a1), .val (.int (36 : Int32)), .val (.long q2), .second] [(.long q2), (.int w28)])) _
    refine XS.bipush X0.here hx rfl (hb hby d5_18) ?_
    show Steps p.tables e below (s₁.setTop (mkF m 20 #[.val (.ref a1), .val (.int (36 : Int32)), .val (.long q2), .second] [(.int (48 : Int32)), (.long q2), (.int w28)])) _
    refine XS.lushr X0.here hx rfl (hb hby d5_20) rfl ?_
    show Steps p.tables e below (s₁.setTop (mkF m 21 #[.val (.ref a1), .val (.int (36 : Int32)), .val (.long q2), .second] [(.long ((q2.toUInt64 >>> ((48 : Int32) &&& 0x3f).toInt64.toUInt64).toInt64)), (.int w28)])) _
    refine XS.l2i X0.here hx rfl (hb hby d5_21) rfl ?_
    show Steps p.tables e below (s₁.setTop (mkF m 22 #[.val (.ref a1), .val (.int (36 : Int32)), .val (.long q2), .second] [(.int (((q2.toUInt64 >>> ((48 : Int32) &&& 0x3f).toInt64.toUInt64).toInt64).toInt32)), (.int w28)])) _
    refine XS.i2b X0.here hx rfl (hb hby d5_22) rfl ?_
    show Steps p.tables e below (s₁.setTop (mkF m 23 #[.val (.ref a1), .val (.int (36 : Int32)), .val (.long q2), .second] [(.int ((((q2.toUInt64 >>> ((48 : Int32) &&& 0x3f).toInt64.toUInt64).toInt64).toInt32).toInt8.toInt32)), (.int w28)])) _
    refine XS.icmpNo X0.here hx rfl (hb hby d5_23) rfl (teq P38).2 ?_
    show Steps p.tables e below (s₁.setTop (mkF m 26 #[.val (.ref a1), .val (.int (36 : Int32)), .val (.long q2), .second] [])) _
    refine XS.aloadN X0.here hx rfl (hb hby d5_26) rfl rfl ?_
    show Steps p.tables e below (s₁.setTop (mkF m 27 #[.val (.ref a1), .val (.int (36 : Int32)), .val (.long q2), .second] [(.ref a1)])) _
    refine XS.iloadN X0.here hx rfl (hb hby d5_27) rfl ?_
    show Steps p.tables e below (s₁.setTop (mkF m 28 #[.val (.ref a1), .val (.int (36 : Int32)), .val (.long q2), .second] [(.int (36 : Int32)), (.ref a1)])) _
    refine XS.iconst X0.here hx rfl (hb hby d5_28) ?_
    show Steps p.tables e below (s₁.setTop (mkF m 29 #[.val (.ref a1), .val (.int (36 : Int32)), .val (.long q2), .second] [(.int (2 : Int32)), (.int (36 : Int32)), (.ref a1)])) _
    refine XS.iadd X0.here hx rfl (hb hby d5_29) rfl ?_
    show Steps p.tables e below (s₁.setTop (mkF m 30 #[.val (.ref a1), .val (.int (36 : Int32)), .val (.long q2), .second] [(.int (38 : Int32)), (.ref a1)])) _
    refine X0.baloadBytes hx (j := (38 : Int32)) (v := (.int w29)) (by rw [e0]; exact Ar39.1) (State.isArrayOf_alike hZ.alike Ar39.2.1) Ar39.2.2 hin39 hat39 (g := (mkF m 30 #[.val (.ref a1), .val (.int (36 : Int32)), .val (.long q2), .second] [(.int (38 : Int32)), (.ref a1)])) rfl rfl (hb hby d5_30) _ ?_
    show Steps p.tables e below (s₁.setTop (mkF m 31 #[.val (.ref a1), .val (.int (36 : Int32)), .val (.long q2), .second] [(.int w29)])) _
    refine XS.lloadN X0.here hx rfl (hb hby d5_31) rfl ?_
    show Steps p.tables e below (s₁.setTop (mkF m 32 #[.val (.ref a1), .val (.int (36 : Int32)), .val (.long q2), .second] [(.long q2), (.int w29)])) _
    refine XS.bipush X0.here hx rfl (hb hby d5_32) ?_
    show Steps p.tables e below (s₁.setTop (mkF m 34 #[.val (.ref a1), .val (.int (36 : Int32)), .val (.long q2), .second] [(.int (40 : Int32)), (.long q2), (.int w29)])) _
    refine XS.lushr X0.here hx rfl (hb hby d5_34) rfl ?_
    show Steps p.tables e below (s₁.setTop (mkF m 35 #[.val (.ref a1), .val (.int (36 : Int32)), .val (.long q2), .second] [(.long ((q2.toUInt64 >>> ((40 : Int32) &&& 0x3f).toInt64.toUInt64).toInt64)), (.int w29)])) _
    refine XS.l2i X0.here hx rfl (hb hby d5_35) rfl ?_
    show Steps p.tables e below (s₁.setTop (mkF m 36 #[.val (.ref a1), .val (.int (36 : Int32)), .val (.long q2), .second] [(.int (((q2.toUInt64 >>> ((40 : Int32) &&& 0x3f).toInt64.toUInt64).toInt64).toInt32)), (.int w29)])) _
    refine XS.i2b X0.here hx rfl (hb hby d5_36) rfl ?_
    show Steps p.tables e below (s₁.setTop (mkF m 37 #[.val (.ref a1), .val (.int (36 : Int32)), .val (.long q2), .second] [(.int ((((q2.toUInt64 >>> ((40 : Int32) &&& 0x3f).toInt64.toUInt64).toInt64).toInt32).toInt8.toInt32)), (.int w29)])) _
    refine XS.icmpNo X0.here hx rfl (hb hby d5_37) rfl (teq P40).2 ?_
    show Steps p.tables e below (s₁.setTop (mkF m 40 #[.val (.ref a1), .val (.int (36 : Int32)), .val (.long q2), .second] [])) _
    refine XS.aloadN X0.here hx rfl (hb hby d5_40) rfl rfl ?_
    show Steps p.tables e below (s₁.setTop (mkF m 41 #[.val (.ref a1), .val (.int (36 : Int32)), .val (.long q2), .second] [(.ref a1)])) _
    refine XS.iloadN X0.here hx rfl (hb hby d5_41) rfl ?_
    show Steps p.tables e below (s₁.setTop (mkF m 42 #[.val (.ref a1), .val (.int (36 : Int32)), .val (.long q2), .second] [(.int (36 : Int32)), (.ref a1)])) _
    refine XS.iconst X0.here hx rfl (hb hby d5_42) ?_
    show Steps p.tables e below (s₁.setTop (mkF m 43 #[.val (.ref a1), .val (.int (36 : Int32)), .val (.long q2), .second] [(.int (3 : Int32)), (.int (36 : Int32)), (.ref a1)])) _
    refine XS.iadd X0.here hx rfl (hb hby d5_43) rfl ?_
    show Steps p.tables e below (s₁.setTop (mkF m 44 #[.val (.ref a1), .val (.int (36 : Int32)), .val (.long q2), .second] [(.int (39 : Int32)), (.ref a1)])) _
    refine X0.baloadBytes hx (j := (39 : Int32)) (v := (.int w30)) (by rw [e0]; exact Ar41.1) (State.isArrayOf_alike hZ.alike Ar41.2.1) Ar41.2.2 hin41 hat41 (g := (mkF m 44 #[.val (.ref a1), .val (.int (36 : Int32)), .val (.long q2), .second] [(.int (39 : Int32)), (.ref a1)])) rfl rfl (hb hby d5_44) _ ?_
    show Steps p.tables e below (s₁.setTop (mkF m 45 #[.val (.ref a1), .val (.int (36 : Int32)), .val (.long q2), .second] [(.int w30)])) _
    refine XS.lloadN X0.here hx rfl (hb hby d5_45) rfl ?_
    show Steps p.tables e below (s₁.setTop (mkF m 46 #[.val (.ref a1), .val (.int (36 : Int32)), .val (.long q2), .second] [(.long q2), (.int w30)])) _
    refine XS.bipush X0.here hx rfl (hb hby d5_46) ?_
    show Steps p.tables e below (s₁.setTop (mkF m 48 #[.val (.ref a1), .val (.int (36 : Int32)), .val (.long q2), .second] [(.int (32 : Int32)), (.long q2), (.int w30)])) _
    refine XS.lushr X0.here hx rfl (hb hby d5_48) rfl ?_
    show Steps p.tables e below (s₁.setTop (mkF m 49 #[.val (.ref a1), .val (.int (36 : Int32)), .val (.long q2), .second] [(.long ((q2.toUInt64 >>> ((32 : Int32) &&& 0x3f).toInt64.toUInt64).toInt64)), (.int w30)])) _
    refine XS.l2i X0.here hx rfl (hb hby d5_49) rfl ?_
    show Steps p.tables e below (s₁.setTop (mkF m 50 #[.val (.ref a1), .val (.int (36 : Int32)), .val (.long q2), .second] [(.int (((q2.toUInt64 >>> ((32 : Int32) &&& 0x3f).toInt64.toUInt64).toInt64).toInt32)), (.int w30)])) _
    refine XS.i2b X0.here hx rfl (hb hby d5_50) rfl ?_
    show Steps p.tables e below (s₁.setTop (mkF m 51 #[.val (.ref a1), .val (.int (36 : Int32)), .val (.long q2), .second] [(.int ((((q2.toUInt64 >>> ((32 : Int32) &&& 0x3f).toInt64.toUInt64).toInt64).toInt32).toInt8.toInt32)), (.int w30)])) _
    refine XS.icmpNo X0.here hx rfl (hb hby d5_51) rfl (teq P42).2 ?_
    show Steps p.tables e below (s₁.setTop (mkF m 54 #[.val (.ref a1), .val (.int (36 : Int32)), .val (.long q2), .second] [])) _
    refine XS.aloadN X0.here hx rfl (hb hby d5_54) rfl rfl ?_
    show Steps p.tables e below (s₁.setTop (mkF m 55 #[.val (.ref a1), .val (.int (36 : Int32)), .val (.long q2), .second] [(.ref a1)])) _
    refine XS.iloadN X0.here hx rfl (hb hby d5_55) rfl ?_
    show Steps p.tables e below (s₁.setTop (mkF m 56 #[.val (.ref a1), .val (.int (36 : Int32)), .val (.long q2), .second] [(.int (36 : Int32)), (.ref a1)])) _
    refine XS.iconst X0.here hx rfl (hb hby d5_56) ?_
    show Steps p.tables e below (s₁.setTop (mkF m 57 #[.val (.ref a1), .val (.int (36 : Int32)), .val (.long q2), .second] [(.int (4 : Int32)), (.int (36 : Int32)), (.ref a1)])) _
    refine XS.iadd X0.here hx rfl (hb hby d5_57) rfl ?_
    show Steps p.tables e below (s₁.setTop (mkF m 58 #[.val (.ref a1), .val (.int (36 : Int32)), .val (.long q2), .second] [(.int (40 : Int32)), (.ref a1)])) _
    refine X0.baloadBytes hx (j := (40 : Int32)) (v := (.int w31)) (by rw [e0]; exact Ar43.1) (State.isArrayOf_alike hZ.alike Ar43.2.1) Ar43.2.2 hin43 hat43 (g := (mkF m 58 #[.val (.ref a1), .val (.int (36 : Int32)), .val (.long q2), .second] [(.int (40 : Int32)), (.ref a1)])) rfl rfl (hb hby d5_58) _ ?_
    show Steps p.tables e below (s₁.setTop (mkF m 59 #[.val (.ref a1), .val (.int (36 : Int32)), .val (.long q2), .second] [(.int w31)])) _
    refine XS.lloadN X0.here hx rfl (hb hby d5_59) rfl ?_
    show Steps p.tables e below (s₁.setTop (mkF m 60 #[.val (.ref a1), .val (.int (36 : Int32)), .val (.long q2), .second] [(.long q2), (.int w31)])) _
    refine XS.bipush X0.here hx rfl (hb hby d5_60) ?_
    show Steps p.tables e below (s₁.setTop (mkF m 62 #[.val (.ref a1), .val (.int (36 : Int32)), .val (.long q2), .second] [(.int (24 : Int32)), (.long q2), (.int w31)])) _
    refine XS.lushr X0.here hx rfl (hb hby d5_62) rfl ?_
    show Steps p.tables e below (s₁.setTop (mkF m 63 #[.val (.ref a1), .val (.int (36 : Int32)), .val (.long q2), .second] [(.long ((q2.toUInt64 >>> ((24 : Int32) &&& 0x3f).toInt64.toUInt64).toInt64)), (.int w31)])) _
    refine XS.l2i X0.here hx rfl (hb hby d5_63) rfl ?_
    show Steps p.tables e below (s₁.setTop (mkF m 64 #[.val (.ref a1), .val (.int (36 : Int32)), .val (.long q2), .second] [(.int (((q2.toUInt64 >>> ((24 : Int32) &&& 0x3f).toInt64.toUInt64).toInt64).toInt32)), (.int w31)])) _
    refine XS.i2b X0.here hx rfl (hb hby d5_64) rfl ?_
    show Steps p.tables e below (s₁.setTop (mkF m 65 #[.val (.ref a1), .val (.int (36 : Int32)), .val (.long q2), .second] [(.int ((((q2.toUInt64 >>> ((24 : Int32) &&& 0x3f).toInt64.toUInt64).toInt64).toInt32).toInt8.toInt32)), (.int w31)])) _
    refine XS.icmpNo X0.here hx rfl (hb hby d5_65) rfl (teq P44).2 ?_
    show Steps p.tables e below (s₁.setTop (mkF m 68 #[.val (.ref a1), .val (.int (36 : Int32)), .val (.long q2), .second] [])) _
    refine XS.aloadN X0.here hx rfl (hb hby d5_68) rfl rfl ?_
    show Steps p.tables e below (s₁.setTop (mkF m 69 #[.val (.ref a1), .val (.int (36 : Int32)), .val (.long q2), .second] [(.ref a1)])) _
    refine XS.iloadN X0.here hx rfl (hb hby d5_69) rfl ?_
    show Steps p.tables e below (s₁.setTop (mkF m 70 #[.val (.ref a1), .val (.int (36 : Int32)), .val (.long q2), .second] [(.int (36 : Int32)), (.ref a1)])) _
    refine XS.iconst X0.here hx rfl (hb hby d5_70) ?_
    show Steps p.tables e below (s₁.setTop (mkF m 71 #[.val (.ref a1), .val (.int (36 : Int32)), .val (.long q2), .second] [(.int (5 : Int32)), (.int (36 : Int32)), (.ref a1)])) _
    refine XS.iadd X0.here hx rfl (hb hby d5_71) rfl ?_
    show Steps p.tables e below (s₁.setTop (mkF m 72 #[.val (.ref a1), .val (.int (36 : Int32)), .val (.long q2), .second] [(.int (41 : Int32)), (.ref a1)])) _
    refine X0.baloadBytes hx (j := (41 : Int32)) (v := (.int w32)) (by rw [e0]; exact Ar45.1) (State.isArrayOf_alike hZ.alike Ar45.2.1) Ar45.2.2 hin45 hat45 (g := (mkF m 72 #[.val (.ref a1), .val (.int (36 : Int32)), .val (.long q2), .second] [(.int (41 : Int32)), (.ref a1)])) rfl rfl (hb hby d5_72) _ ?_
    show Steps p.tables e below (s₁.setTop (mkF m 73 #[.val (.ref a1), .val (.int (36 : Int32)), .val (.long q2), .second] [(.int w32)])) _
    refine XS.lloadN X0.here hx rfl (hb hby d5_73) rfl ?_
    show Steps p.tables e below (s₁.setTop (mkF m 74 #[.val (.ref a1), .val (.int (36 : Int32)), .val (.long q2), .second] [(.long q2), (.int w32)])) _
    refine XS.bipush X0.here hx rfl (hb hby d5_74) ?_
    show Steps p.tables e below (s₁.setTop (mkF m 76 #[.val (.ref a1), .val (.int (36 : Int32)), .val (.long q2), .second] [(.int (16 : Int32)), (.long q2), (.int w32)])) _
    refine XS.lushr X0.here hx rfl (hb hby d5_76) rfl ?_
    show Steps p.tables e below (s₁.setTop (mkF m 77 #[.val (.ref a1), .val (.int (36 : Int32)), .val (.long q2), .second] [(.long ((q2.toUInt64 >>> ((16 : Int32) &&& 0x3f).toInt64.toUInt64).toInt64)), (.int w32)])) _
    refine XS.l2i X0.here hx rfl (hb hby d5_77) rfl ?_
    show Steps p.tables e below (s₁.setTop (mkF m 78 #[.val (.ref a1), .val (.int (36 : Int32)), .val (.long q2), .second] [(.int (((q2.toUInt64 >>> ((16 : Int32) &&& 0x3f).toInt64.toUInt64).toInt64).toInt32)), (.int w32)])) _
    refine XS.i2b X0.here hx rfl (hb hby d5_78) rfl ?_
    show Steps p.tables e below (s₁.setTop (mkF m 79 #[.val (.ref a1), .val (.int (36 : Int32)), .val (.long q2), .second] [(.int ((((q2.toUInt64 >>> ((16 : Int32) &&& 0x3f).toInt64.toUInt64).toInt64).toInt32).toInt8.toInt32)), (.int w32)])) _
    refine XS.icmpNo X0.here hx rfl (hb hby d5_79) rfl (teq P46).2 ?_
    show Steps p.tables e below (s₁.setTop (mkF m 82 #[.val (.ref a1), .val (.int (36 : Int32)), .val (.long q2), .second] [])) _
    refine XS.aloadN X0.here hx rfl (hb hby d5_82) rfl rfl ?_
    show Steps p.tables e below (s₁.setTop (mkF m 83 #[.val (.ref a1), .val (.int (36 : Int32)), .val (.long q2), .second] [(.ref a1)])) _
    refine XS.iloadN X0.here hx rfl (hb hby d5_83) rfl ?_
    show Steps p.tables e below (s₁.setTop (mkF m 84 #[.val (.ref a1), .val (.int (36 : Int32)), .val (.long q2), .second] [(.int (36 : Int32)), (.ref a1)])) _
    refine XS.bipush X0.here hx rfl (hb hby d5_84) ?_
    show Steps p.tables e below (s₁.setTop (mkF m 86 #[.val (.ref a1), .val (.int (36 : Int32)), .val (.long q2), .second] [(.int (6 : Int32)), (.int (36 : Int32)), (.ref a1)])) _
    refine XS.iadd X0.here hx rfl (hb hby d5_86) rfl ?_
    show Steps p.tables e below (s₁.setTop (mkF m 87 #[.val (.ref a1), .val (.int (36 : Int32)), .val (.long q2), .second] [(.int (42 : Int32)), (.ref a1)])) _
    refine X0.baloadBytes hx (j := (42 : Int32)) (v := (.int w33)) (by rw [e0]; exact Ar47.1) (State.isArrayOf_alike hZ.alike Ar47.2.1) Ar47.2.2 hin47 hat47 (g := (mkF m 87 #[.val (.ref a1), .val (.int (36 : Int32)), .val (.long q2), .second] [(.int (42 : Int32)), (.ref a1)])) rfl rfl (hb hby d5_87) _ ?_
    show Steps p.tables e below (s₁.setTop (mkF m 88 #[.val (.ref a1), .val (.int (36 : Int32)), .val (.long q2), .second] [(.int w33)])) _
    refine XS.lloadN X0.here hx rfl (hb hby d5_88) rfl ?_
    show Steps p.tables e below (s₁.setTop (mkF m 89 #[.val (.ref a1), .val (.int (36 : Int32)), .val (.long q2), .second] [(.long q2), (.int w33)])) _
    refine XS.bipush X0.here hx rfl (hb hby d5_89) ?_
    show Steps p.tables e below (s₁.setTop (mkF m 91 #[.val (.ref a1), .val (.int (36 : Int32)), .val (.long q2), .second] [(.int (8 : Int32)), (.long q2), (.int w33)])) _
    refine XS.lushr X0.here hx rfl (hb hby d5_91) rfl ?_
    show Steps p.tables e below (s₁.setTop (mkF m 92 #[.val (.ref a1), .val (.int (36 : Int32)), .val (.long q2), .second] [(.long ((q2.toUInt64 >>> ((8 : Int32) &&& 0x3f).toInt64.toUInt64).toInt64)), (.int w33)])) _
    refine XS.l2i X0.here hx rfl (hb hby d5_92) rfl ?_
    show Steps p.tables e below (s₁.setTop (mkF m 93 #[.val (.ref a1), .val (.int (36 : Int32)), .val (.long q2), .second] [(.int (((q2.toUInt64 >>> ((8 : Int32) &&& 0x3f).toInt64.toUInt64).toInt64).toInt32)), (.int w33)])) _
    refine XS.i2b X0.here hx rfl (hb hby d5_93) rfl ?_
    show Steps p.tables e below (s₁.setTop (mkF m 94 #[.val (.ref a1), .val (.int (36 : Int32)), .val (.long q2), .second] [(.int ((((q2.toUInt64 >>> ((8 : Int32) &&& 0x3f).toInt64.toUInt64).toInt64).toInt32).toInt8.toInt32)), (.int w33)])) _
    refine XS.icmpNo X0.here hx rfl (hb hby d5_94) rfl (teq P48).2 ?_
    show Steps p.tables e below (s₁.setTop (mkF m 97 #[.val (.ref a1), .val (.int (36 : Int32)), .val (.long q2), .second] [])) _
    refine XS.aloadN X0.here hx rfl (hb hby d5_97) rfl rfl ?_
    show Steps p.tables e below (s₁.setTop (mkF m 98 #[.val (.ref a1), .val (.int (36 : Int32)), .val (.long q2), .second] [(.ref a1)])) _
    refine XS.iloadN X0.here hx rfl (hb hby d5_98) rfl ?_
    show Steps p.tables e below (s₁.setTop (mkF m 99 #[.val (.ref a1), .val (.int (36 : Int32)), .val (.long q2), .second] [(.int (36 : Int32)), (.ref a1)])) _
    refine XS.bipush X0.here hx rfl (hb hby d5_99) ?_
    show Steps p.tables e below (s₁.setTop (mkF m 101 #[.val (.ref a1), .val (.int (36 : Int32)), .val (.long q2), .second] [(.int (7 : Int32)), (.int (36 : Int32)), (.ref a1)])) _
    refine XS.iadd X0.here hx rfl (hb hby d5_101) rfl ?_
    show Steps p.tables e below (s₁.setTop (mkF m 102 #[.val (.ref a1), .val (.int (36 : Int32)), .val (.long q2), .second] [(.int (43 : Int32)), (.ref a1)])) _
    refine X0.baloadBytes hx (j := (43 : Int32)) (v := (.int w34)) (by rw [e0]; exact Ar49.1) (State.isArrayOf_alike hZ.alike Ar49.2.1) Ar49.2.2 hin49 hat49 (g := (mkF m 102 #[.val (.ref a1), .val (.int (36 : Int32)), .val (.long q2), .second] [(.int (43 : Int32)), (.ref a1)])) rfl rfl (hb hby d5_102) _ ?_
    show Steps p.tables e below (s₁.setTop (mkF m 103 #[.val (.ref a1), .val (.int (36 : Int32)), .val (.long q2), .second] [(.int w34)])) _
    refine XS.lloadN X0.here hx rfl (hb hby d5_103) rfl ?_
    show Steps p.tables e below (s₁.setTop (mkF m 104 #[.val (.ref a1), .val (.int (36 : Int32)), .val (.long q2), .second] [(.long q2), (.int w34)])) _
    refine XS.l2i X0.here hx rfl (hb hby d5_104) rfl ?_
    show Steps p.tables e below (s₁.setTop (mkF m 105 #[.val (.ref a1), .val (.int (36 : Int32)), .val (.long q2), .second] [(.int (q2.toInt32)), (.int w34)])) _
    refine XS.i2b X0.here hx rfl (hb hby d5_105) rfl ?_
    show Steps p.tables e below (s₁.setTop (mkF m 106 #[.val (.ref a1), .val (.int (36 : Int32)), .val (.long q2), .second] [(.int ((q2.toInt32).toInt8.toInt32)), (.int w34)])) _
    refine XS.icmpNo X0.here hx rfl (hb hby d5_106) rfl (teq P50).2 ?_
    show Steps p.tables e below (s₁.setTop (mkF m 109 #[.val (.ref a1), .val (.int (36 : Int32)), .val (.long q2), .second] [])) _
    refine XS.iconst X0.here hx rfl (hb hby d5_109) ?_
    show Steps p.tables e below (s₁.setTop (mkF m 110 #[.val (.ref a1), .val (.int (36 : Int32)), .val (.long q2), .second] [(.int (1 : Int32))])) _
    refine XS.goto X0.here hx rfl (pc0 := 110) (pc' := 114) rfl (hb hby d5_110) (by decide) (by decide) ?_
    show Steps p.tables e below (s₁.setTop (mkF m 114 #[.val (.ref a1), .val (.int (36 : Int32)), .val (.long q2), .second] [(.int (1 : Int32))])) _
    exact retN X0 hx (t := .boolean) Bd.returns (by simp) (hb hby d5_114) hr
  · show Q5_4 Z a1 q2 k_a1 w3 w4 w5 w6 w7 w8 w9 w10 w11 w12 w13 w14 w15 w16 w17 w18 w19 w20 w21 w22 w23 w24 w25 w26 w27 w28 w29 w30 w31 w32 w33 w34 h0 n0 _ s₁.heap _
    rw [e0]
    exact ⟨rfl, N0, rfl⟩
def Q5_5 (Z : State) (a1 : Addr) (q2 : Int64) (k_a1 : ClassId) (w3 : Int32) (w4 : Int32) (w5 : Int32) (w6 : Int32) (w7 : Int32) (w8 : Int32) (w9 : Int32) (w10 : Int32) (w11 : Int32) (w12 : Int32) (w13 : Int32) (w14 : Int32) (w15 : Int32) (w16 : Int32) (w17 : Int32) (w18 : Int32) (w19 : Int32) (w20 : Int32) (w21 : Int32) (w22 : Int32) (w23 : Int32) (w24 : Int32) (w25 : Int32) (w26 : Int32) (w27 : Int32) (w28 : Int32) (w29 : Int32) (w30 : Int32) (w31 : Int32) (w32 : Int32) (w33 : Int32) (w34 : Int32) (h0 : Heap) (n0 : Nat) (v : Option Value) (h : Heap) (L : List Loc) : Prop := v = some (.int (1 : Int32)) ∧ Fr n0 L ∧ h = h0
set_option maxRecDepth 65536 in
set_option maxHeartbeats 40000000 in
theorem rm5_5 (l : Launch) (Z : State) (a0 : Array Value) (hw : ∀ d ∈ tables_1, d.before a0 Z = true) (ws : List Jvm.Cond) (a1 : Addr) (q2 : Int64) (k_a1 : ClassId) (w3 : Int32) (w4 : Int32) (w5 : Int32) (w6 : Int32) (w7 : Int32) (w8 : Int32) (w9 : Int32) (w10 : Int32) (w11 : Int32) (w12 : Int32) (w13 : Int32) (w14 : Int32) (w15 : Int32) (w16 : Int32) (w17 : Int32) (w18 : Int32) (w19 : Int32) (w20 : Int32) (w21 : Int32) (w22 : Int32) (w23 : Int32) (w24 : Int32) (w25 : Int32) (w26 : Int32) (w27 : Int32) (w28 : Int32) (w29 : Int32) (w30 : Int32) (w31 : Int32) (w32 : Int32) (w33 : Int32) (w34 : Int32) (h0 : Heap) (n0 : Nat) (Z0 : n0 ≤ h0.size) (V_a1 : Arv Z h0 a1 k_a1 .byte (32 : Int32) [(.int w3), (.int w4), (.int w5), (.int w6), (.int w7), (.int w8), (.int w9), (.int w10), (.int w11), (.int w12), (.int w13), (.int w14), (.int w15), (.int w16), (.int w17), (.int w18), (.int w19), (.int w20), (.int w21), (.int w22), (.int w23), (.int w24), (.int w25), (.int w26), (.int w27), (.int w28), (.int w29), (.int w30), (.int w31), (.int w32), (.int w33), (.int w34)] (.int (0 : Int32))) (P36 : w3 = ((((q2.toUInt64 >>> ((56 : Int32) &&& 0x3f).toInt64.toUInt64).toInt64).toInt32).toInt8.toInt32)) (P38 : w4 = ((((q2.toUInt64 >>> ((48 : Int32) &&& 0x3f).toInt64.toUInt64).toInt64).toInt32).toInt8.toInt32)) (P40 : w5 = ((((q2.toUInt64 >>> ((40 : Int32) &&& 0x3f).toInt64.toUInt64).toInt64).toInt32).toInt8.toInt32)) (P42 : w6 = ((((q2.toUInt64 >>> ((32 : Int32) &&& 0x3f).toInt64.toUInt64).toInt64).toInt32).toInt8.toInt32)) (P44 : w7 = ((((q2.toUInt64 >>> ((24 : Int32) &&& 0x3f).toInt64.toUInt64).toInt64).toInt32).toInt8.toInt32)) (P46 : w8 = ((((q2.toUInt64 >>> ((16 : Int32) &&& 0x3f).toInt64.toUInt64).toInt64).toInt32).toInt8.toInt32)) (P48 : w9 = ((((q2.toUInt64 >>> ((8 : Int32) &&& 0x3f).toInt64.toUInt64).toInt64).toInt32).toInt8.toInt32)) (P50 : w10 = ((q2.toInt32).toInt8.toInt32)) :
    MetFree l (⟨"com/example/lasting_names/lastingnames/Ed25519SubjectPublicKeyInfoPinLaw", "same", "([BIJ)Z"⟩ : MethodName) (head1 (Jvm.Cond.code (⟨"com/example/lasting_names/lastingnames/Ed25519SubjectPublicKeyInfoPinLaw", "same", "([BIJ)Z"⟩ : MethodName) method_3_code 4 (some .boolean) :: ws) ({ frames := 0, cells := 0, slots := 0, locals := 0 } : Room)) (fun a U => a = #[(.ref a1), (.int (0 : Int32)), (.long q2)] ∧ Z.Warmed39 U.vm ∧ U.heap = h0) (fun _ _ _ _ _ => True) (fun _ U o U' => ∃ v L, o = .returned v ∧ Q5_5 Z a1 q2 k_a1 w3 w4 w5 w6 w7 w8 w9 w10 w11 w12 w13 w14 w15 w16 w17 w18 w19 w20 w21 w22 w23 w24 w25 w26 w27 w28 w29 w30 w31 w32 w33 w34 h0 n0 v U'.heap L ∧ FrameEnd U o U' L ({ frames := 0, cells := 0, slots := 0, locals := 0 } : Room).cells ({ frames := 0, cells := 0, slots := 0, locals := 0 } : Room).slots) := by
  refine MetFree.of_bodySF (plainFor_of_name pn_5) hisR ?_
  intro p e s m args below meth c s₁ Bd hml0 hP hK
  obtain ⟨rfl, hZ, hh⟩ := hP
  have hx := Bd.exec
  have hby := Bd.bytes
  have hml : c.maxLocals = 4 := hml0
  have hown : s.vm.findClass "com/example/lasting_names/lastingnames/Ed25519SubjectPublicKeyInfoPinLaw" = some m.cls := findClass_of_methodNamed Bd.named
  have hnm := (name_of_methodNamed Bd.named Bd.method).1
  have X0 : Stand p l e ({ frames := 0, cells := 0, slots := 0, locals := 0 } : Room) s m #[(.ref a1), (.int (0 : Int32)), (.long q2)] below meth c s₁ [] 0 0 := Stand.of_body Bd
  have e0 : s₁.heap = h0 := by rw [← hh, Bd.state]; rfl
  have N0 := Fr.nil n0
  have pre0 : ∀ t, Steps p.tables e below (s₁.setTop (mkF m 0 #[.val (.ref a1), .val (.int (0 : Int32)), .val (.long q2), .second] [])) t → Steps p.tables e below (s₁.setTop (entryFrame m #[(.ref a1), (.int (0 : Int32)), (.long q2)] 4)) t := fun t k => castTop (ef_5_RIJ m a1 (0 : Int32) q2) k
  obtain ⟨cl35, Ar35, q35, S35, N_35, H35, G35⟩ := id V_a1
  have hin35 : ¬ ((0 : Int32) < 0 ∨ cl35.slots.size ≤ ((0 : Int32)).toNatClampNeg) := inb_of S35 ⟨by decide, (by decide : (0 : Int32) < (32 : Int32))⟩
  have hat35 : cl35.slots[((0 : Int32)).toNatClampNeg]? = some (.int w3) := Has.at H35 hin35 rfl
  obtain ⟨cl37, Ar37, q37, S37, N_37, H37, G37⟩ := id V_a1
  have hin37 : ¬ ((1 : Int32) < 0 ∨ cl37.slots.size ≤ ((1 : Int32)).toNatClampNeg) := inb_of S37 ⟨by decide, (by decide : (1 : Int32) < (32 : Int32))⟩
  have hat37 : cl37.slots[((1 : Int32)).toNatClampNeg]? = some (.int w4) := Has.at H37 hin37 rfl
  obtain ⟨cl39, Ar39, q39, S39, N_39, H39, G39⟩ := id V_a1
  have hin39 : ¬ ((2 : Int32) < 0 ∨ cl39.slots.size ≤ ((2 : Int32)).toNatClampNeg) := inb_of S39 ⟨by decide, (by decide : (2 : Int32) < (32 : Int32))⟩
  have hat39 : cl39.slots[((2 : Int32)).toNatClampNeg]? = some (.int w5) := Has.at H39 hin39 rfl
  obtain ⟨cl41, Ar41, q41, S41, N_41, H41, G41⟩ := id V_a1
  have hin41 : ¬ ((3 : Int32) < 0 ∨ cl41.slots.size ≤ ((3 : Int32)).toNatClampNeg) := inb_of S41 ⟨by decide, (by decide : (3 : Int32) < (32 : Int32))⟩
  have hat41 : cl41.slots[((3 : Int32)).toNatClampNeg]? = some (.int w6) := Has.at H41 hin41 rfl
  obtain ⟨cl43, Ar43, q43, S43, N_43, H43, G43⟩ := id V_a1
  have hin43 : ¬ ((4 : Int32) < 0 ∨ cl43.slots.size ≤ ((4 : Int32)).toNatClampNeg) := inb_of S43 ⟨by decide, (by decide : (4 : Int32) < (32 : Int32))⟩
  have hat43 : cl43.slots[((4 : Int32)).toNatClampNeg]? = some (.int w7) := Has.at H43 hin43 rfl
  obtain ⟨cl45, Ar45, q45, S45, N_45, H45, G45⟩ := id V_a1
  have hin45 : ¬ ((5 : Int32) < 0 ∨ cl45.slots.size ≤ ((5 : Int32)).toNatClampNeg) := inb_of S45 ⟨by decide, (by decide : (5 : Int32) < (32 : Int32))⟩
  have hat45 : cl45.slots[((5 : Int32)).toNatClampNeg]? = some (.int w8) := Has.at H45 hin45 rfl
  obtain ⟨cl47, Ar47, q47, S47, N_47, H47, G47⟩ := id V_a1
  have hin47 : ¬ ((6 : Int32) < 0 ∨ cl47.slots.size ≤ ((6 : Int32)).toNatClampNeg) := inb_of S47 ⟨by decide, (by decide : (6 : Int32) < (32 : Int32))⟩
  have hat47 : cl47.slots[((6 : Int32)).toNatClampNeg]? = some (.int w9) := Has.at H47 hin47 rfl
  obtain ⟨cl49, Ar49, q49, S49, N_49, H49, G49⟩ := id V_a1
  have hin49 : ¬ ((7 : Int32) < 0 ∨ cl49.slots.size ≤ ((7 : Int32)).toNatClampNeg) := inb_of S49 ⟨by decide, (by decide : (7 : Int32) < (32 : Int32))⟩
  have hat49 : cl49.slots[((7 : Int32)).toNatClampNeg]? = some (.int w10) := Has.at H49 hin49 rfl
  obtain ⟨fs, hr, hrun, hended, hW, hsame⟩ := X0.leave (v := some (.int (1 : Int32))) (fun h => by rw [Bd.returns] at h; cases h)
  refine ⟨_, _, pre0 _ ?_, hrun, hended, _, _, rfl, ?_, ⟨_, rfl⟩, hW, hsame.mono (by decide) (by decide)⟩
  · show Steps p.tables e below (s₁.setTop (mkF m 0 #[.val (.ref a1), .val (.int (0 : Int32)), .val (.long q2), .second] [])) _
    refine XS.aloadN X0.here hx rfl (hb hby d5_0) rfl rfl ?_
    show Steps p.tables e below (s₁.setTop (mkF m 1 #[.val (.ref a1), .val (.int (0 : Int32)), .val (.long q2), .second] [(.ref a1)])) _
    refine XS.iloadN X0.here hx rfl (hb hby d5_1) rfl ?_
    show Steps p.tables e below (s₁.setTop (mkF m 2 #[.val (.ref a1), .val (.int (0 : Int32)), .val (.long q2), .second] [(.int (0 : Int32)), (.ref a1)])) _
    refine X0.baloadBytes hx (j := (0 : Int32)) (v := (.int w3)) (by rw [e0]; exact Ar35.1) (State.isArrayOf_alike hZ.alike Ar35.2.1) Ar35.2.2 hin35 hat35 (g := (mkF m 2 #[.val (.ref a1), .val (.int (0 : Int32)), .val (.long q2), .second] [(.int (0 : Int32)), (.ref a1)])) rfl rfl (hb hby d5_2) _ ?_
    show Steps p.tables e below (s₁.setTop (mkF m 3 #[.val (.ref a1), .val (.int (0 : Int32)), .val (.long q2), .second] [(.int w3)])) _
    refine XS.lloadN X0.here hx rfl (hb hby d5_3) rfl ?_
    show Steps p.tables e below (s₁.setTop (mkF m 4 #[.val (.ref a1), .val (.int (0 : Int32)), .val (.long q2), .second] [(.long q2), (.int w3)])) _
    refine XS.bipush X0.here hx rfl (hb hby d5_4) ?_
    show Steps p.tables e below (s₁.setTop (mkF m 6 #[.val (.ref a1), .val (.int (0 : Int32)), .val (.long q2), .second] [(.int (56 : Int32)), (.long q2), (.int w3)])) _
    refine XS.lushr X0.here hx rfl (hb hby d5_6) rfl ?_
    show Steps p.tables e below (s₁.setTop (mkF m 7 #[.val (.ref a1), .val (.int (0 : Int32)), .val (.long q2), .second] [(.long ((q2.toUInt64 >>> ((56 : Int32) &&& 0x3f).toInt64.toUInt64).toInt64)), (.int w3)])) _
    refine XS.l2i X0.here hx rfl (hb hby d5_7) rfl ?_
    show Steps p.tables e below (s₁.setTop (mkF m 8 #[.val (.ref a1), .val (.int (0 : Int32)), .val (.long q2), .second] [(.int (((q2.toUInt64 >>> ((56 : Int32) &&& 0x3f).toInt64.toUInt64).toInt64).toInt32)), (.int w3)])) _
    refine XS.i2b X0.here hx rfl (hb hby d5_8) rfl ?_
    show Steps p.tables e below (s₁.setTop (mkF m 9 #[.val (.ref a1), .val (.int (0 : Int32)), .val (.long q2), .second] [(.int ((((q2.toUInt64 >>> ((56 : Int32) &&& 0x3f).toInt64.toUInt64).toInt64).toInt32).toInt8.toInt32)), (.int w3)])) _
    refine XS.icmpNo X0.here hx rfl (hb hby d5_9) rfl (teq P36).2 ?_
    show Steps p.tables e below (s₁.setTop (mkF m 12 #[.val (.ref a1), .val (.int (0 : Int32)), .val (.long q2), .second] [])) _
    refine XS.aloadN X0.here hx rfl (hb hby d5_12) rfl rfl ?_
    show Steps p.tables e below (s₁.setTop (mkF m 13 #[.val (.ref a1), .val (.int (0 : Int32)), .val (.long q2), .second] [(.ref a1)])) _
    refine XS.iloadN X0.here hx rfl (hb hby d5_13) rfl ?_
    show Steps p.tables e below (s₁.setTop (mkF m 14 #[.val (.ref a1), .val (.int (0 : Int32)), .val (.long q2), .second] [(.int (0 : Int32)), (.ref a1)])) _
    refine XS.iconst X0.here hx rfl (hb hby d5_14) ?_
    show Steps p.tables e below (s₁.setTop (mkF m 15 #[.val (.ref a1), .val (.int (0 : Int32)), .val (.long q2), .second] [(.int (1 : Int32)), (.int (0 : Int32)), (.ref a1)])) _
    refine XS.iadd X0.here hx rfl (hb hby d5_15) rfl ?_
    show Steps p.tables e below (s₁.setTop (mkF m 16 #[.val (.ref a1), .val (.int (0 : Int32)), .val (.long q2), .second] [(.int (1 : Int32)), (.ref a1)])) _
    refine X0.baloadBytes hx (j := (1 : Int32)) (v := (.int w4)) (by rw [e0]; exact Ar37.1) (State.isArrayOf_alike hZ.alike Ar37.2.1) Ar37.2.2 hin37 hat37 (g := (mkF m 16 #[.val (.ref a1), .val (.int (0 : Int32)), .val (.long q2), .second] [(.int (1 : Int32)), (.ref a1)])) rfl rfl (hb hby d5_16) _ ?_
    show Steps p.tables e below (s₁.setTop (mkF m 17 #[.val (.ref a1), .val (.int (0 : Int32)), .val (.long q2), .second] [(.int w4)])) _
    refine XS.lloadN X0.here hx rfl (hb hby d5_17) rfl ?_
    show Steps p.tables e below (s₁.setTop (mkF m 18 #[.val (.ref a1), .val (.int (0 : Int32)), .val (.long q2), .second] [(.long q2), (.int w4)])) _
    refine XS.bipush X0.here hx rfl (hb hby d5_18) ?_
    show Steps p.tables e below (s₁.setTop (mkF m 20 #[.val (.ref a1), .val (.int (0 : Int32)), .val (.long q2), .second] [(.int (48 : Int32)), (.long q2), (.int w4)])) _
    refine XS.lushr X0.here hx rfl (hb hby d5_20) rfl ?_
    show Steps p.tables e below (s₁.setTop (mkF m 21 #[.val (.ref a1), .val (.int (0 : Int32)), .val (.long q2), .second] [(.long ((q2.toUInt64 >>> ((48 : Int32) &&& 0x3f).toInt64.toUInt64).toInt64)), (.int w4)])) _
    refine XS.l2i X0.here hx rfl (hb hby d5_21) rfl ?_
    show Steps p.tables e below (s₁.setTop (mkF m 22 #[.val (.ref a1), .val (.int (0 : Int32)), .val (.long q2), .second] [(.int (((q2.toUInt64 >>> ((48 : Int32) &&& 0x3f).toInt64.toUInt64).toInt64).toInt32)), (.int w4)])) _
    refine XS.i2b X0.here hx rfl (hb hby d5_22) rfl ?_
    show Steps p.tables e below (s₁.setTop (mkF m 23 #[.val (.ref a1), .val (.int (0 : Int32)), .val (.long q2), .second] [(.int ((((q2.toUInt64 >>> ((48 : Int32) &&& 0x3f).toInt64.toUInt64).toInt64).toInt32).toInt8.toInt32)), (.int w4)])) _
    refine XS.icmpNo X0.here hx rfl (hb hby d5_23) rfl (teq P38).2 ?_
    show Steps p.tables e below (s₁.setTop (mkF m 26 #[.val (.ref a1), .val (.int (0 : Int32)), .val (.long q2), .second] [])) _
    refine XS.aloadN X0.here hx rfl (hb hby d5_26) rfl rfl ?_
    show Steps p.tables e below (s₁.setTop (mkF m 27 #[.val (.ref a1), .val (.int (0 : Int32)), .val (.long q2), .second] [(.ref a1)])) _
    refine XS.iloadN X0.here hx rfl (hb hby d5_27) rfl ?_
    show Steps p.tables e below (s₁.setTop (mkF m 28 #[.val (.ref a1), .val (.int (0 : Int32)), .val (.long q2), .second] [(.int (0 : Int32)), (.ref a1)])) _
    refine XS.iconst X0.here hx rfl (hb hby d5_28) ?_
    show Steps p.tables e below (s₁.setTop (mkF m 29 #[.val (.ref a1), .val (.int (0 : Int32)), .val (.long q2), .second] [(.int (2 : Int32)), (.int (0 : Int32)), (.ref a1)])) _
    refine XS.iadd X0.here hx rfl (hb hby d5_29) rfl ?_
    show Steps p.tables e below (s₁.setTop (mkF m 30 #[.val (.ref a1), .val (.int (0 : Int32)), .val (.long q2), .second] [(.int (2 : Int32)), (.ref a1)])) _
    refine X0.baloadBytes hx (j := (2 : Int32)) (v := (.int w5)) (by rw [e0]; exact Ar39.1) (State.isArrayOf_alike hZ.alike Ar39.2.1) Ar39.2.2 hin39 hat39 (g := (mkF m 30 #[.val (.ref a1), .val (.int (0 : Int32)), .val (.long q2), .second] [(.int (2 : Int32)), (.ref a1)])) rfl rfl (hb hby d5_30) _ ?_
    show Steps p.tables e below (s₁.setTop (mkF m 31 #[.val (.ref a1), .val (.int (0 : Int32)), .val (.long q2), .second] [(.int w5)])) _
    refine XS.lloadN X0.here hx rfl (hb hby d5_31) rfl ?_
    show Steps p.tables e below (s₁.setTop (mkF m 32 #[.val (.ref a1), .val (.int (0 : Int32)), .val (.long q2), .second] [(.long q2), (.int w5)])) _
    refine XS.bipush X0.here hx rfl (hb hby d5_32) ?_
    show Steps p.tables e below (s₁.setTop (mkF m 34 #[.val (.ref a1), .val (.int (0 : Int32)), .val (.long q2), .second] [(.int (40 : Int32)), (.long q2), (.int w5)])) _
    refine XS.lushr X0.here hx rfl (hb hby d5_34) rfl ?_
    show Steps p.tables e below (s₁.setTop (mkF m 35 #[.val (.ref a1), .val (.int (0 : Int32)), .val (.long q2), .second] [(.long ((q2.toUInt64 >>> ((40 : Int32) &&& 0x3f).toInt64.toUInt64).toInt64)), (.int w5)])) _
    refine XS.l2i X0.here hx rfl (hb hby d5_35) rfl ?_
    show Steps p.tables e below (s₁.setTop (mkF m 36 #[.val (.ref a1), .val (.int (0 : Int32)), .val (.long q2), .second] [(.int (((q2.toUInt64 >>> ((40 : Int32) &&& 0x3f).toInt64.toUInt64).toInt64).toInt32)), (.int w5)])) _
    refine XS.i2b X0.here hx rfl (hb hby d5_36) rfl ?_
    show Steps p.tables e below (s₁.setTop (mkF m 37 #[.val (.ref a1), .val (.int (0 : Int32)), .val (.long q2), .second] [(.int ((((q2.toUInt64 >>> ((40 : Int32) &&& 0x3f).toInt64.toUInt64).toInt64).toInt32).toInt8.toInt32)), (.int w5)])) _
    refine XS.icmpNo X0.here hx rfl (hb hby d5_37) rfl (teq P40).2 ?_
    show Steps p.tables e below (s₁.setTop (mkF m 40 #[.val (.ref a1), .val (.int (0 : Int32)), .val (.long q2), .second] [])) _
    refine XS.aloadN X0.here hx rfl (hb hby d5_40) rfl rfl ?_
    show Steps p.tables e below (s₁.setTop (mkF m 41 #[.val (.ref a1), .val (.int (0 : Int32)), .val (.long q2), .second] [(.ref a1)])) _
    refine XS.iloadN X0.here hx rfl (hb hby d5_41) rfl ?_
    show Steps p.tables e below (s₁.setTop (mkF m 42 #[.val (.ref a1), .val (.int (0 : Int32)), .val (.long q2), .second] [(.int (0 : Int32)), (.ref a1)])) _
    refine XS.iconst X0.here hx rfl (hb hby d5_42) ?_
    show Steps p.tables e below (s₁.setTop (mkF m 43 #[.val (.ref a1), .val (.int (0 : Int32)), .val (.long q2), .second] [(.int (3 : Int32)), (.int (0 : Int32)), (.ref a1)])) _
    refine XS.iadd X0.here hx rfl (hb hby d5_43) rfl ?_
    show Steps p.tables e below (s₁.setTop (mkF m 44 #[.val (.ref a1), .val (.int (0 : Int32)), .val (.long q2), .second] [(.int (3 : Int32)), (.ref a1)])) _
    refine X0.baloadBytes hx (j := (3 : Int32)) (v := (.int w6)) (by rw [e0]; exact Ar41.1) (State.isArrayOf_alike hZ.alike Ar41.2.1) Ar41.2.2 hin41 hat41 (g := (mkF m 44 #[.val (.ref a1), .val (.int (0 : Int32)), .val (.long q2), .second] [(.int (3 : Int32)), (.ref a1)])) rfl rfl (hb hby d5_44) _ ?_
    show Steps p.tables e below (s₁.setTop (mkF m 45 #[.val (.ref a1), .val (.int (0 : Int32)), .val (.long q2), .second] [(.int w6)])) _
    refine XS.lloadN X0.here hx rfl (hb hby d5_45) rfl ?_
    show Steps p.tables e below (s₁.setTop (mkF m 46 #[.val (.ref a1), .val (.int (0 : Int32)), .val (.long q2), .second] [(.long q2), (.int w6)])) _
    refine XS.bipush X0.here hx rfl (hb hby d5_46) ?_
    show Steps p.tables e below (s₁.setTop (mkF m 48 #[.val (.ref a1), .val (.int (0 : Int32)), .val (.long q2), .second] [(.int (32 : Int32)), (.long q2), (.int w6)])) _
    refine XS.lushr X0.here hx rfl (hb hby d5_48) rfl ?_
    show Steps p.tables e below (s₁.setTop (mkF m 49 #[.val (.ref a1), .val (.int (0 : Int32)), .val (.long q2), .second] [(.long ((q2.toUInt64 >>> ((32 : Int32) &&& 0x3f).toInt64.toUInt64).toInt64)), (.int w6)])) _
    refine XS.l2i X0.here hx rfl (hb hby d5_49) rfl ?_
    show Steps p.tables e below (s₁.setTop (mkF m 50 #[.val (.ref a1), .val (.int (0 : Int32)), .val (.long q2), .second] [(.int (((q2.toUInt64 >>> ((32 : Int32) &&& 0x3f).toInt64.toUInt64).toInt64).toInt32)), (.int w6)])) _
    refine XS.i2b X0.here hx rfl (hb hby d5_50) rfl ?_
    show Steps p.tables e below (s₁.setTop (mkF m 51 #[.val (.ref a1), .val (.int (0 : Int32)), .val (.long q2), .second] [(.int ((((q2.toUInt64 >>> ((32 : Int32) &&& 0x3f).toInt64.toUInt64).toInt64).toInt32).toInt8.toInt32)), (.int w6)])) _
    refine XS.icmpNo X0.here hx rfl (hb hby d5_51) rfl (teq P42).2 ?_
    show Steps p.tables e below (s₁.setTop (mkF m 54 #[.val (.ref a1), .val (.int (0 : Int32)), .val (.long q2), .second] [])) _
    refine XS.aloadN X0.here hx rfl (hb hby d5_54) rfl rfl ?_
    show Steps p.tables e below (s₁.setTop (mkF m 55 #[.val (.ref a1), .val (.int (0 : Int32)), .val (.long q2), .second] [(.ref a1)])) _
    refine XS.iloadN X0.here hx rfl (hb hby d5_55) rfl ?_
    show Steps p.tables e below (s₁.setTop (mkF m 56 #[.val (.ref a1), .val (.int (0 : Int32)), .val (.long q2), .second] [(.int (0 : Int32)), (.ref a1)])) _
    refine XS.iconst X0.here hx rfl (hb hby d5_56) ?_
    show Steps p.tables e below (s₁.setTop (mkF m 57 #[.val (.ref a1), .val (.int (0 : Int32)), .val (.long q2), .second] [(.int (4 : Int32)), (.int (0 : Int32)), (.ref a1)])) _
    refine XS.iadd X0.here hx rfl (hb hby d5_57) rfl ?_
    show Steps p.tables e below (s₁.setTop (mkF m 58 #[.val (.ref a1), .val (.int (0 : Int32)), .val (.long q2), .second] [(.int (4 : Int32)), (.ref a1)])) _
    refine X0.baloadBytes hx (j := (4 : Int32)) (v := (.int w7)) (by rw [e0]; exact Ar43.1) (State.isArrayOf_alike hZ.alike Ar43.2.1) Ar43.2.2 hin43 hat43 (g := (mkF m 58 #[.val (.ref a1), .val (.int (0 : Int32)), .val (.long q2), .second] [(.int (4 : Int32)), (.ref a1)])) rfl rfl (hb hby d5_58) _ ?_
    show Steps p.tables e below (s₁.setTop (mkF m 59 #[.val (.ref a1), .val (.int (0 : Int32)), .val (.long q2), .second] [(.int w7)])) _
    refine XS.lloadN X0.here hx rfl (hb hby d5_59) rfl ?_
    show Steps p.tables e below (s₁.setTop (mkF m 60 #[.val (.ref a1), .val (.int (0 : Int32)), .val (.long q2), .second] [(.long q2), (.int w7)])) _
    refine XS.bipush X0.here hx rfl (hb hby d5_60) ?_
    show Steps p.tables e below (s₁.setTop (mkF m 62 #[.val (.ref a1), .val (.int (0 : Int32)), .val (.long q2), .second] [(.int (24 : Int32)), (.long q2), (.int w7)])) _
    refine XS.lushr X0.here hx rfl (hb hby d5_62) rfl ?_
    show Steps p.tables e below (s₁.setTop (mkF m 63 #[.val (.ref a1), .val (.int (0 : Int32)), .val (.long q2), .second] [(.long ((q2.toUInt64 >>> ((24 : Int32) &&& 0x3f).toInt64.toUInt64).toInt64)), (.int w7)])) _
    refine XS.l2i X0.here hx rfl (hb hby d5_63) rfl ?_
    show Steps p.tables e below (s₁.setTop (mkF m 64 #[.val (.ref a1), .val (.int (0 : Int32)), .val (.long q2), .second] [(.int (((q2.toUInt64 >>> ((24 : Int32) &&& 0x3f).toInt64.toUInt64).toInt64).toInt32)), (.int w7)])) _
    refine XS.i2b X0.here hx rfl (hb hby d5_64) rfl ?_
    show Steps p.tables e below (s₁.setTop (mkF m 65 #[.val (.ref a1), .val (.int (0 : Int32)), .val (.long q2), .second] [(.int ((((q2.toUInt64 >>> ((24 : Int32) &&& 0x3f).toInt64.toUInt64).toInt64).toInt32).toInt8.toInt32)), (.int w7)])) _
    refine XS.icmpNo X0.here hx rfl (hb hby d5_65) rfl (teq P44).2 ?_
    show Steps p.tables e below (s₁.setTop (mkF m 68 #[.val (.ref a1), .val (.int (0 : Int32)), .val (.long q2), .second] [])) _
    refine XS.aloadN X0.here hx rfl (hb hby d5_68) rfl rfl ?_
    show Steps p.tables e below (s₁.setTop (mkF m 69 #[.val (.ref a1), .val (.int (0 : Int32)), .val (.long q2), .second] [(.ref a1)])) _
    refine XS.iloadN X0.here hx rfl (hb hby d5_69) rfl ?_
    show Steps p.tables e below (s₁.setTop (mkF m 70 #[.val (.ref a1), .val (.int (0 : Int32)), .val (.long q2), .second] [(.int (0 : Int32)), (.ref a1)])) _
    refine XS.iconst X0.here hx rfl (hb hby d5_70) ?_
    show Steps p.tables e below (s₁.setTop (mkF m 71 #[.val (.ref a1), .val (.int (0 : Int32)), .val (.long q2), .second] [(.int (5 : Int32)), (.int (0 : Int32)), (.ref a1)])) _
    refine XS.iadd X0.here hx rfl (hb hby d5_71) rfl ?_
    show Steps p.tables e below (s₁.setTop (mkF m 72 #[.val (.ref a1), .val (.int (0 : Int32)), .val (.long q2), .second] [(.int (5 : Int32)), (.ref a1)])) _
    refine X0.baloadBytes hx (j := (5 : Int32)) (v := (.int w8)) (by rw [e0]; exact Ar45.1) (State.isArrayOf_alike hZ.alike Ar45.2.1) Ar45.2.2 hin45 hat45 (g := (mkF m 72 #[.val (.ref a1), .val (.int (0 : Int32)), .val (.long q2), .second] [(.int (5 : Int32)), (.ref a1)])) rfl rfl (hb hby d5_72) _ ?_
    show Steps p.tables e below (s₁.setTop (mkF m 73 #[.val (.ref a1), .val (.int (0 : Int32)), .val (.long q2), .second] [(.int w8)])) _
    refine XS.lloadN X0.here hx rfl (hb hby d5_73) rfl ?_
    show Steps p.tables e below (s₁.setTop (mkF m 74 #[.val (.ref a1), .val (.int (0 : Int32)), .val (.long q2), .second] [(.long q2), (.int w8)])) _
    refine XS.bipush X0.here hx rfl (hb hby d5_74) ?_
    show Steps p.tables e below (s₁.setTop (mkF m 76 #[.val (.ref a1), .val (.int (0 : Int32)), .val (.long q2), .second] [(.int (16 : Int32)), (.long q2), (.int w8)])) _
    refine XS.lushr X0.here hx rfl (hb hby d5_76) rfl ?_
    show Steps p.tables e below (s₁.setTop (mkF m 77 #[.val (.ref a1), .val (.int (0 : Int32)), .val (.long q2), .second] [(.long ((q2.toUInt64 >>> ((16 : Int32) &&& 0x3f).toInt64.toUInt64).toInt64)), (.int w8)])) _
    refine XS.l2i X0.here hx rfl (hb hby d5_77) rfl ?_
    show Steps p.tables e below (s₁.setTop (mkF m 78 #[.val (.ref a1), .val (.int (0 : Int32)), .val (.long q2), .second] [(.int (((q2.toUInt64 >>> ((16 : Int32) &&& 0x3f).toInt64.toUInt64).toInt64).toInt32)), (.int w8)])) _
    refine XS.i2b X0.here hx rfl (hb hby d5_78) rfl ?_
    show Steps p.tables e below (s₁.setTop (mkF m 79 #[.val (.ref a1), .val (.int (0 : Int32)), .val (.long q2), .second] [(.int ((((q2.toUInt64 >>> ((16 : Int32) &&& 0x3f).toInt64.toUInt64).toInt64).toInt32).toInt8.toInt32)), (.int w8)])) _
    refine XS.icmpNo X0.here hx rfl (hb hby d5_79) rfl (teq P46).2 ?_
    show Steps p.tables e below (s₁.setTop (mkF m 82 #[.val (.ref a1), .val (.int (0 : Int32)), .val (.long q2), .second] [])) _
    refine XS.aloadN X0.here hx rfl (hb hby d5_82) rfl rfl ?_
    show Steps p.tables e below (s₁.setTop (mkF m 83 #[.val (.ref a1), .val (.int (0 : Int32)), .val (.long q2), .second] [(.ref a1)])) _
    refine XS.iloadN X0.here hx rfl (hb hby d5_83) rfl ?_
    show Steps p.tables e below (s₁.setTop (mkF m 84 #[.val (.ref a1), .val (.int (0 : Int32)), .val (.long q2), .second] [(.int (0 : Int32)), (.ref a1)])) _
    refine XS.bipush X0.here hx rfl (hb hby d5_84) ?_
    show Steps p.tables e below (s₁.setTop (mkF m 86 #[.val (.ref a1), .val (.int (0 : Int32)), .val (.long q2), .second] [(.int (6 : Int32)), (.int (0 : Int32)), (.ref a1)])) _
    refine XS.iadd X0.here hx rfl (hb hby d5_86) rfl ?_
    show Steps p.tables e below (s₁.setTop (mkF m 87 #[.val (.ref a1), .val (.int (0 : Int32)), .val (.long q2), .second] [(.int (6 : Int32)), (.ref a1)])) _
    refine X0.baloadBytes hx (j := (6 : Int32)) (v := (.int w9)) (by rw [e0]; exact Ar47.1) (State.isArrayOf_alike hZ.alike Ar47.2.1) Ar47.2.2 hin47 hat47 (g := (mkF m 87 #[.val (.ref a1), .val (.int (0 : Int32)), .val (.long q2), .second] [(.int (6 : Int32)), (.ref a1)])) rfl rfl (hb hby d5_87) _ ?_
    show Steps p.tables e below (s₁.setTop (mkF m 88 #[.val (.ref a1), .val (.int (0 : Int32)), .val (.long q2), .second] [(.int w9)])) _
    refine XS.lloadN X0.here hx rfl (hb hby d5_88) rfl ?_
    show Steps p.tables e below (s₁.setTop (mkF m 89 #[.val (.ref a1), .val (.int (0 : Int32)), .val (.long q2), .second] [(.long q2), (.int w9)])) _
    refine XS.bipush X0.here hx rfl (hb hby d5_89) ?_
    show Steps p.tables e below (s₁.setTop (mkF m 91 #[.val (.ref a1), .val (.int (0 : Int32)), .val (.long q2), .second] [(.int (8 : Int32)), (.long q2), (.int w9)])) _
    refine XS.lushr X0.here hx rfl (hb hby d5_91) rfl ?_
    show Steps p.tables e below (s₁.setTop (mkF m 92 #[.val (.ref a1), .val (.int (0 : Int32)), .val (.long q2), .second] [(.long ((q2.toUInt64 >>> ((8 : Int32) &&& 0x3f).toInt64.toUInt64).toInt64)), (.int w9)])) _
    refine XS.l2i X0.here hx rfl (hb hby d5_92) rfl ?_
    show Steps p.tables e below (s₁.setTop (mkF m 93 #[.val (.ref a1), .val (.int (0 : Int32)), .val (.long q2), .second] [(.int (((q2.toUInt64 >>> ((8 : Int32) &&& 0x3f).toInt64.toUInt64).toInt64).toInt32)), (.int w9)])) _
    refine XS.i2b X0.here hx rfl (hb hby d5_93) rfl ?_
    show Steps p.tables e below (s₁.setTop (mkF m 94 #[.val (.ref a1), .val (.int (0 : Int32)), .val (.long q2), .second] [(.int ((((q2.toUInt64 >>> ((8 : Int32) &&& 0x3f).toInt64.toUInt64).toInt64).toInt32).toInt8.toInt32)), (.int w9)])) _
    refine XS.icmpNo X0.here hx rfl (hb hby d5_94) rfl (teq P48).2 ?_
    show Steps p.tables e below (s₁.setTop (mkF m 97 #[.val (.ref a1), .val (.int (0 : Int32)), .val (.long q2), .second] [])) _
    refine XS.aloadN X0.here hx rfl (hb hby d5_97) rfl rfl ?_
    show Steps p.tables e below (s₁.setTop (mkF m 98 #[.val (.ref a1), .val (.int (0 : Int32)), .val (.long q2), .second] [(.ref a1)])) _
    refine XS.iloadN X0.here hx rfl (hb hby d5_98) rfl ?_
    show Steps p.tables e below (s₁.setTop (mkF m 99 #[.val (.ref a1), .val (.int (0 : Int32)), .val (.long q2), .second] [(.int (0 : Int32)), (.ref a1)])) _
    refine XS.bipush X0.here hx rfl (hb hby d5_99) ?_
    show Steps p.tables e below (s₁.setTop (mkF m 101 #[.val (.ref a1), .val (.int (0 : Int32)), .val (.long q2), .second] [(.int (7 : Int32)), (.int (0 : Int32)), (.ref a1)])) _
    refine XS.iadd X0.here hx rfl (hb hby d5_101) rfl ?_
    show Steps p.tables e below (s₁.setTop (mkF m 102 #[.val (.ref a1), .val (.int (0 : Int32)), .val (.long q2), .second] [(.int (7 : Int32)), (.ref a1)])) _
    refine X0.baloadBytes hx (j := (7 : Int32)) (v := (.int w10)) (by rw [e0]; exact Ar49.1) (State.isArrayOf_alike hZ.alike Ar49.2.1) Ar49.2.2 hin49 hat49 (g := (mkF m 102 #[.val (.ref a1), .val (.int (0 : Int32)), .val (.long q2), .second] [(.int (7 : Int32)), (.ref a1)])) rfl rfl (hb hby d5_102) _ ?_
    show Steps p.tables e below (s₁.setTop (mkF m 103 #[.val (.ref a1), .val (.int (0 : Int32)), .val (.long q2), .second] [(.int w10)])) _
    refine XS.lloadN X0.here hx rfl (hb hby d5_103) rfl ?_
    show Steps p.tables e below (s₁.setTop (mkF m 104 #[.val (.ref a1), .val (.int (0 : Int32)), .val (.long q2), .second] [(.long q2), (.int w10)])) _
    refine XS.l2i X0.here hx rfl (hb hby d5_104) rfl ?_
    show Steps p.tables e below (s₁.setTop (mkF m 105 #[.val (.ref a1), .val (.int (0 : Int32)), .val (.long q2), .second] [(.int (q2.toInt32)), (.int w10)])) _
    refine XS.i2b X0.here hx rfl (hb hby d5_105) rfl ?_
    show Steps p.tables e below (s₁.setTop (mkF m 106 #[.val (.ref a1), .val (.int (0 : Int32)), .val (.long q2), .second] [(.int ((q2.toInt32).toInt8.toInt32)), (.int w10)])) _
    refine XS.icmpNo X0.here hx rfl (hb hby d5_106) rfl (teq P50).2 ?_
    show Steps p.tables e below (s₁.setTop (mkF m 109 #[.val (.ref a1), .val (.int (0 : Int32)), .val (.long q2), .second] [])) _
    refine XS.iconst X0.here hx rfl (hb hby d5_109) ?_
    show Steps p.tables e below (s₁.setTop (mkF m 110 #[.val (.ref a1), .val (.int (0 : Int32)), .val (.long q2), .second] [(.int (1 : Int32))])) _
    refine XS.goto X0.here hx rfl (pc0 := 110) (pc' := 114) rfl (hb hby d5_110) (by decide) (by decide) ?_
    show Steps p.tables e below (s₁.setTop (mkF m 114 #[.val (.ref a1), .val (.int (0 : Int32)), .val (.long q2), .second] [(.int (1 : Int32))])) _
    exact retN X0 hx (t := .boolean) Bd.returns (by simp) (hb hby d5_114) hr
  · show Q5_5 Z a1 q2 k_a1 w3 w4 w5 w6 w7 w8 w9 w10 w11 w12 w13 w14 w15 w16 w17 w18 w19 w20 w21 w22 w23 w24 w25 w26 w27 w28 w29 w30 w31 w32 w33 w34 h0 n0 _ s₁.heap _
    rw [e0]
    exact ⟨rfl, N0, rfl⟩
def Q5_6 (Z : State) (a1 : Addr) (q2 : Int64) (k_a1 : ClassId) (w3 : Int32) (w4 : Int32) (w5 : Int32) (w6 : Int32) (w7 : Int32) (w8 : Int32) (w9 : Int32) (w10 : Int32) (w11 : Int32) (w12 : Int32) (w13 : Int32) (w14 : Int32) (w15 : Int32) (w16 : Int32) (w17 : Int32) (w18 : Int32) (w19 : Int32) (w20 : Int32) (w21 : Int32) (w22 : Int32) (w23 : Int32) (w24 : Int32) (w25 : Int32) (w26 : Int32) (w27 : Int32) (w28 : Int32) (w29 : Int32) (w30 : Int32) (w31 : Int32) (w32 : Int32) (w33 : Int32) (w34 : Int32) (h0 : Heap) (n0 : Nat) (v : Option Value) (h : Heap) (L : List Loc) : Prop := v = some (.int (1 : Int32)) ∧ Fr n0 L ∧ h = h0
set_option maxRecDepth 65536 in
set_option maxHeartbeats 40000000 in
theorem rm5_6 (l : Launch) (Z : State) (a0 : Array Value) (hw : ∀ d ∈ tables_1, d.before a0 Z = true) (ws : List Jvm.Cond) (a1 : Addr) (q2 : Int64) (k_a1 : ClassId) (w3 : Int32) (w4 : Int32) (w5 : Int32) (w6 : Int32) (w7 : Int32) (w8 : Int32) (w9 : Int32) (w10 : Int32) (w11 : Int32) (w12 : Int32) (w13 : Int32) (w14 : Int32) (w15 : Int32) (w16 : Int32) (w17 : Int32) (w18 : Int32) (w19 : Int32) (w20 : Int32) (w21 : Int32) (w22 : Int32) (w23 : Int32) (w24 : Int32) (w25 : Int32) (w26 : Int32) (w27 : Int32) (w28 : Int32) (w29 : Int32) (w30 : Int32) (w31 : Int32) (w32 : Int32) (w33 : Int32) (w34 : Int32) (h0 : Heap) (n0 : Nat) (Z0 : n0 ≤ h0.size) (V_a1 : Arv Z h0 a1 k_a1 .byte (32 : Int32) [(.int w3), (.int w4), (.int w5), (.int w6), (.int w7), (.int w8), (.int w9), (.int w10), (.int w11), (.int w12), (.int w13), (.int w14), (.int w15), (.int w16), (.int w17), (.int w18), (.int w19), (.int w20), (.int w21), (.int w22), (.int w23), (.int w24), (.int w25), (.int w26), (.int w27), (.int w28), (.int w29), (.int w30), (.int w31), (.int w32), (.int w33), (.int w34)] (.int (0 : Int32))) (P36 : w11 = ((((q2.toUInt64 >>> ((56 : Int32) &&& 0x3f).toInt64.toUInt64).toInt64).toInt32).toInt8.toInt32)) (P38 : w12 = ((((q2.toUInt64 >>> ((48 : Int32) &&& 0x3f).toInt64.toUInt64).toInt64).toInt32).toInt8.toInt32)) (P40 : w13 = ((((q2.toUInt64 >>> ((40 : Int32) &&& 0x3f).toInt64.toUInt64).toInt64).toInt32).toInt8.toInt32)) (P42 : w14 = ((((q2.toUInt64 >>> ((32 : Int32) &&& 0x3f).toInt64.toUInt64).toInt64).toInt32).toInt8.toInt32)) (P44 : w15 = ((((q2.toUInt64 >>> ((24 : Int32) &&& 0x3f).toInt64.toUInt64).toInt64).toInt32).toInt8.toInt32)) (P46 : w16 = ((((q2.toUInt64 >>> ((16 : Int32) &&& 0x3f).toInt64.toUInt64).toInt64).toInt32).toInt8.toInt32)) (P48 : w17 = ((((q2.toUInt64 >>> ((8 : Int32) &&& 0x3f).toInt64.toUInt64).toInt64).toInt32).toInt8.toInt32)) (P50 : w18 = ((q2.toInt32).toInt8.toInt32)) :
    MetFree l (⟨"com/example/lasting_names/lastingnames/Ed25519SubjectPublicKeyInfoPinLaw", "same", "([BIJ)Z"⟩ : MethodName) (head1 (Jvm.Cond.code (⟨"com/example/lasting_names/lastingnames/Ed25519SubjectPublicKeyInfoPinLaw", "same", "([BIJ)Z"⟩ : MethodName) method_3_code 4 (some .boolean) :: ws) ({ frames := 0, cells := 0, slots := 0, locals := 0 } : Room)) (fun a U => a = #[(.ref a1), (.int (8 : Int32)), (.long q2)] ∧ Z.Warmed39 U.vm ∧ U.heap = h0) (fun _ _ _ _ _ => True) (fun _ U o U' => ∃ v L, o = .returned v ∧ Q5_6 Z a1 q2 k_a1 w3 w4 w5 w6 w7 w8 w9 w10 w11 w12 w13 w14 w15 w16 w17 w18 w19 w20 w21 w22 w23 w24 w25 w26 w27 w28 w29 w30 w31 w32 w33 w34 h0 n0 v U'.heap L ∧ FrameEnd U o U' L ({ frames := 0, cells := 0, slots := 0, locals := 0 } : Room).cells ({ frames := 0, cells := 0, slots := 0, locals := 0 } : Room).slots) := by
  refine MetFree.of_bodySF (plainFor_of_name pn_5) hisR ?_
  intro p e s m args below meth c s₁ Bd hml0 hP hK
  obtain ⟨rfl, hZ, hh⟩ := hP
  have hx := Bd.exec
  have hby := Bd.bytes
  have hml : c.maxLocals = 4 := hml0
  have hown : s.vm.findClass "com/example/lasting_names/lastingnames/Ed25519SubjectPublicKeyInfoPinLaw" = some m.cls := findClass_of_methodNamed Bd.named
  have hnm := (name_of_methodNamed Bd.named Bd.method).1
  have X0 : Stand p l e ({ frames := 0, cells := 0, slots := 0, locals := 0 } : Room) s m #[(.ref a1), (.int (8 : Int32)), (.long q2)] below meth c s₁ [] 0 0 := Stand.of_body Bd
  have e0 : s₁.heap = h0 := by rw [← hh, Bd.state]; rfl
  have N0 := Fr.nil n0
  have pre0 : ∀ t, Steps p.tables e below (s₁.setTop (mkF m 0 #[.val (.ref a1), .val (.int (8 : Int32)), .val (.long q2), .second] [])) t → Steps p.tables e below (s₁.setTop (entryFrame m #[(.ref a1), (.int (8 : Int32)), (.long q2)] 4)) t := fun t k => castTop (ef_5_RIJ m a1 (8 : Int32) q2) k
  obtain ⟨cl35, Ar35, q35, S35, N_35, H35, G35⟩ := id V_a1
  have hin35 : ¬ ((8 : Int32) < 0 ∨ cl35.slots.size ≤ ((8 : Int32)).toNatClampNeg) := inb_of S35 ⟨by decide, (by decide : (8 : Int32) < (32 : Int32))⟩
  have hat35 : cl35.slots[((8 : Int32)).toNatClampNeg]? = some (.int w11) := Has.at H35 hin35 rfl
  obtain ⟨cl37, Ar37, q37, S37, N_37, H37, G37⟩ := id V_a1
  have hin37 : ¬ ((9 : Int32) < 0 ∨ cl37.slots.size ≤ ((9 : Int32)).toNatClampNeg) := inb_of S37 ⟨by decide, (by decide : (9 : Int32) < (32 : Int32))⟩
  have hat37 : cl37.slots[((9 : Int32)).toNatClampNeg]? = some (.int w12) := Has.at H37 hin37 rfl
  obtain ⟨cl39, Ar39, q39, S39, N_39, H39, G39⟩ := id V_a1
  have hin39 : ¬ ((10 : Int32) < 0 ∨ cl39.slots.size ≤ ((10 : Int32)).toNatClampNeg) := inb_of S39 ⟨by decide, (by decide : (10 : Int32) < (32 : Int32))⟩
  have hat39 : cl39.slots[((10 : Int32)).toNatClampNeg]? = some (.int w13) := Has.at H39 hin39 rfl
  obtain ⟨cl41, Ar41, q41, S41, N_41, H41, G41⟩ := id V_a1
  have hin41 : ¬ ((11 : Int32) < 0 ∨ cl41.slots.size ≤ ((11 : Int32)).toNatClampNeg) := inb_of S41 ⟨by decide, (by decide : (11 : Int32) < (32 : Int32))⟩
  have hat41 : cl41.slots[((11 : Int32)).toNatClampNeg]? = some (.int w14) := Has.at H41 hin41 rfl
  obtain ⟨cl43, Ar43, q43, S43, N_43, H43, G43⟩ := id V_a1
  have hin43 : ¬ ((12 : Int32) < 0 ∨ cl43.slots.size ≤ ((12 : Int32)).toNatClampNeg) := inb_of S43 ⟨by decide, (by decide : (12 : Int32) < (32 : Int32))⟩
  have hat43 : cl43.slots[((12 : Int32)).toNatClampNeg]? = some (.int w15) := Has.at H43 hin43 rfl
  obtain ⟨cl45, Ar45, q45, S45, N_45, H45, G45⟩ := id V_a1
  have hin45 : ¬ ((13 : Int32) < 0 ∨ cl45.slots.size ≤ ((13 : Int32)).toNatClampNeg) := inb_of S45 ⟨by decide, (by decide : (13 : Int32) < (32 : Int32))⟩
  have hat45 : cl45.slots[((13 : Int32)).toNatClampNeg]? = some (.int w16) := Has.at H45 hin45 rfl
  obtain ⟨cl47, Ar47, q47, S47, N_47, H47, G47⟩ := id V_a1
  have hin47 : ¬ ((14 : Int32) < 0 ∨ cl47.slots.size ≤ ((14 : Int32)).toNatClampNeg) := inb_of S47 ⟨by decide, (by decide : (14 : Int32) < (32 : Int32))⟩
  have hat47 : cl47.slots[((14 : Int32)).toNatClampNeg]? = some (.int w17) := Has.at H47 hin47 rfl
  obtain ⟨cl49, Ar49, q49, S49, N_49, H49, G49⟩ := id V_a1
  have hin49 : ¬ ((15 : Int32) < 0 ∨ cl49.slots.size ≤ ((15 : Int32)).toNatClampNeg) := inb_of S49 ⟨by decide, (by decide : (15 : Int32) < (32 : Int32))⟩
  have hat49 : cl49.slots[((15 : Int32)).toNatClampNeg]? = some (.int w18) := Has.at H49 hin49 rfl
  obtain ⟨fs, hr, hrun, hended, hW, hsame⟩ := X0.leave (v := some (.int (1 : Int32))) (fun h => by rw [Bd.returns] at h; cases h)
  refine ⟨_, _, pre0 _ ?_, hrun, hended, _, _, rfl, ?_, ⟨_, rfl⟩, hW, hsame.mono (by decide) (by decide)⟩
  · show Steps p.tables e below (s₁.setTop (mkF m 0 #[.val (.ref a1), .val (.int (8 : Int32)), .val (.long q2), .second] [])) _
    refine XS.aloadN X0.here hx rfl (hb hby d5_0) rfl rfl ?_
    show Steps p.tables e below (s₁.setTop (mkF m 1 #[.val (.ref a1), .val (.int (8 : Int32)), .val (.long q2), .second] [(.ref a1)])) _
    refine XS.iloadN X0.here hx rfl (hb hby d5_1) rfl ?_
    show Steps p.tables e below (s₁.setTop (mkF m 2 #[.val (.ref a1), .val (.int (8 : Int32)), .val (.long q2), .second] [(.int (8 : Int32)), (.ref a1)])) _
    refine X0.baloadBytes hx (j := (8 : Int32)) (v := (.int w11)) (by rw [e0]; exact Ar35.1) (State.isArrayOf_alike hZ.alike Ar35.2.1) Ar35.2.2 hin35 hat35 (g := (mkF m 2 #[.val (.ref a1), .val (.int (8 : Int32)), .val (.long q2), .second] [(.int (8 : Int32)), (.ref a1)])) rfl rfl (hb hby d5_2) _ ?_
    show Steps p.tables e below (s₁.setTop (mkF m 3 #[.val (.ref a1), .val (.int (8 : Int32)), .val (.long q2), .second] [(.int w11)])) _
    refine XS.lloadN X0.here hx rfl (hb hby d5_3) rfl ?_
    show Steps p.tables e below (s₁.setTop (mkF m 4 #[.val (.ref a1), .val (.int (8 : Int32)), .val (.long q2), .second] [(.long q2), (.int w11)])) _
    refine XS.bipush X0.here hx rfl (hb hby d5_4) ?_
    show Steps p.tables e below (s₁.setTop (mkF m 6 #[.val (.ref a1), .val (.int (8 : Int32)), .val (.long q2), .second] [(.int (56 : Int32)), (.long q2), (.int w11)])) _
    refine XS.lushr X0.here hx rfl (hb hby d5_6) rfl ?_
    show Steps p.tables e below (s₁.setTop (mkF m 7 #[.val (.ref a1), .val (.int (8 : Int32)), .val (.long q2), .second] [(.long ((q2.toUInt64 >>> ((56 : Int32) &&& 0x3f).toInt64.toUInt64).toInt64)), (.int w11)])) _
    refine XS.l2i X0.here hx rfl (hb hby d5_7) rfl ?_
    show Steps p.tables e below (s₁.setTop (mkF m 8 #[.val (.ref a1), .val (.int (8 : Int32)), .val (.long q2), .second] [(.int (((q2.toUInt64 >>> ((56 : Int32) &&& 0x3f).toInt64.toUInt64).toInt64).toInt32)), (.int w11)])) _
    refine XS.i2b X0.here hx rfl (hb hby d5_8) rfl ?_
    show Steps p.tables e below (s₁.setTop (mkF m 9 #[.val (.ref a1), .val (.int (8 : Int32)), .val (.long q2), .second] [(.int ((((q2.toUInt64 >>> ((56 : Int32) &&& 0x3f).toInt64.toUInt64).toInt64).toInt32).toInt8.toInt32)), (.int w11)])) _
    refine XS.icmpNo X0.here hx rfl (hb hby d5_9) rfl (teq P36).2 ?_
    show Steps p.tables e below (s₁.setTop (mkF m 12 #[.val (.ref a1), .val (.int (8 : Int32)), .val (.long q2), .second] [])) _
    refine XS.aloadN X0.here hx rfl (hb hby d5_12) rfl rfl ?_
    show Steps p.tables e below (s₁.setTop (mkF m 13 #[.val (.ref a1), .val (.int (8 : Int32)), .val (.long q2), .second] [(.ref a1)])) _
    refine XS.iloadN X0.here hx rfl (hb hby d5_13) rfl ?_
    show Steps p.tables e below (s₁.setTop (mkF m 14 #[.val (.ref a1), .val (.int (8 : Int32)), .val (.long q2), .second] [(.int (8 : Int32)), (.ref a1)])) _
    refine XS.iconst X0.here hx rfl (hb hby d5_14) ?_
    show Steps p.tables e below (s₁.setTop (mkF m 15 #[.val (.ref a1), .val (.int (8 : Int32)), .val (.long q2), .second] [(.int (1 : Int32)), (.int (8 : Int32)), (.ref a1)])) _
    refine XS.iadd X0.here hx rfl (hb hby d5_15) rfl ?_
    show Steps p.tables e below (s₁.setTop (mkF m 16 #[.val (.ref a1), .val (.int (8 : Int32)), .val (.long q2), .second] [(.int (9 : Int32)), (.ref a1)])) _
    refine X0.baloadBytes hx (j := (9 : Int32)) (v := (.int w12)) (by rw [e0]; exact Ar37.1) (State.isArrayOf_alike hZ.alike Ar37.2.1) Ar37.2.2 hin37 hat37 (g := (mkF m 16 #[.val (.ref a1), .val (.int (8 : Int32)), .val (.long q2), .second] [(.int (9 : Int32)), (.ref a1)])) rfl rfl (hb hby d5_16) _ ?_
    show Steps p.tables e below (s₁.setTop (mkF m 17 #[.val (.ref a1), .val (.int (8 : Int32)), .val (.long q2), .second] [(.int w12)])) _
    refine XS.lloadN X0.here hx rfl (hb hby d5_17) rfl ?_
    show Steps p.tables e below (s₁.setTop (mkF m 18 #[.val (.ref a1), .val (.int (8 : Int32)), .val (.long q2), .second] [(.long q2), (.int w12)])) _
    refine XS.bipush X0.here hx rfl (hb hby d5_18) ?_
    show Steps p.tables e below (s₁.setTop (mkF m 20 #[.val (.ref a1), .val (.int (8 : Int32)), .val (.long q2), .second] [(.int (48 : Int32)), (.long q2), (.int w12)])) _
    refine XS.lushr X0.here hx rfl (hb hby d5_20) rfl ?_
    show Steps p.tables e below (s₁.setTop (mkF m 21 #[.val (.ref a1), .val (.int (8 : Int32)), .val (.long q2), .second] [(.long ((q2.toUInt64 >>> ((48 : Int32) &&& 0x3f).toInt64.toUInt64).toInt64)), (.int w12)])) _
    refine XS.l2i X0.here hx rfl (hb hby d5_21) rfl ?_
    show Steps p.tables e below (s₁.setTop (mkF m 22 #[.val (.ref a1), .val (.int (8 : Int32)), .val (.long q2), .second] [(.int (((q2.toUInt64 >>> ((48 : Int32) &&& 0x3f).toInt64.toUInt64).toInt64).toInt32)), (.int w12)])) _
    refine XS.i2b X0.here hx rfl (hb hby d5_22) rfl ?_
    show Steps p.tables e below (s₁.setTop (mkF m 23 #[.val (.ref a1), .val (.int (8 : Int32)), .val (.long q2), .second] [(.int ((((q2.toUInt64 >>> ((48 : Int32) &&& 0x3f).toInt64.toUInt64).toInt64).toInt32).toInt8.toInt32)), (.int w12)])) _
    refine XS.icmpNo X0.here hx rfl (hb hby d5_23) rfl (teq P38).2 ?_
    show Steps p.tables e below (s₁.setTop (mkF m 26 #[.val (.ref a1), .val (.int (8 : Int32)), .val (.long q2), .second] [])) _
    refine XS.aloadN X0.here hx rfl (hb hby d5_26) rfl rfl ?_
    show Steps p.tables e below (s₁.setTop (mkF m 27 #[.val (.ref a1), .val (.int (8 : Int32)), .val (.long q2), .second] [(.ref a1)])) _
    refine XS.iloadN X0.here hx rfl (hb hby d5_27) rfl ?_
    show Steps p.tables e below (s₁.setTop (mkF m 28 #[.val (.ref a1), .val (.int (8 : Int32)), .val (.long q2), .second] [(.int (8 : Int32)), (.ref a1)])) _
    refine XS.iconst X0.here hx rfl (hb hby d5_28) ?_
    show Steps p.tables e below (s₁.setTop (mkF m 29 #[.val (.ref a1), .val (.int (8 : Int32)), .val (.long q2), .second] [(.int (2 : Int32)), (.int (8 : Int32)), (.ref a1)])) _
    refine XS.iadd X0.here hx rfl (hb hby d5_29) rfl ?_
    show Steps p.tables e below (s₁.setTop (mkF m 30 #[.val (.ref a1), .val (.int (8 : Int32)), .val (.long q2), .second] [(.int (10 : Int32)), (.ref a1)])) _
    refine X0.baloadBytes hx (j := (10 : Int32)) (v := (.int w13)) (by rw [e0]; exact Ar39.1) (State.isArrayOf_alike hZ.alike Ar39.2.1) Ar39.2.2 hin39 hat39 (g := (mkF m 30 #[.val (.ref a1), .val (.int (8 : Int32)), .val (.long q2), .second] [(.int (10 : Int32)), (.ref a1)])) rfl rfl (hb hby d5_30) _ ?_
    show Steps p.tables e below (s₁.setTop (mkF m 31 #[.val (.ref a1), .val (.int (8 : Int32)), .val (.long q2), .second] [(.int w13)])) _
    refine XS.lloadN X0.here hx rfl (hb hby d5_31) rfl ?_
    show Steps p.tables e below (s₁.setTop (mkF m 32 #[.val (.ref a1), .val (.int (8 : Int32)), .val (.long q2), .second] [(.long q2), (.int w13)])) _
    refine XS.bipush X0.here hx rfl (hb hby d5_32) ?_
    show Steps p.tables e below (s₁.setTop (mkF m 34 #[.val (.ref a1), .val (.int (8 : Int32)), .val (.long q2), .second] [(.int (40 : Int32)), (.long q2), (.int w13)])) _
    refine XS.lushr X0.here hx rfl (hb hby d5_34) rfl ?_
    show Steps p.tables e below (s₁.setTop (mkF m 35 #[.val (.ref a1), .val (.int (8 : Int32)), .val (.long q2), .second] [(.long ((q2.toUInt64 >>> ((40 : Int32) &&& 0x3f).toInt64.toUInt64).toInt64)), (.int w13)])) _
    refine XS.l2i X0.here hx rfl (hb hby d5_35) rfl ?_
    show Steps p.tables e below (s₁.setTop (mkF m 36 #[.val (.ref a1), .val (.int (8 : Int32)), .val (.long q2), .second] [(.int (((q2.toUInt64 >>> ((40 : Int32) &&& 0x3f).toInt64.toUInt64).toInt64).toInt32)), (.int w13)])) _
    refine XS.i2b X0.here hx rfl (hb hby d5_36) rfl ?_
    show Steps p.tables e below (s₁.setTop (mkF m 37 #[.val (.ref a1), .val (.int (8 : Int32)), .val (.long q2), .second] [(.int ((((q2.toUInt64 >>> ((40 : Int32) &&& 0x3f).toInt64.toUInt64).toInt64).toInt32).toInt8.toInt32)), (.int w13)])) _
    refine XS.icmpNo X0.here hx rfl (hb hby d5_37) rfl (teq P40).2 ?_
    show Steps p.tables e below (s₁.setTop (mkF m 40 #[.val (.ref a1), .val (.int (8 : Int32)), .val (.long q2), .second] [])) _
    refine XS.aloadN X0.here hx rfl (hb hby d5_40) rfl rfl ?_
    show Steps p.tables e below (s₁.setTop (mkF m 41 #[.val (.ref a1), .val (.int (8 : Int32)), .val (.long q2), .second] [(.ref a1)])) _
    refine XS.iloadN X0.here hx rfl (hb hby d5_41) rfl ?_
    show Steps p.tables e below (s₁.setTop (mkF m 42 #[.val (.ref a1), .val (.int (8 : Int32)), .val (.long q2), .second] [(.int (8 : Int32)), (.ref a1)])) _
    refine XS.iconst X0.here hx rfl (hb hby d5_42) ?_
    show Steps p.tables e below (s₁.setTop (mkF m 43 #[.val (.ref a1), .val (.int (8 : Int32)), .val (.long q2), .second] [(.int (3 : Int32)), (.int (8 : Int32)), (.ref a1)])) _
    refine XS.iadd X0.here hx rfl (hb hby d5_43) rfl ?_
    show Steps p.tables e below (s₁.setTop (mkF m 44 #[.val (.ref a1), .val (.int (8 : Int32)), .val (.long q2), .second] [(.int (11 : Int32)), (.ref a1)])) _
    refine X0.baloadBytes hx (j := (11 : Int32)) (v := (.int w14)) (by rw [e0]; exact Ar41.1) (State.isArrayOf_alike hZ.alike Ar41.2.1) Ar41.2.2 hin41 hat41 (g := (mkF m 44 #[.val (.ref a1), .val (.int (8 : Int32)), .val (.long q2), .second] [(.int (11 : Int32)), (.ref a1)])) rfl rfl (hb hby d5_44) _ ?_
    show Steps p.tables e below (s₁.setTop (mkF m 45 #[.val (.ref a1), .val (.int (8 : Int32)), .val (.long q2), .second] [(.int w14)])) _
    refine XS.lloadN X0.here hx rfl (hb hby d5_45) rfl ?_
    show Steps p.tables e below (s₁.setTop (mkF m 46 #[.val (.ref a1), .val (.int (8 : Int32)), .val (.long q2), .second] [(.long q2), (.int w14)])) _
    refine XS.bipush X0.here hx rfl (hb hby d5_46) ?_
    show Steps p.tables e below (s₁.setTop (mkF m 48 #[.val (.ref a1), .val (.int (8 : Int32)), .val (.long q2), .second] [(.int (32 : Int32)), (.long q2), (.int w14)])) _
    refine XS.lushr X0.here hx rfl (hb hby d5_48) rfl ?_
    show Steps p.tables e below (s₁.setTop (mkF m 49 #[.val (.ref a1), .val (.int (8 : Int32)), .val (.long q2), .second] [(.long ((q2.toUInt64 >>> ((32 : Int32) &&& 0x3f).toInt64.toUInt64).toInt64)), (.int w14)])) _
    refine XS.l2i X0.here hx rfl (hb hby d5_49) rfl ?_
    show Steps p.tables e below (s₁.setTop (mkF m 50 #[.val (.ref a1), .val (.int (8 : Int32)), .val (.long q2), .second] [(.int (((q2.toUInt64 >>> ((32 : Int32) &&& 0x3f).toInt64.toUInt64).toInt64).toInt32)), (.int w14)])) _
    refine XS.i2b X0.here hx rfl (hb hby d5_50) rfl ?_
    show Steps p.tables e below (s₁.setTop (mkF m 51 #[.val (.ref a1), .val (.int (8 : Int32)), .val (.long q2), .second] [(.int ((((q2.toUInt64 >>> ((32 : Int32) &&& 0x3f).toInt64.toUInt64).toInt64).toInt32).toInt8.toInt32)), (.int w14)])) _
    refine XS.icmpNo X0.here hx rfl (hb hby d5_51) rfl (teq P42).2 ?_
    show Steps p.tables e below (s₁.setTop (mkF m 54 #[.val (.ref a1), .val (.int (8 : Int32)), .val (.long q2), .second] [])) _
    refine XS.aloadN X0.here hx rfl (hb hby d5_54) rfl rfl ?_
    show Steps p.tables e below (s₁.setTop (mkF m 55 #[.val (.ref a1), .val (.int (8 : Int32)), .val (.long q2), .second] [(.ref a1)])) _
    refine XS.iloadN X0.here hx rfl (hb hby d5_55) rfl ?_
    show Steps p.tables e below (s₁.setTop (mkF m 56 #[.val (.ref a1), .val (.int (8 : Int32)), .val (.long q2), .second] [(.int (8 : Int32)), (.ref a1)])) _
    refine XS.iconst X0.here hx rfl (hb hby d5_56) ?_
    show Steps p.tables e below (s₁.setTop (mkF m 57 #[.val (.ref a1), .val (.int (8 : Int32)), .val (.long q2), .second] [(.int (4 : Int32)), (.int (8 : Int32)), (.ref a1)])) _
    refine XS.iadd X0.here hx rfl (hb hby d5_57) rfl ?_
    show Steps p.tables e below (s₁.setTop (mkF m 58 #[.val (.ref a1), .val (.int (8 : Int32)), .val (.long q2), .second] [(.int (12 : Int32)), (.ref a1)])) _
    refine X0.baloadBytes hx (j := (12 : Int32)) (v := (.int w15)) (by rw [e0]; exact Ar43.1) (State.isArrayOf_alike hZ.alike Ar43.2.1) Ar43.2.2 hin43 hat43 (g := (mkF m 58 #[.val (.ref a1), .val (.int (8 : Int32)), .val (.long q2), .second] [(.int (12 : Int32)), (.ref a1)])) rfl rfl (hb hby d5_58) _ ?_
    show Steps p.tables e below (s₁.setTop (mkF m 59 #[.val (.ref a1), .val (.int (8 : Int32)), .val (.long q2), .second] [(.int w15)])) _
    refine XS.lloadN X0.here hx rfl (hb hby d5_59) rfl ?_
    show Steps p.tables e below (s₁.setTop (mkF m 60 #[.val (.ref a1), .val (.int (8 : Int32)), .val (.long q2), .second] [(.long q2), (.int w15)])) _
    refine XS.bipush X0.here hx rfl (hb hby d5_60) ?_
    show Steps p.tables e below (s₁.setTop (mkF m 62 #[.val (.ref a1), .val (.int (8 : Int32)), .val (.long q2), .second] [(.int (24 : Int32)), (.long q2), (.int w15)])) _
    refine XS.lushr X0.here hx rfl (hb hby d5_62) rfl ?_
    show Steps p.tables e below (s₁.setTop (mkF m 63 #[.val (.ref a1), .val (.int (8 : Int32)), .val (.long q2), .second] [(.long ((q2.toUInt64 >>> ((24 : Int32) &&& 0x3f).toInt64.toUInt64).toInt64)), (.int w15)])) _
    refine XS.l2i X0.here hx rfl (hb hby d5_63) rfl ?_
    show Steps p.tables e below (s₁.setTop (mkF m 64 #[.val (.ref a1), .val (.int (8 : Int32)), .val (.long q2), .second] [(.int (((q2.toUInt64 >>> ((24 : Int32) &&& 0x3f).toInt64.toUInt64).toInt64).toInt32)), (.int w15)])) _
    refine XS.i2b X0.here hx rfl (hb hby d5_64) rfl ?_
    show Steps p.tables e below (s₁.setTop (mkF m 65 #[.val (.ref a1), .val (.int (8 : Int32)), .val (.long q2), .second] [(.int ((((q2.toUInt64 >>> ((24 : Int32) &&& 0x3f).toInt64.toUInt64).toInt64).toInt32).toInt8.toInt32)), (.int w15)])) _
    refine XS.icmpNo X0.here hx rfl (hb hby d5_65) rfl (teq P44).2 ?_
    show Steps p.tables e below (s₁.setTop (mkF m 68 #[.val (.ref a1), .val (.int (8 : Int32)), .val (.long q2), .second] [])) _
    refine XS.aloadN X0.here hx rfl (hb hby d5_68) rfl rfl ?_
    show Steps p.tables e below (s₁.setTop (mkF m 69 #[.val (.ref a1), .val (.int (8 : Int32)), .val (.long q2), .second] [(.ref a1)])) _
    refine XS.iloadN X0.here hx rfl (hb hby d5_69) rfl ?_
    show Steps p.tables e below (s₁.setTop (mkF m 70 #[.val (.ref a1), .val (.int (8 : Int32)), .val (.long q2), .second] [(.int (8 : Int32)), (.ref a1)])) _
    refine XS.iconst X0.here hx rfl (hb hby d5_70) ?_
    show Steps p.tables e below (s₁.setTop (mkF m 71 #[.val (.ref a1), .val (.int (8 : Int32)), .val (.long q2), .second] [(.int (5 : Int32)), (.int (8 : Int32)), (.ref a1)])) _
    refine XS.iadd X0.here hx rfl (hb hby d5_71) rfl ?_
    show Steps p.tables e below (s₁.setTop (mkF m 72 #[.val (.ref a1), .val (.int (8 : Int32)), .val (.long q2), .second] [(.int (13 : Int32)), (.ref a1)])) _
    refine X0.baloadBytes hx (j := (13 : Int32)) (v := (.int w16)) (by rw [e0]; exact Ar45.1) (State.isArrayOf_alike hZ.alike Ar45.2.1) Ar45.2.2 hin45 hat45 (g := (mkF m 72 #[.val (.ref a1), .val (.int (8 : Int32)), .val (.long q2), .second] [(.int (13 : Int32)), (.ref a1)])) rfl rfl (hb hby d5_72) _ ?_
    show Steps p.tables e below (s₁.setTop (mkF m 73 #[.val (.ref a1), .val (.int (8 : Int32)), .val (.long q2), .second] [(.int w16)])) _
    refine XS.lloadN X0.here hx rfl (hb hby d5_73) rfl ?_
    show Steps p.tables e below (s₁.setTop (mkF m 74 #[.val (.ref a1), .val (.int (8 : Int32)), .val (.long q2), .second] [(.long q2), (.int w16)])) _
    refine XS.bipush X0.here hx rfl (hb hby d5_74) ?_
    show Steps p.tables e below (s₁.setTop (mkF m 76 #[.val (.ref a1), .val (.int (8 : Int32)), .val (.long q2), .second] [(.int (16 : Int32)), (.long q2), (.int w16)])) _
    refine XS.lushr X0.here hx rfl (hb hby d5_76) rfl ?_
    show Steps p.tables e below (s₁.setTop (mkF m 77 #[.val (.ref a1), .val (.int (8 : Int32)), .val (.long q2), .second] [(.long ((q2.toUInt64 >>> ((16 : Int32) &&& 0x3f).toInt64.toUInt64).toInt64)), (.int w16)])) _
    refine XS.l2i X0.here hx rfl (hb hby d5_77) rfl ?_
    show Steps p.tables e below (s₁.setTop (mkF m 78 #[.val (.ref a1), .val (.int (8 : Int32)), .val (.long q2), .second] [(.int (((q2.toUInt64 >>> ((16 : Int32) &&& 0x3f).toInt64.toUInt64).toInt64).toInt32)), (.int w16)])) _
    refine XS.i2b X0.here hx rfl (hb hby d5_78) rfl ?_
    show Steps p.tables e below (s₁.setTop (mkF m 79 #[.val (.ref a1), .val (.int (8 : Int32)), .val (.long q2), .second] [(.int ((((q2.toUInt64 >>> ((16 : Int32) &&& 0x3f).toInt64.toUInt64).toInt64).toInt32).toInt8.toInt32)), (.int w16)])) _
    refine XS.icmpNo X0.here hx rfl (hb hby d5_79) rfl (teq P46).2 ?_
    show Steps p.tables e below (s₁.setTop (mkF m 82 #[.val (.ref a1), .val (.int (8 : Int32)), .val (.long q2), .second] [])) _
    refine XS.aloadN X0.here hx rfl (hb hby d5_82) rfl rfl ?_
    show Steps p.tables e below (s₁.setTop (mkF m 83 #[.val (.ref a1), .val (.int (8 : Int32)), .val (.long q2), .second] [(.ref a1)])) _
    refine XS.iloadN X0.here hx rfl (hb hby d5_83) rfl ?_
    show Steps p.tables e below (s₁.setTop (mkF m 84 #[.val (.ref a1), .val (.int (8 : Int32)), .val (.long q2), .second] [(.int (8 : Int32)), (.ref a1)])) _
    refine XS.bipush X0.here hx rfl (hb hby d5_84) ?_
    show Steps p.tables e below (s₁.setTop (mkF m 86 #[.val (.ref a1), .val (.int (8 : Int32)), .val (.long q2), .second] [(.int (6 : Int32)), (.int (8 : Int32)), (.ref a1)])) _
    refine XS.iadd X0.here hx rfl (hb hby d5_86) rfl ?_
    show Steps p.tables e below (s₁.setTop (mkF m 87 #[.val (.ref a1), .val (.int (8 : Int32)), .val (.long q2), .second] [(.int (14 : Int32)), (.ref a1)])) _
    refine X0.baloadBytes hx (j := (14 : Int32)) (v := (.int w17)) (by rw [e0]; exact Ar47.1) (State.isArrayOf_alike hZ.alike Ar47.2.1) Ar47.2.2 hin47 hat47 (g := (mkF m 87 #[.val (.ref a1), .val (.int (8 : Int32)), .val (.long q2), .second] [(.int (14 : Int32)), (.ref a1)])) rfl rfl (hb hby d5_87) _ ?_
    show Steps p.tables e below (s₁.setTop (mkF m 88 #[.val (.ref a1), .val (.int (8 : Int32)), .val (.long q2), .second] [(.int w17)])) _
    refine XS.lloadN X0.here hx rfl (hb hby d5_88) rfl ?_
    show Steps p.tables e below (s₁.setTop (mkF m 89 #[.val (.ref a1), .val (.int (8 : Int32)), .val (.long q2), .second] [(.long q2), (.int w17)])) _
    refine XS.bipush X0.here hx rfl (hb hby d5_89) ?_
    show Steps p.tables e below (s₁.setTop (mkF m 91 #[.val (.ref a1), .val (.int (8 : Int32)), .val (.long q2), .second] [(.int (8 : Int32)), (.long q2), (.int w17)])) _
    refine XS.lushr X0.here hx rfl (hb hby d5_91) rfl ?_
    show Steps p.tables e below (s₁.setTop (mkF m 92 #[.val (.ref a1), .val (.int (8 : Int32)), .val (.long q2), .second] [(.long ((q2.toUInt64 >>> ((8 : Int32) &&& 0x3f).toInt64.toUInt64).toInt64)), (.int w17)])) _
    refine XS.l2i X0.here hx rfl (hb hby d5_92) rfl ?_
    show Steps p.tables e below (s₁.setTop (mkF m 93 #[.val (.ref a1), .val (.int (8 : Int32)), .val (.long q2), .second] [(.int (((q2.toUInt64 >>> ((8 : Int32) &&& 0x3f).toInt64.toUInt64).toInt64).toInt32)), (.int w17)])) _
    refine XS.i2b X0.here hx rfl (hb hby d5_93) rfl ?_
    show Steps p.tables e below (s₁.setTop (mkF m 94 #[.val (.ref a1), .val (.int (8 : Int32)), .val (.long q2), .second] [(.int ((((q2.toUInt64 >>> ((8 : Int32) &&& 0x3f).toInt64.toUInt64).toInt64).toInt32).toInt8.toInt32)), (.int w17)])) _
    refine XS.icmpNo X0.here hx rfl (hb hby d5_94) rfl (teq P48).2 ?_
    show Steps p.tables e below (s₁.setTop (mkF m 97 #[.val (.ref a1), .val (.int (8 : Int32)), .val (.long q2), .second] [])) _
    refine XS.aloadN X0.here hx rfl (hb hby d5_97) rfl rfl ?_
    show Steps p.tables e below (s₁.setTop (mkF m 98 #[.val (.ref a1), .val (.int (8 : Int32)), .val (.long q2), .second] [(.ref a1)])) _
    refine XS.iloadN X0.here hx rfl (hb hby d5_98) rfl ?_
    show Steps p.tables e below (s₁.setTop (mkF m 99 #[.val (.ref a1), .val (.int (8 : Int32)), .val (.long q2), .second] [(.int (8 : Int32)), (.ref a1)])) _
    refine XS.bipush X0.here hx rfl (hb hby d5_99) ?_
    show Steps p.tables e below (s₁.setTop (mkF m 101 #[.val (.ref a1), .val (.int (8 : Int32)), .val (.long q2), .second] [(.int (7 : Int32)), (.int (8 : Int32)), (.ref a1)])) _
    refine XS.iadd X0.here hx rfl (hb hby d5_101) rfl ?_
    show Steps p.tables e below (s₁.setTop (mkF m 102 #[.val (.ref a1), .val (.int (8 : Int32)), .val (.long q2), .second] [(.int (15 : Int32)), (.ref a1)])) _
    refine X0.baloadBytes hx (j := (15 : Int32)) (v := (.int w18)) (by rw [e0]; exact Ar49.1) (State.isArrayOf_alike hZ.alike Ar49.2.1) Ar49.2.2 hin49 hat49 (g := (mkF m 102 #[.val (.ref a1), .val (.int (8 : Int32)), .val (.long q2), .second] [(.int (15 : Int32)), (.ref a1)])) rfl rfl (hb hby d5_102) _ ?_
    show Steps p.tables e below (s₁.setTop (mkF m 103 #[.val (.ref a1), .val (.int (8 : Int32)), .val (.long q2), .second] [(.int w18)])) _
    refine XS.lloadN X0.here hx rfl (hb hby d5_103) rfl ?_
    show Steps p.tables e below (s₁.setTop (mkF m 104 #[.val (.ref a1), .val (.int (8 : Int32)), .val (.long q2), .second] [(.long q2), (.int w18)])) _
    refine XS.l2i X0.here hx rfl (hb hby d5_104) rfl ?_
    show Steps p.tables e below (s₁.setTop (mkF m 105 #[.val (.ref a1), .val (.int (8 : Int32)), .val (.long q2), .second] [(.int (q2.toInt32)), (.int w18)])) _
    refine XS.i2b X0.here hx rfl (hb hby d5_105) rfl ?_
    show Steps p.tables e below (s₁.setTop (mkF m 106 #[.val (.ref a1), .val (.int (8 : Int32)), .val (.long q2), .second] [(.int ((q2.toInt32).toInt8.toInt32)), (.int w18)])) _
    refine XS.icmpNo X0.here hx rfl (hb hby d5_106) rfl (teq P50).2 ?_
    show Steps p.tables e below (s₁.setTop (mkF m 109 #[.val (.ref a1), .val (.int (8 : Int32)), .val (.long q2), .second] [])) _
    refine XS.iconst X0.here hx rfl (hb hby d5_109) ?_
    show Steps p.tables e below (s₁.setTop (mkF m 110 #[.val (.ref a1), .val (.int (8 : Int32)), .val (.long q2), .second] [(.int (1 : Int32))])) _
    refine XS.goto X0.here hx rfl (pc0 := 110) (pc' := 114) rfl (hb hby d5_110) (by decide) (by decide) ?_
    show Steps p.tables e below (s₁.setTop (mkF m 114 #[.val (.ref a1), .val (.int (8 : Int32)), .val (.long q2), .second] [(.int (1 : Int32))])) _
    exact retN X0 hx (t := .boolean) Bd.returns (by simp) (hb hby d5_114) hr
  · show Q5_6 Z a1 q2 k_a1 w3 w4 w5 w6 w7 w8 w9 w10 w11 w12 w13 w14 w15 w16 w17 w18 w19 w20 w21 w22 w23 w24 w25 w26 w27 w28 w29 w30 w31 w32 w33 w34 h0 n0 _ s₁.heap _
    rw [e0]
    exact ⟨rfl, N0, rfl⟩
def Q5_7 (Z : State) (a1 : Addr) (q2 : Int64) (k_a1 : ClassId) (w3 : Int32) (w4 : Int32) (w5 : Int32) (w6 : Int32) (w7 : Int32) (w8 : Int32) (w9 : Int32) (w10 : Int32) (w11 : Int32) (w12 : Int32) (w13 : Int32) (w14 : Int32) (w15 : Int32) (w16 : Int32) (w17 : Int32) (w18 : Int32) (w19 : Int32) (w20 : Int32) (w21 : Int32) (w22 : Int32) (w23 : Int32) (w24 : Int32) (w25 : Int32) (w26 : Int32) (w27 : Int32) (w28 : Int32) (w29 : Int32) (w30 : Int32) (w31 : Int32) (w32 : Int32) (w33 : Int32) (w34 : Int32) (h0 : Heap) (n0 : Nat) (v : Option Value) (h : Heap) (L : List Loc) : Prop := v = some (.int (1 : Int32)) ∧ Fr n0 L ∧ h = h0
set_option maxRecDepth 65536 in
set_option maxHeartbeats 40000000 in
theorem rm5_7 (l : Launch) (Z : State) (a0 : Array Value) (hw : ∀ d ∈ tables_1, d.before a0 Z = true) (ws : List Jvm.Cond) (a1 : Addr) (q2 : Int64) (k_a1 : ClassId) (w3 : Int32) (w4 : Int32) (w5 : Int32) (w6 : Int32) (w7 : Int32) (w8 : Int32) (w9 : Int32) (w10 : Int32) (w11 : Int32) (w12 : Int32) (w13 : Int32) (w14 : Int32) (w15 : Int32) (w16 : Int32) (w17 : Int32) (w18 : Int32) (w19 : Int32) (w20 : Int32) (w21 : Int32) (w22 : Int32) (w23 : Int32) (w24 : Int32) (w25 : Int32) (w26 : Int32) (w27 : Int32) (w28 : Int32) (w29 : Int32) (w30 : Int32) (w31 : Int32) (w32 : Int32) (w33 : Int32) (w34 : Int32) (h0 : Heap) (n0 : Nat) (Z0 : n0 ≤ h0.size) (V_a1 : Arv Z h0 a1 k_a1 .byte (32 : Int32) [(.int w3), (.int w4), (.int w5), (.int w6), (.int w7), (.int w8), (.int w9), (.int w10), (.int w11), (.int w12), (.int w13), (.int w14), (.int w15), (.int w16), (.int w17), (.int w18), (.int w19), (.int w20), (.int w21), (.int w22), (.int w23), (.int w24), (.int w25), (.int w26), (.int w27), (.int w28), (.int w29), (.int w30), (.int w31), (.int w32), (.int w33), (.int w34)] (.int (0 : Int32))) (P36 : w19 = ((((q2.toUInt64 >>> ((56 : Int32) &&& 0x3f).toInt64.toUInt64).toInt64).toInt32).toInt8.toInt32)) (P38 : w20 = ((((q2.toUInt64 >>> ((48 : Int32) &&& 0x3f).toInt64.toUInt64).toInt64).toInt32).toInt8.toInt32)) (P40 : w21 = ((((q2.toUInt64 >>> ((40 : Int32) &&& 0x3f).toInt64.toUInt64).toInt64).toInt32).toInt8.toInt32)) (P42 : w22 = ((((q2.toUInt64 >>> ((32 : Int32) &&& 0x3f).toInt64.toUInt64).toInt64).toInt32).toInt8.toInt32)) (P44 : w23 = ((((q2.toUInt64 >>> ((24 : Int32) &&& 0x3f).toInt64.toUInt64).toInt64).toInt32).toInt8.toInt32)) (P46 : w24 = ((((q2.toUInt64 >>> ((16 : Int32) &&& 0x3f).toInt64.toUInt64).toInt64).toInt32).toInt8.toInt32)) (P48 : w25 = ((((q2.toUInt64 >>> ((8 : Int32) &&& 0x3f).toInt64.toUInt64).toInt64).toInt32).toInt8.toInt32)) (P50 : w26 = ((q2.toInt32).toInt8.toInt32)) :
    MetFree l (⟨"com/example/lasting_names/lastingnames/Ed25519SubjectPublicKeyInfoPinLaw", "same", "([BIJ)Z"⟩ : MethodName) (head1 (Jvm.Cond.code (⟨"com/example/lasting_names/lastingnames/Ed25519SubjectPublicKeyInfoPinLaw", "same", "([BIJ)Z"⟩ : MethodName) method_3_code 4 (some .boolean) :: ws) ({ frames := 0, cells := 0, slots := 0, locals := 0 } : Room)) (fun a U => a = #[(.ref a1), (.int (16 : Int32)), (.long q2)] ∧ Z.Warmed39 U.vm ∧ U.heap = h0) (fun _ _ _ _ _ => True) (fun _ U o U' => ∃ v L, o = .returned v ∧ Q5_7 Z a1 q2 k_a1 w3 w4 w5 w6 w7 w8 w9 w10 w11 w12 w13 w14 w15 w16 w17 w18 w19 w20 w21 w22 w23 w24 w25 w26 w27 w28 w29 w30 w31 w32 w33 w34 h0 n0 v U'.heap L ∧ FrameEnd U o U' L ({ frames := 0, cells := 0, slots := 0, locals := 0 } : Room).cells ({ frames := 0, cells := 0, slots := 0, locals := 0 } : Room).slots) := by
  refine MetFree.of_bodySF (plainFor_of_name pn_5) hisR ?_
  intro p e s m args below meth c s₁ Bd hml0 hP hK
  obtain ⟨rfl, hZ, hh⟩ := hP
  have hx := Bd.exec
  have hby := Bd.bytes
  have hml : c.maxLocals = 4 := hml0
  have hown : s.vm.findClass "com/example/lasting_names/lastingnames/Ed25519SubjectPublicKeyInfoPinLaw" = some m.cls := findClass_of_methodNamed Bd.named
  have hnm := (name_of_methodNamed Bd.named Bd.method).1
  have X0 : Stand p l e ({ frames := 0, cells := 0, slots := 0, locals := 0 } : Room) s m #[(.ref a1), (.int (16 : Int32)), (.long q2)] below meth c s₁ [] 0 0 := Stand.of_body Bd
  have e0 : s₁.heap = h0 := by rw [← hh, Bd.state]; rfl
  have N0 := Fr.nil n0
  have pre0 : ∀ t, Steps p.tables e below (s₁.setTop (mkF m 0 #[.val (.ref a1), .val (.int (16 : Int32)), .val (.long q2), .second] [])) t → Steps p.tables e below (s₁.setTop (entryFrame m #[(.ref a1), (.int (16 : Int32)), (.long q2)] 4)) t := fun t k => castTop (ef_5_RIJ m a1 (16 : Int32) q2) k
  obtain ⟨cl35, Ar35, q35, S35, N_35, H35, G35⟩ := id V_a1
  have hin35 : ¬ ((16 : Int32) < 0 ∨ cl35.slots.size ≤ ((16 : Int32)).toNatClampNeg) := inb_of S35 ⟨by decide, (by decide : (16 : Int32) < (32 : Int32))⟩
  have hat35 : cl35.slots[((16 : Int32)).toNatClampNeg]? = some (.int w19) := Has.at H35 hin35 rfl
  obtain ⟨cl37, Ar37, q37, S37, N_37, H37, G37⟩ := id V_a1
  have hin37 : ¬ ((17 : Int32) < 0 ∨ cl37.slots.size ≤ ((17 : Int32)).toNatClampNeg) := inb_of S37 ⟨by decide, (by decide : (17 : Int32) < (32 : Int32))⟩
  have hat37 : cl37.slots[((17 : Int32)).toNatClampNeg]? = some (.int w20) := Has.at H37 hin37 rfl
  obtain ⟨cl39, Ar39, q39, S39, N_39, H39, G39⟩ := id V_a1
  have hin39 : ¬ ((18 : Int32) < 0 ∨ cl39.slots.size ≤ ((18 : Int32)).toNatClampNeg) := inb_of S39 ⟨by decide, (by decide : (18 : Int32) < (32 : Int32))⟩
  have hat39 : cl39.slots[((18 : Int32)).toNatClampNeg]? = some (.int w21) := Has.at H39 hin39 rfl
  obtain ⟨cl41, Ar41, q41, S41, N_41, H41, G41⟩ := id V_a1
  have hin41 : ¬ ((19 : Int32) < 0 ∨ cl41.slots.size ≤ ((19 : Int32)).toNatClampNeg) := inb_of S41 ⟨by decide, (by decide : (19 : Int32) < (32 : Int32))⟩
  have hat41 : cl41.slots[((19 : Int32)).toNatClampNeg]? = some (.int w22) := Has.at H41 hin41 rfl
  obtain ⟨cl43, Ar43, q43, S43, N_43, H43, G43⟩ := id V_a1
  have hin43 : ¬ ((20 : Int32) < 0 ∨ cl43.slots.size ≤ ((20 : Int32)).toNatClampNeg) := inb_of S43 ⟨by decide, (by decide : (20 : Int32) < (32 : Int32))⟩
  have hat43 : cl43.slots[((20 : Int32)).toNatClampNeg]? = some (.int w23) := Has.at H43 hin43 rfl
  obtain ⟨cl45, Ar45, q45, S45, N_45, H45, G45⟩ := id V_a1
  have hin45 : ¬ ((21 : Int32) < 0 ∨ cl45.slots.size ≤ ((21 : Int32)).toNatClampNeg) := inb_of S45 ⟨by decide, (by decide : (21 : Int32) < (32 : Int32))⟩
  have hat45 : cl45.slots[((21 : Int32)).toNatClampNeg]? = some (.int w24) := Has.at H45 hin45 rfl
  obtain ⟨cl47, Ar47, q47, S47, N_47, H47, G47⟩ := id V_a1
  have hin47 : ¬ ((22 : Int32) < 0 ∨ cl47.slots.size ≤ ((22 : Int32)).toNatClampNeg) := inb_of S47 ⟨by decide, (by decide : (22 : Int32) < (32 : Int32))⟩
  have hat47 : cl47.slots[((22 : Int32)).toNatClampNeg]? = some (.int w25) := Has.at H47 hin47 rfl
  obtain ⟨cl49, Ar49, q49, S49, N_49, H49, G49⟩ := id V_a1
  have hin49 : ¬ ((23 : Int32) < 0 ∨ cl49.slots.size ≤ ((23 : Int32)).toNatClampNeg) := inb_of S49 ⟨by decide, (by decide : (23 : Int32) < (32 : Int32))⟩
  have hat49 : cl49.slots[((23 : Int32)).toNatClampNeg]? = some (.int w26) := Has.at H49 hin49 rfl
  obtain ⟨fs, hr, hrun, hended, hW, hsame⟩ := X0.leave (v := some (.int (1 : Int32))) (fun h => by rw [Bd.returns] at h; cases h)
  refine ⟨_, _, pre0 _ ?_, hrun, hended, _, _, rfl, ?_, ⟨_, rfl⟩, hW, hsame.mono (by decide) (by decide)⟩
  · show Steps p.tables e below (s₁.setTop (mkF m 0 #[.val (.ref a1), .val (.int (16 : Int32)), .val (.long q2), .second] [])) _
    refine XS.aloadN X0.here hx rfl (hb hby d5_0) rfl rfl ?_
    show Steps p.tables e below (s₁.setTop (mkF m 1 #[.val (.ref a1), .val (.int (16 : Int32)), .val (.long q2), .second] [(.ref a1)])) _
    refine XS.iloadN X0.here hx rfl (hb hby d5_1) rfl ?_
    show Steps p.tables e below (s₁.setTop (mkF m 2 #[.val (.ref a1), .val (.int (16 : Int32)), .val (.long q2), .second] [(.int (16 : Int32)), (.ref a1)])) _
    refine X0.baloadBytes hx (j := (16 : Int32)) (v := (.int w19)) (by rw [e0]; exact Ar35.1) (State.isArrayOf_alike hZ.alike Ar35.2.1) Ar35.2.2 hin35 hat35 (g := (mkF m 2 #[.val (.ref a1), .val (.int (16 : Int32)), .val (.long q2), .second] [(.int (16 : Int32)), (.ref a1)])) rfl rfl (hb hby d5_2) _ ?_
    show Steps p.tables e below (s₁.setTop (mkF m 3 #[.val (.ref a1), .val (.int (16 : Int32)), .val (.long q2), .second] [(.int w19)])) _
    refine XS.lloadN X0.here hx rfl (hb hby d5_3) rfl ?_
    show Steps p.tables e below (s₁.setTop (mkF m 4 #[.val (.ref a1), .val (.int (16 : Int32)), .val (.long q2), .second] [(.long q2), (.int w19)])) _
    refine XS.bipush X0.here hx rfl (hb hby d5_4) ?_
    show Steps p.tables e below (s₁.setTop (mkF m 6 #[.val (.ref a1), .val (.int (16 : Int32)), .val (.long q2), .second] [(.int (56 : Int32)), (.long q2), (.int w19)])) _
    refine XS.lushr X0.here hx rfl (hb hby d5_6) rfl ?_
    show Steps p.tables e below (s₁.setTop (mkF m 7 #[.val (.ref a1), .val (.int (16 : Int32)), .val (.long q2), .second] [(.long ((q2.toUInt64 >>> ((56 : Int32) &&& 0x3f).toInt64.toUInt64).toInt64)), (.int w19)])) _
    refine XS.l2i X0.here hx rfl (hb hby d5_7) rfl ?_
    show Steps p.tables e below (s₁.setTop (mkF m 8 #[.val (.ref a1), .val (.int (16 : Int32)), .val (.long q2), .second] [(.int (((q2.toUInt64 >>> ((56 : Int32) &&& 0x3f).toInt64.toUInt64).toInt64).toInt32)), (.int w19)])) _
    refine XS.i2b X0.here hx rfl (hb hby d5_8) rfl ?_
    show Steps p.tables e below (s₁.setTop (mkF m 9 #[.val (.ref a1), .val (.int (16 : Int32)), .val (.long q2), .second] [(.int ((((q2.toUInt64 >>> ((56 : Int32) &&& 0x3f).toInt64.toUInt64).toInt64).toInt32).toInt8.toInt32)), (.int w19)])) _
    refine XS.icmpNo X0.here hx rfl (hb hby d5_9) rfl (teq P36).2 ?_
    show Steps p.tables e below (s₁.setTop (mkF m 12 #[.val (.ref a1), .val (.int (16 : Int32)), .val (.long q2), .second] [])) _
    refine XS.aloadN X0.here hx rfl (hb hby d5_12) rfl rfl ?_
    show Steps p.tables e below (s₁.setTop (mkF m 13 #[.val (.ref a1), .val (.int (16 : Int32)), .val (.long q2), .second] [(.ref a1)])) _
    refine XS.iloadN X0.here hx rfl (hb hby d5_13) rfl ?_
    show Steps p.tables e below (s₁.setTop (mkF m 14 #[.val (.ref a1), .val (.int (16 : Int32)), .val (.long q2), .second] [(.int (16 : Int32)), (.ref a1)])) _
    refine XS.iconst X0.here hx rfl (hb hby d5_14) ?_
    show Steps p.tables e below (s₁.setTop (mkF m 15 #[.val (.ref a1), .val (.int (16 : Int32)), .val (.long q2), .second] [(.int (1 : Int32)), (.int (16 : Int32)), (.ref a1)])) _
    refine XS.iadd X0.here hx rfl (hb hby d5_15) rfl ?_
    show Steps p.tables e below (s₁.setTop (mkF m 16 #[.val (.ref a1), .val (.int (16 : Int32)), .val (.long q2), .second] [(.int (17 : Int32)), (.ref a1)])) _
    refine X0.baloadBytes hx (j := (17 : Int32)) (v := (.int w20)) (by rw [e0]; exact Ar37.1) (State.isArrayOf_alike hZ.alike Ar37.2.1) Ar37.2.2 hin37 hat37 (g := (mkF m 16 #[.val (.ref a1), .val (.int (16 : Int32)), .val (.long q2), .second] [(.int (17 : Int32)), (.ref a1)])) rfl rfl (hb hby d5_16) _ ?_
    show Steps p.tables e below (s₁.setTop (mkF m 17 #[.val (.ref a1), .val (.int (16 : Int32)), .val (.long q2), .second] [(.int w20)])) _
    refine XS.lloadN X0.here hx rfl (hb hby d5_17) rfl ?_
    show Steps p.tables e below (s₁.setTop (mkF m 18 #[.val (.ref a1), .val (.int (16 : Int32)), .val (.long q2), .second] [(.long q2), (.int w20)])) _
    refine XS.bipush X0.here hx rfl (hb hby d5_18) ?_
    show Steps p.tables e below (s₁.setTop (mkF m 20 #[.val (.ref a1), .val (.int (16 : Int32)), .val (.long q2), .second] [(.int (48 : Int32)), (.long q2), (.int w20)])) _
    refine XS.lushr X0.here hx rfl (hb hby d5_20) rfl ?_
    show Steps p.tables e below (s₁.setTop (mkF m 21 #[.val (.ref a1), .val (.int (16 : Int32)), .val (.long q2), .second] [(.long ((q2.toUInt64 >>> ((48 : Int32) &&& 0x3f).toInt64.toUInt64).toInt64)), (.int w20)])) _
    refine XS.l2i X0.here hx rfl (hb hby d5_21) rfl ?_
    show Steps p.tables e below (s₁.setTop (mkF m 22 #[.val (.ref a1), .val (.int (16 : Int32)), .val (.long q2), .second] [(.int (((q2.toUInt64 >>> ((48 : Int32) &&& 0x3f).toInt64.toUInt64).toInt64).toInt32)), (.int w20)])) _
    refine XS.i2b X0.here hx rfl (hb hby d5_22) rfl ?_
    show Steps p.tables e below (s₁.setTop (mkF m 23 #[.val (.ref a1), .val (.int (16 : Int32)), .val (.long q2), .second] [(.int ((((q2.toUInt64 >>> ((48 : Int32) &&& 0x3f).toInt64.toUInt64).toInt64).toInt32).toInt8.toInt32)), (.int w20)])) _
    refine XS.icmpNo X0.here hx rfl (hb hby d5_23) rfl (teq P38).2 ?_
    show Steps p.tables e below (s₁.setTop (mkF m 26 #[.val (.ref a1), .val (.int (16 : Int32)), .val (.long q2), .second] [])) _
    refine XS.aloadN X0.here hx rfl (hb hby d5_26) rfl rfl ?_
    show Steps p.tables e below (s₁.setTop (mkF m 27 #[.val (.ref a1), .val (.int (16 : Int32)), .val (.long q2), .second] [(.ref a1)])) _
    refine XS.iloadN X0.here hx rfl (hb hby d5_27) rfl ?_
    show Steps p.tables e below (s₁.setTop (mkF m 28 #[.val (.ref a1), .val (.int (16 : Int32)), .val (.long q2), .second] [(.int (16 : Int32)), (.ref a1)])) _
    refine XS.iconst X0.here hx rfl (hb hby d5_28) ?_
    show Steps p.tables e below (s₁.setTop (mkF m 29 #[.val (.ref a1), .val (.int (16 : Int32)), .val (.long q2), .second] [(.int (2 : Int32)), (.int (16 : Int32)), (.ref a1)])) _
    refine XS.iadd X0.here hx rfl (hb hby d5_29) rfl ?_
    show Steps p.tables e below (s₁.setTop (mkF m 30 #[.val (.ref a1), .val (.int (16 : Int32)), .val (.long q2), .second] [(.int (18 : Int32)), (.ref a1)])) _
    refine X0.baloadBytes hx (j := (18 : Int32)) (v := (.int w21)) (by rw [e0]; exact Ar39.1) (State.isArrayOf_alike hZ.alike Ar39.2.1) Ar39.2.2 hin39 hat39 (g := (mkF m 30 #[.val (.ref a1), .val (.int (16 : Int32)), .val (.long q2), .second] [(.int (18 : Int32)), (.ref a1)])) rfl rfl (hb hby d5_30) _ ?_
    show Steps p.tables e below (s₁.setTop (mkF m 31 #[.val (.ref a1), .val (.int (16 : Int32)), .val (.long q2), .second] [(.int w21)])) _
    refine XS.lloadN X0.here hx rfl (hb hby d5_31) rfl ?_
    show Steps p.tables e below (s₁.setTop (mkF m 32 #[.val (.ref a1), .val (.int (16 : Int32)), .val (.long q2), .second] [(.long q2), (.int w21)])) _
    refine XS.bipush X0.here hx rfl (hb hby d5_32) ?_
    show Steps p.tables e below (s₁.setTop (mkF m 34 #[.val (.ref a1), .val (.int (16 : Int32)), .val (.long q2), .second] [(.int (40 : Int32)), (.long q2), (.int w21)])) _
    refine XS.lushr X0.here hx rfl (hb hby d5_34) rfl ?_
    show Steps p.tables e below (s₁.setTop (mkF m 35 #[.val (.ref a1), .val (.int (16 : Int32)), .val (.long q2), .second] [(.long ((q2.toUInt64 >>> ((40 : Int32) &&& 0x3f).toInt64.toUInt64).toInt64)), (.int w21)])) _
    refine XS.l2i X0.here hx rfl (hb hby d5_35) rfl ?_
    show Steps p.tables e below (s₁.setTop (mkF m 36 #[.val (.ref a1), .val (.int (16 : Int32)), .val (.long q2), .second] [(.int (((q2.toUInt64 >>> ((40 : Int32) &&& 0x3f).toInt64.toUInt64).toInt64).toInt32)), (.int w21)])) _
    refine XS.i2b X0.here hx rfl (hb hby d5_36) rfl ?_
    show Steps p.tables e below (s₁.setTop (mkF m 37 #[.val (.ref a1), .val (.int (16 : Int32)), .val (.long q2), .second] [(.int ((((q2.toUInt64 >>> ((40 : Int32) &&& 0x3f).toInt64.toUInt64).toInt64).toInt32).toInt8.toInt32)), (.int w21)])) _
    refine XS.icmpNo X0.here hx rfl (hb hby d5_37) rfl (teq P40).2 ?_
    show Steps p.tables e below (s₁.setTop (mkF m 40 #[.val (.ref a1), .val (.int (16 : Int32)), .val (.long q2), .second] [])) _
    refine XS.aloadN X0.here hx rfl (hb hby d5_40) rfl rfl ?_
    show Steps p.tables e below (s₁.setTop (mkF m 41 #[.val (.ref a1), .val (.int (16 : Int32)), .val (.long q2), .second] [(.ref a1)])) _
    refine XS.iloadN X0.here hx rfl (hb hby d5_41) rfl ?_
    show Steps p.tables e below (s₁.setTop (mkF m 42 #[.val (.ref a1), .val (.int (16 : Int32)), .val (.long q2), .second] [(.int (16 : Int32)), (.ref a1)])) _
    refine XS.iconst X0.here hx rfl (hb hby d5_42) ?_
    show Steps p.tables e below (s₁.setTop (mkF m 43 #[.val (.ref a1), .val (.int (16 : Int32)), .val (.long q2), .second] [(.int (3 : Int32)), (.int (16 : Int32)), (.ref a1)])) _
    refine XS.iadd X0.here hx rfl (hb hby d5_43) rfl ?_
    show Steps p.tables e below (s₁.setTop (mkF m 44 #[.val (.ref a1), .val (.int (16 : Int32)), .val (.long q2), .second] [(.int (19 : Int32)), (.ref a1)])) _
    refine X0.baloadBytes hx (j := (19 : Int32)) (v := (.int w22)) (by rw [e0]; exact Ar41.1) (State.isArrayOf_alike hZ.alike Ar41.2.1) Ar41.2.2 hin41 hat41 (g := (mkF m 44 #[.val (.ref a1), .val (.int (16 : Int32)), .val (.long q2), .second] [(.int (19 : Int32)), (.ref a1)])) rfl rfl (hb hby d5_44) _ ?_
    show Steps p.tables e below (s₁.setTop (mkF m 45 #[.val (.ref a1), .val (.int (16 : Int32)), .val (.long q2), .second] [(.int w22)])) _
    refine XS.lloadN X0.here hx rfl (hb hby d5_45) rfl ?_
    show Steps p.tables e below (s₁.setTop (mkF m 46 #[.val (.ref a1), .val (.int (16 : Int32)), .val (.long q2), .second] [(.long q2), (.int w22)])) _
    refine XS.bipush X0.here hx rfl (hb hby d5_46) ?_
    show Steps p.tables e below (s₁.setTop (mkF m 48 #[.val (.ref a1), .val (.int (16 : Int32)), .val (.long q2), .second] [(.int (32 : Int32)), (.long q2), (.int w22)])) _
    refine XS.lushr X0.here hx rfl (hb hby d5_48) rfl ?_
    show Steps p.tables e below (s₁.setTop (mkF m 49 #[.val (.ref a1), .val (.int (16 : Int32)), .val (.long q2), .second] [(.long ((q2.toUInt64 >>> ((32 : Int32) &&& 0x3f).toInt64.toUInt64).toInt64)), (.int w22)])) _
    refine XS.l2i X0.here hx rfl (hb hby d5_49) rfl ?_
    show Steps p.tables e below (s₁.setTop (mkF m 50 #[.val (.ref a1), .val (.int (16 : Int32)), .val (.long q2), .second] [(.int (((q2.toUInt64 >>> ((32 : Int32) &&& 0x3f).toInt64.toUInt64).toInt64).toInt32)), (.int w22)])) _
    refine XS.i2b X0.here hx rfl (hb hby d5_50) rfl ?_
    show Steps p.tables e below (s₁.setTop (mkF m 51 #[.val (.ref a1), .val (.int (16 : Int32)), .val (.long q2), .second] [(.int ((((q2.toUInt64 >>> ((32 : Int32) &&& 0x3f).toInt64.toUInt64).toInt64).toInt32).toInt8.toInt32)), (.int w22)])) _
    refine XS.icmpNo X0.here hx rfl (hb hby d5_51) rfl (teq P42).2 ?_
    show Steps p.tables e below (s₁.setTop (mkF m 54 #[.val (.ref a1), .val (.int (16 : Int32)), .val (.long q2), .second] [])) _
    refine XS.aloadN X0.here hx rfl (hb hby d5_54) rfl rfl ?_
    show Steps p.tables e below (s₁.setTop (mkF m 55 #[.val (.ref a1), .val (.int (16 : Int32)), .val (.long q2), .second] [(.ref a1)])) _
    refine XS.iloadN X0.here hx rfl (hb hby d5_55) rfl ?_
    show Steps p.tables e below (s₁.setTop (mkF m 56 #[.val (.ref a1), .val (.int (16 : Int32)), .val (.long q2), .second] [(.int (16 : Int32)), (.ref a1)])) _
    refine XS.iconst X0.here hx rfl (hb hby d5_56) ?_
    show Steps p.tables e below (s₁.setTop (mkF m 57 #[.val (.ref a1), .val (.int (16 : Int32)), .val (.long q2), .second] [(.int (4 : Int32)), (.int (16 : Int32)), (.ref a1)])) _
    refine XS.iadd X0.here hx rfl (hb hby d5_57) rfl ?_
    show Steps p.tables e below (s₁.setTop (mkF m 58 #[.val (.ref a1), .val (.int (16 : Int32)), .val (.long q2), .second] [(.int (20 : Int32)), (.ref a1)])) _
    refine X0.baloadBytes hx (j := (20 : Int32)) (v := (.int w23)) (by rw [e0]; exact Ar43.1) (State.isArrayOf_alike hZ.alike Ar43.2.1) Ar43.2.2 hin43 hat43 (g := (mkF m 58 #[.val (.ref a1), .val (.int (16 : Int32)), .val (.long q2), .second] [(.int (20 : Int32)), (.ref a1)])) rfl rfl (hb hby d5_58) _ ?_
    show Steps p.tables e below (s₁.setTop (mkF m 59 #[.val (.ref a1), .val (.int (16 : Int32)), .val (.long q2), .second] [(.int w23)])) _
    refine XS.lloadN X0.here hx rfl (hb hby d5_59) rfl ?_
    show Steps p.tables e below (s₁.setTop (mkF m 60 #[.val (.ref a1), .val (.int (16 : Int32)), .val (.long q2), .second] [(.long q2), (.int w23)])) _
    refine XS.bipush X0.here hx rfl (hb hby d5_60) ?_
    show Steps p.tables e below (s₁.setTop (mkF m 62 #[.val (.ref a1), .val (.int (16 : Int32)), .val (.long q2), .second] [(.int (24 : Int32)), (.long q2), (.int w23)])) _
    refine XS.lushr X0.here hx rfl (hb hby d5_62) rfl ?_
    show Steps p.tables e below (s₁.setTop (mkF m 63 #[.val (.ref a1), .val (.int (16 : Int32)), .val (.long q2), .second] [(.long ((q2.toUInt64 >>> ((24 : Int32) &&& 0x3f).toInt64.toUInt64).toInt64)), (.int w23)])) _
    refine XS.l2i X0.here hx rfl (hb hby d5_63) rfl ?_
    show Steps p.tables e below (s₁.setTop (mkF m 64 #[.val (.ref a1), .val (.int (16 : Int32)), .val (.long q2), .second] [(.int (((q2.toUInt64 >>> ((24 : Int32) &&& 0x3f).toInt64.toUInt64).toInt64).toInt32)), (.int w23)])) _
    refine XS.i2b X0.here hx rfl (hb hby d5_64) rfl ?_
    show Steps p.tables e below (s₁.setTop (mkF m 65 #[.val (.ref a1), .val (.int (16 : Int32)), .val (.long q2), .second] [(.int ((((q2.toUInt64 >>> ((24 : Int32) &&& 0x3f).toInt64.toUInt64).toInt64).toInt32).toInt8.toInt32)), (.int w23)])) _
    refine XS.icmpNo X0.here hx rfl (hb hby d5_65) rfl (teq P44).2 ?_
    show Steps p.tables e below (s₁.setTop (mkF m 68 #[.val (.ref a1), .val (.int (16 : Int32)), .val (.long q2), .second] [])) _
    refine XS.aloadN X0.here hx rfl (hb hby d5_68) rfl rfl ?_
    show Steps p.tables e below (s₁.setTop (mkF m 69 #[.val (.ref a1), .val (.int (16 : Int32)), .val (.long q2), .second] [(.ref a1)])) _
    refine XS.iloadN X0.here hx rfl (hb hby d5_69) rfl ?_
    show Steps p.tables e below (s₁.setTop (mkF m 70 #[.val (.ref a1), .val (.int (16 : Int32)), .val (.long q2), .second] [(.int (16 : Int32)), (.ref a1)])) _
    refine XS.iconst X0.here hx rfl (hb hby d5_70) ?_
    show Steps p.tables e below (s₁.setTop (mkF m 71 #[.val (.ref a1), .val (.int (16 : Int32)), .val (.long q2), .second] [(.int (5 : Int32)), (.int (16 : Int32)), (.ref a1)])) _
    refine XS.iadd X0.here hx rfl (hb hby d5_71) rfl ?_
    show Steps p.tables e below (s₁.setTop (mkF m 72 #[.val (.ref a1), .val (.int (16 : Int32)), .val (.long q2), .second] [(.int (21 : Int32)), (.ref a1)])) _
    refine X0.baloadBytes hx (j := (21 : Int32)) (v := (.int w24)) (by rw [e0]; exact Ar45.1) (State.isArrayOf_alike hZ.alike Ar45.2.1) Ar45.2.2 hin45 hat45 (g := (mkF m 72 #[.val (.ref a1), .val (.int (16 : Int32)), .val (.long q2), .second] [(.int (21 : Int32)), (.ref a1)])) rfl rfl (hb hby d5_72) _ ?_
    show Steps p.tables e below (s₁.setTop (mkF m 73 #[.val (.ref a1), .val (.int (16 : Int32)), .val (.long q2), .second] [(.int w24)])) _
    refine XS.lloadN X0.here hx rfl (hb hby d5_73) rfl ?_
    show Steps p.tables e below (s₁.setTop (mkF m 74 #[.val (.ref a1), .val (.int (16 : Int32)), .val (.long q2), .second] [(.long q2), (.int w24)])) _
    refine XS.bipush X0.here hx rfl (hb hby d5_74) ?_
    show Steps p.tables e below (s₁.setTop (mkF m 76 #[.val (.ref a1), .val (.int (16 : Int32)), .val (.long q2), .second] [(.int (16 : Int32)), (.long q2), (.int w24)])) _
    refine XS.lushr X0.here hx rfl (hb hby d5_76) rfl ?_
    show Steps p.tables e below (s₁.setTop (mkF m 77 #[.val (.ref a1), .val (.int (16 : Int32)), .val (.long q2), .second] [(.long ((q2.toUInt64 >>> ((16 : Int32) &&& 0x3f).toInt64.toUInt64).toInt64)), (.int w24)])) _
    refine XS.l2i X0.here hx rfl (hb hby d5_77) rfl ?_
    show Steps p.tables e below (s₁.setTop (mkF m 78 #[.val (.ref a1), .val (.int (16 : Int32)), .val (.long q2), .second] [(.int (((q2.toUInt64 >>> ((16 : Int32) &&& 0x3f).toInt64.toUInt64).toInt64).toInt32)), (.int w24)])) _
    refine XS.i2b X0.here hx rfl (hb hby d5_78) rfl ?_
    show Steps p.tables e below (s₁.setTop (mkF m 79 #[.val (.ref a1), .val (.int (16 : Int32)), .val (.long q2), .second] [(.int ((((q2.toUInt64 >>> ((16 : Int32) &&& 0x3f).toInt64.toUInt64).toInt64).toInt32).toInt8.toInt32)), (.int w24)])) _
    refine XS.icmpNo X0.here hx rfl (hb hby d5_79) rfl (teq P46).2 ?_
    show Steps p.tables e below (s₁.setTop (mkF m 82 #[.val (.ref a1), .val (.int (16 : Int32)), .val (.long q2), .second] [])) _
    refine XS.aloadN X0.here hx rfl (hb hby d5_82) rfl rfl ?_
    show Steps p.tables e below (s₁.setTop (mkF m 83 #[.val (.ref a1), .val (.int (16 : Int32)), .val (.long q2), .second] [(.ref a1)])) _
    refine XS.iloadN X0.here hx rfl (hb hby d5_83) rfl ?_
    show Steps p.tables e below (s₁.setTop (mkF m 84 #[.val (.ref a1), .val (.int (16 : Int32)), .val (.long q2), .second] [(.int (16 : Int32)), (.ref a1)])) _
    refine XS.bipush X0.here hx rfl (hb hby d5_84) ?_
    show Steps p.tables e below (s₁.setTop (mkF m 86 #[.val (.ref a1), .val (.int (16 : Int32)), .val (.long q2), .second] [(.int (6 : Int32)), (.int (16 : Int32)), (.ref a1)])) _
    refine XS.iadd X0.here hx rfl (hb hby d5_86) rfl ?_
    show Steps p.tables e below (s₁.setTop (mkF m 87 #[.val (.ref a1), .val (.int (16 : Int32)), .val (.long q2), .second] [(.int (22 : Int32)), (.ref a1)])) _
    refine X0.baloadBytes hx (j := (22 : Int32)) (v := (.int w25)) (by rw [e0]; exact Ar47.1) (State.isArrayOf_alike hZ.alike Ar47.2.1) Ar47.2.2 hin47 hat47 (g := (mkF m 87 #[.val (.ref a1), .val (.int (16 : Int32)), .val (.long q2), .second] [(.int (22 : Int32)), (.ref a1)])) rfl rfl (hb hby d5_87) _ ?_
    show Steps p.tables e below (s₁.setTop (mkF m 88 #[.val (.ref a1), .val (.int (16 : Int32)), .val (.long q2), .second] [(.int w25)])) _
    refine XS.lloadN X0.here hx rfl (hb hby d5_88) rfl ?_
    show Steps p.tables e below (s₁.setTop (mkF m 89 #[.val (.ref a1), .val (.int (16 : Int32)), .val (.long q2), .second] [(.long q2), (.int w25)])) _
    refine XS.bipush X0.here hx rfl (hb hby d5_89) ?_
    show Steps p.tables e below (s₁.setTop (mkF m 91 #[.val (.ref a1), .val (.int (16 : Int32)), .val (.long q2), .second] [(.int (8 : Int32)), (.long q2), (.int w25)])) _
    refine XS.lushr X0.here hx rfl (hb hby d5_91) rfl ?_
    show Steps p.tables e below (s₁.setTop (mkF m 92 #[.val (.ref a1), .val (.int (16 : Int32)), .val (.long q2), .second] [(.long ((q2.toUInt64 >>> ((8 : Int32) &&& 0x3f).toInt64.toUInt64).toInt64)), (.int w25)])) _
    refine XS.l2i X0.here hx rfl (hb hby d5_92) rfl ?_
    show Steps p.tables e below (s₁.setTop (mkF m 93 #[.val (.ref a1), .val (.int (16 : Int32)), .val (.long q2), .second] [(.int (((q2.toUInt64 >>> ((8 : Int32) &&& 0x3f).toInt64.toUInt64).toInt64).toInt32)), (.int w25)])) _
    refine XS.i2b X0.here hx rfl (hb hby d5_93) rfl ?_
    show Steps p.tables e below (s₁.setTop (mkF m 94 #[.val (.ref a1), .val (.int (16 : Int32)), .val (.long q2), .second] [(.int ((((q2.toUInt64 >>> ((8 : Int32) &&& 0x3f).toInt64.toUInt64).toInt64).toInt32).toInt8.toInt32)), (.int w25)])) _
    refine XS.icmpNo X0.here hx rfl (hb hby d5_94) rfl (teq P48).2 ?_
    show Steps p.tables e below (s₁.setTop (mkF m 97 #[.val (.ref a1), .val (.int (16 : Int32)), .val (.long q2), .second] [])) _
    refine XS.aloadN X0.here hx rfl (hb hby d5_97) rfl rfl ?_
    show Steps p.tables e below (s₁.setTop (mkF m 98 #[.val (.ref a1), .val (.int (16 : Int32)), .val (.long q2), .second] [(.ref a1)])) _
    refine XS.iloadN X0.here hx rfl (hb hby d5_98) rfl ?_
    show Steps p.tables e below (s₁.setTop (mkF m 99 #[.val (.ref a1), .val (.int (16 : Int32)), .val (.long q2), .second] [(.int (16 : Int32)), (.ref a1)])) _
    refine XS.bipush X0.here hx rfl (hb hby d5_99) ?_
    show Steps p.tables e below (s₁.setTop (mkF m 101 #[.val (.ref a1), .val (.int (16 : Int32)), .val (.long q2), .second] [(.int (7 : Int32)), (.int (16 : Int32)), (.ref a1)])) _
    refine XS.iadd X0.here hx rfl (hb hby d5_101) rfl ?_
    show Steps p.tables e below (s₁.setTop (mkF m 102 #[.val (.ref a1), .val (.int (16 : Int32)), .val (.long q2), .second] [(.int (23 : Int32)), (.ref a1)])) _
    refine X0.baloadBytes hx (j := (23 : Int32)) (v := (.int w26)) (by rw [e0]; exact Ar49.1) (State.isArrayOf_alike hZ.alike Ar49.2.1) Ar49.2.2 hin49 hat49 (g := (mkF m 102 #[.val (.ref a1), .val (.int (16 : Int32)), .val (.long q2), .second] [(.int (23 : Int32)), (.ref a1)])) rfl rfl (hb hby d5_102) _ ?_
    show Steps p.tables e below (s₁.setTop (mkF m 103 #[.val (.ref a1), .val (.int (16 : Int32)), .val (.long q2), .second] [(.int w26)])) _
    refine XS.lloadN X0.here hx rfl (hb hby d5_103) rfl ?_
    show Steps p.tables e below (s₁.setTop (mkF m 104 #[.val (.ref a1), .val (.int (16 : Int32)), .val (.long q2), .second] [(.long q2), (.int w26)])) _
    refine XS.l2i X0.here hx rfl (hb hby d5_104) rfl ?_
    show Steps p.tables e below (s₁.setTop (mkF m 105 #[.val (.ref a1), .val (.int (16 : Int32)), .val (.long q2), .second] [(.int (q2.toInt32)), (.int w26)])) _
    refine XS.i2b X0.here hx rfl (hb hby d5_105) rfl ?_
    show Steps p.tables e below (s₁.setTop (mkF m 106 #[.val (.ref a1), .val (.int (16 : Int32)), .val (.long q2), .second] [(.int ((q2.toInt32).toInt8.toInt32)), (.int w26)])) _
    refine XS.icmpNo X0.here hx rfl (hb hby d5_106) rfl (teq P50).2 ?_
    show Steps p.tables e below (s₁.setTop (mkF m 109 #[.val (.ref a1), .val (.int (16 : Int32)), .val (.long q2), .second] [])) _
    refine XS.iconst X0.here hx rfl (hb hby d5_109) ?_
    show Steps p.tables e below (s₁.setTop (mkF m 110 #[.val (.ref a1), .val (.int (16 : Int32)), .val (.long q2), .second] [(.int (1 : Int32))])) _
    refine XS.goto X0.here hx rfl (pc0 := 110) (pc' := 114) rfl (hb hby d5_110) (by decide) (by decide) ?_
    show Steps p.tables e below (s₁.setTop (mkF m 114 #[.val (.ref a1), .val (.int (16 : Int32)), .val (.long q2), .second] [(.int (1 : Int32))])) _
    exact retN X0 hx (t := .boolean) Bd.returns (by simp) (hb hby d5_114) hr
  · show Q5_7 Z a1 q2 k_a1 w3 w4 w5 w6 w7 w8 w9 w10 w11 w12 w13 w14 w15 w16 w17 w18 w19 w20 w21 w22 w23 w24 w25 w26 w27 w28 w29 w30 w31 w32 w33 w34 h0 n0 _ s₁.heap _
    rw [e0]
    exact ⟨rfl, N0, rfl⟩
def Q5_8 (Z : State) (a1 : Addr) (q2 : Int64) (k_a1 : ClassId) (w3 : Int32) (w4 : Int32) (w5 : Int32) (w6 : Int32) (w7 : Int32) (w8 : Int32) (w9 : Int32) (w10 : Int32) (w11 : Int32) (w12 : Int32) (w13 : Int32) (w14 : Int32) (w15 : Int32) (w16 : Int32) (w17 : Int32) (w18 : Int32) (w19 : Int32) (w20 : Int32) (w21 : Int32) (w22 : Int32) (w23 : Int32) (w24 : Int32) (w25 : Int32) (w26 : Int32) (w27 : Int32) (w28 : Int32) (w29 : Int32) (w30 : Int32) (w31 : Int32) (w32 : Int32) (w33 : Int32) (w34 : Int32) (h0 : Heap) (n0 : Nat) (v : Option Value) (h : Heap) (L : List Loc) : Prop := v = some (.int (1 : Int32)) ∧ Fr n0 L ∧ h = h0
set_option maxRecDepth 65536 in
set_option maxHeartbeats 40000000 in
theorem rm5_8 (l : Launch) (Z : State) (a0 : Array Value) (hw : ∀ d ∈ tables_1, d.before a0 Z = true) (ws : List Jvm.Cond) (a1 : Addr) (q2 : Int64) (k_a1 : ClassId) (w3 : Int32) (w4 : Int32) (w5 : Int32) (w6 : Int32) (w7 : Int32) (w8 : Int32) (w9 : Int32) (w10 : Int32) (w11 : Int32) (w12 : Int32) (w13 : Int32) (w14 : Int32) (w15 : Int32) (w16 : Int32) (w17 : Int32) (w18 : Int32) (w19 : Int32) (w20 : Int32) (w21 : Int32) (w22 : Int32) (w23 : Int32) (w24 : Int32) (w25 : Int32) (w26 : Int32) (w27 : Int32) (w28 : Int32) (w29 : Int32) (w30 : Int32) (w31 : Int32) (w32 : Int32) (w33 : Int32) (w34 : Int32) (h0 : Heap) (n0 : Nat) (Z0 : n0 ≤ h0.size) (V_a1 : Arv Z h0 a1 k_a1 .byte (32 : Int32) [(.int w3), (.int w4), (.int w5), (.int w6), (.int w7), (.int w8), (.int w9), (.int w10), (.int w11), (.int w12), (.int w13), (.int w14), (.int w15), (.int w16), (.int w17), (.int w18), (.int w19), (.int w20), (.int w21), (.int w22), (.int w23), (.int w24), (.int w25), (.int w26), (.int w27), (.int w28), (.int w29), (.int w30), (.int w31), (.int w32), (.int w33), (.int w34)] (.int (0 : Int32))) (P36 : w27 = ((((q2.toUInt64 >>> ((56 : Int32) &&& 0x3f).toInt64.toUInt64).toInt64).toInt32).toInt8.toInt32)) (P38 : w28 = ((((q2.toUInt64 >>> ((48 : Int32) &&& 0x3f).toInt64.toUInt64).toInt64).toInt32).toInt8.toInt32)) (P40 : w29 = ((((q2.toUInt64 >>> ((40 : Int32) &&& 0x3f).toInt64.toUInt64).toInt64).toInt32).toInt8.toInt32)) (P42 : w30 = ((((q2.toUInt64 >>> ((32 : Int32) &&& 0x3f).toInt64.toUInt64).toInt64).toInt32).toInt8.toInt32)) (P44 : w31 = ((((q2.toUInt64 >>> ((24 : Int32) &&& 0x3f).toInt64.toUInt64).toInt64).toInt32).toInt8.toInt32)) (P46 : w32 = ((((q2.toUInt64 >>> ((16 : Int32) &&& 0x3f).toInt64.toUInt64).toInt64).toInt32).toInt8.toInt32)) (P48 : w33 = ((((q2.toUInt64 >>> ((8 : Int32) &&& 0x3f).toInt64.toUInt64).toInt64).toInt32).toInt8.toInt32)) (P50 : w34 = ((q2.toInt32).toInt8.toInt32)) :
    MetFree l (⟨"com/example/lasting_names/lastingnames/Ed25519SubjectPublicKeyInfoPinLaw", "same", "([BIJ)Z"⟩ : MethodName) (head1 (Jvm.Cond.code (⟨"com/example/lasting_names/lastingnames/Ed25519SubjectPublicKeyInfoPinLaw", "same", "([BIJ)Z"⟩ : MethodName) method_3_code 4 (some .boolean) :: ws) ({ frames := 0, cells := 0, slots := 0, locals := 0 } : Room)) (fun a U => a = #[(.ref a1), (.int (24 : Int32)), (.long q2)] ∧ Z.Warmed39 U.vm ∧ U.heap = h0) (fun _ _ _ _ _ => True) (fun _ U o U' => ∃ v L, o = .returned v ∧ Q5_8 Z a1 q2 k_a1 w3 w4 w5 w6 w7 w8 w9 w10 w11 w12 w13 w14 w15 w16 w17 w18 w19 w20 w21 w22 w23 w24 w25 w26 w27 w28 w29 w30 w31 w32 w33 w34 h0 n0 v U'.heap L ∧ FrameEnd U o U' L ({ frames := 0, cells := 0, slots := 0, locals := 0 } : Room).cells ({ frames := 0, cells := 0, slots := 0, locals := 0 } : Room).slots) := by
  refine MetFree.of_bodySF (plainFor_of_name pn_5) hisR ?_
  intro p e s m args below meth c s₁ Bd hml0 hP hK
  obtain ⟨rfl, hZ, hh⟩ := hP
  have hx := Bd.exec
  have hby := Bd.bytes
  have hml : c.maxLocals = 4 := hml0
  have hown : s.vm.findClass "com/example/lasting_names/lastingnames/Ed25519SubjectPublicKeyInfoPinLaw" = some m.cls := findClass_of_methodNamed Bd.named
  have hnm := (name_of_methodNamed Bd.named Bd.method).1
  have X0 : Stand p l e ({ frames := 0, cells := 0, slots := 0, locals := 0 } : Room) s m #[(.ref a1), (.int (24 : Int32)), (.long q2)] below meth c s₁ [] 0 0 := Stand.of_body Bd
  have e0 : s₁.heap = h0 := by rw [← hh, Bd.state]; rfl
  have N0 := Fr.nil n0
  have pre0 : ∀ t, Steps p.tables e below (s₁.setTop (mkF m 0 #[.val (.ref a1), .val (.int (24 : Int32)), .val (.long q2), .second] [])) t → Steps p.tables e below (s₁.setTop (entryFrame m #[(.ref a1), (.int (24 : Int32)), (.long q2)] 4)) t := fun t k => castTop (ef_5_RIJ m a1 (24 : Int32) q2) k
  obtain ⟨cl35, Ar35, q35, S35, N_35, H35, G35⟩ := id V_a1
  have hin35 : ¬ ((24 : Int32) < 0 ∨ cl35.slots.size ≤ ((24 : Int32)).toNatClampNeg) := inb_of S35 ⟨by decide, (by decide : (24 : Int32) < (32 : Int32))⟩
  have hat35 : cl35.slots[((24 : Int32)).toNatClampNeg]? = some (.int w27) := Has.at H35 hin35 rfl
  obtain ⟨cl37, Ar37, q37, S37, N_37, H37, G37⟩ := id V_a1
  have hin37 : ¬ ((25 : Int32) < 0 ∨ cl37.slots.size ≤ ((25 : Int32)).toNatClampNeg) := inb_of S37 ⟨by decide, (by decide : (25 : Int32) < (32 : Int32))⟩
  have hat37 : cl37.slots[((25 : Int32)).toNatClampNeg]? = some (.int w28) := Has.at H37 hin37 rfl
  obtain ⟨cl39, Ar39, q39, S39, N_39, H39, G39⟩ := id V_a1
  have hin39 : ¬ ((26 : Int32) < 0 ∨ cl39.slots.size ≤ ((26 : Int32)).toNatClampNeg) := inb_of S39 ⟨by decide, (by decide : (26 : Int32) < (32 : Int32))⟩
  have hat39 : cl39.slots[((26 : Int32)).toNatClampNeg]? = some (.int w29) := Has.at H39 hin39 rfl
  obtain ⟨cl41, Ar41, q41, S41, N_41, H41, G41⟩ := id V_a1
  have hin41 : ¬ ((27 : Int32) < 0 ∨ cl41.slots.size ≤ ((27 : Int32)).toNatClampNeg) := inb_of S41 ⟨by decide, (by decide : (27 : Int32) < (32 : Int32))⟩
  have hat41 : cl41.slots[((27 : Int32)).toNatClampNeg]? = some (.int w30) := Has.at H41 hin41 rfl
  obtain ⟨cl43, Ar43, q43, S43, N_43, H43, G43⟩ := id V_a1
  have hin43 : ¬ ((28 : Int32) < 0 ∨ cl43.slots.size ≤ ((28 : Int32)).toNatClampNeg) := inb_of S43 ⟨by decide, (by decide : (28 : Int32) < (32 : Int32))⟩
  have hat43 : cl43.slots[((28 : Int32)).toNatClampNeg]? = some (.int w31) := Has.at H43 hin43 rfl
  obtain ⟨cl45, Ar45, q45, S45, N_45, H45, G45⟩ := id V_a1
  have hin45 : ¬ ((29 : Int32) < 0 ∨ cl45.slots.size ≤ ((29 : Int32)).toNatClampNeg) := inb_of S45 ⟨by decide, (by decide : (29 : Int32) < (32 : Int32))⟩
  have hat45 : cl45.slots[((29 : Int32)).toNatClampNeg]? = some (.int w32) := Has.at H45 hin45 rfl
  obtain ⟨cl47, Ar47, q47, S47, N_47, H47, G47⟩ := id V_a1
  have hin47 : ¬ ((30 : Int32) < 0 ∨ cl47.slots.size ≤ ((30 : Int32)).toNatClampNeg) := inb_of S47 ⟨by decide, (by decide : (30 : Int32) < (32 : Int32))⟩
  have hat47 : cl47.slots[((30 : Int32)).toNatClampNeg]? = some (.int w33) := Has.at H47 hin47 rfl
  obtain ⟨cl49, Ar49, q49, S49, N_49, H49, G49⟩ := id V_a1
  have hin49 : ¬ ((31 : Int32) < 0 ∨ cl49.slots.size ≤ ((31 : Int32)).toNatClampNeg) := inb_of S49 ⟨by decide, (by decide : (31 : Int32) < (32 : Int32))⟩
  have hat49 : cl49.slots[((31 : Int32)).toNatClampNeg]? = some (.int w34) := Has.at H49 hin49 rfl
  obtain ⟨fs, hr, hrun, hended, hW, hsame⟩ := X0.leave (v := some (.int (1 : Int32))) (fun h => by rw [Bd.returns] at h; cases h)
  refine ⟨_, _, pre0 _ ?_, hrun, hended, _, _, rfl, ?_, ⟨_, rfl⟩, hW, hsame.mono (by decide) (by decide)⟩
  · show Steps p.tables e below (s₁.setTop (mkF m 0 #[.val (.ref a1), .val (.int (24 : Int32)), .val (.long q2), .second] [])) _
    refine XS.aloadN X0.here hx rfl (hb hby d5_0) rfl rfl ?_
    show Steps p.tables e below (s₁.setTop (mkF m 1 #[.val (.ref a1), .val (.int (24 : Int32)), .val (.long q2), .second] [(.ref a1)])) _
    refine XS.iloadN X0.here hx rfl (hb hby d5_1) rfl ?_
    show Steps p.tables e below (s₁.setTop (mkF m 2 #[.val (.ref a1), .val (.int (24 : Int32)), .val (.long q2), .second] [(.int (24 : Int32)), (.ref a1)])) _
    refine X0.baloadBytes hx (j := (24 : Int32)) (v := (.int w27)) (by rw [e0]; exact Ar35.1) (State.isArrayOf_alike hZ.alike Ar35.2.1) Ar35.2.2 hin35 hat35 (g := (mkF m 2 #[.val (.ref a1), .val (.int (24 : Int32)), .val (.long q2), .second] [(.int (24 : Int32)), (.ref a1)])) rfl rfl (hb hby d5_2) _ ?_
    show Steps p.tables e below (s₁.setTop (mkF m 3 #[.val (.ref a1), .val (.int (24 : Int32)), .val (.long q2), .second] [(.int w27)])) _
    refine XS.lloadN X0.here hx rfl (hb hby d5_3) rfl ?_
    show Steps p.tables e below (s₁.setTop (mkF m 4 #[.val (.ref a1), .val (.int (24 : Int32)), .val (.long q2), .second] [(.long q2), (.int w27)])) _
    refine XS.bipush X0.here hx rfl (hb hby d5_4) ?_
    show Steps p.tables e below (s₁.setTop (mkF m 6 #[.val (.ref a1), .val (.int (24 : Int32)), .val (.long q2), .second] [(.int (56 : Int32)), (.long q2), (.int w27)])) _
    refine XS.lushr X0.here hx rfl (hb hby d5_6) rfl ?_
    show Steps p.tables e below (s₁.setTop (mkF m 7 #[.val (.ref a1), .val (.int (24 : Int32)), .val (.long q2), .second] [(.long ((q2.toUInt64 >>> ((56 : Int32) &&& 0x3f).toInt64.toUInt64).toInt64)), (.int w27)])) _
    refine XS.l2i X0.here hx rfl (hb hby d5_7) rfl ?_
    show Steps p.tables e below (s₁.setTop (mkF m 8 #[.val (.ref a1), .val (.int (24 : Int32)), .val (.long q2), .second] [(.int (((q2.toUInt64 >>> ((56 : Int32) &&& 0x3f).toInt64.toUInt64).toInt64).toInt32)), (.int w27)])) _
    refine XS.i2b X0.here hx rfl (hb hby d5_8) rfl ?_
    show Steps p.tables e below (s₁.setTop (mkF m 9 #[.val (.ref a1), .val (.int (24 : Int32)), .val (.long q2), .second] [(.int ((((q2.toUInt64 >>> ((56 : Int32) &&& 0x3f).toInt64.toUInt64).toInt64).toInt32).toInt8.toInt32)), (.int w27)])) _
    refine XS.icmpNo X0.here hx rfl (hb hby d5_9) rfl (teq P36).2 ?_
    show Steps p.tables e below (s₁.setTop (mkF m 12 #[.val (.ref a1), .val (.int (24 : Int32)), .val (.long q2), .second] [])) _
    refine XS.aloadN X0.here hx rfl (hb hby d5_12) rfl rfl ?_
    show Steps p.tables e below (s₁.setTop (mkF m 13 #[.val (.ref a1), .val (.int (24 : Int32)), .val (.long q2), .second] [(.ref a1)])) _
    refine XS.iloadN X0.here hx rfl (hb hby d5_13) rfl ?_
    show Steps p.tables e below (s₁.setTop (mkF m 14 #[.val (.ref a1), .val (.int (24 : Int32)), .val (.long q2), .second] [(.int (24 : Int32)), (.ref a1)])) _
    refine XS.iconst X0.here hx rfl (hb hby d5_14) ?_
    show Steps p.tables e below (s₁.setTop (mkF m 15 #[.val (.ref a1), .val (.int (24 : Int32)), .val (.long q2), .second] [(.int (1 : Int32)), (.int (24 : Int32)), (.ref a1)])) _
    refine XS.iadd X0.here hx rfl (hb hby d5_15) rfl ?_
    show Steps p.tables e below (s₁.setTop (mkF m 16 #[.val (.ref a1), .val (.int (24 : Int32)), .val (.long q2), .second] [(.int (25 : Int32)), (.ref a1)])) _
    refine X0.baloadBytes hx (j := (25 : Int32)) (v := (.int w28)) (by rw [e0]; exact Ar37.1) (State.isArrayOf_alike hZ.alike Ar37.2.1) Ar37.2.2 hin37 hat37 (g := (mkF m 16 #[.val (.ref a1), .val (.int (24 : Int32)), .val (.long q2), .second] [(.int (25 : Int32)), (.ref a1)])) rfl rfl (hb hby d5_16) _ ?_
    show Steps p.tables e below (s₁.setTop (mkF m 17 #[.val (.ref a1), .val (.int (24 : Int32)), .val (.long q2), .second] [(.int w28)])) _
    refine XS.lloadN X0.here hx rfl (hb hby d5_17) rfl ?_
    show Steps p.tables e below (s₁.setTop (mkF m 18 #[.val (.ref a1), .val (.int (24 : Int32)), .val (.long q2), .second] [(.long q2), (.int w28)])) _
    refine XS.bipush X0.here hx rfl (hb hby d5_18) ?_
    show Steps p.tables e below (s₁.setTop (mkF m 20 #[.val (.ref a1), .val (.int (24 : Int32)), .val (.long q2), .second] [(.int (48 : Int32)), (.long q2), (.int w28)])) _
    refine XS.lushr X0.here hx rfl (hb hby d5_20) rfl ?_
    show Steps p.tables e below (s₁.setTop (mkF m 21 #[.val (.ref a1), .val (.int (24 : Int32)), .val (.long q2), .second] [(.long ((q2.toUInt64 >>> ((48 : Int32) &&& 0x3f).toInt64.toUInt64).toInt64)), (.int w28)])) _
    refine XS.l2i X0.here hx rfl (hb hby d5_21) rfl ?_
    show Steps p.tables e below (s₁.setTop (mkF m 22 #[.val (.ref a1), .val (.int (24 : Int32)), .val (.long q2), .second] [(.int (((q2.toUInt64 >>> ((48 : Int32) &&& 0x3f).toInt64.toUInt64).toInt64).toInt32)), (.int w28)])) _
    refine XS.i2b X0.here hx rfl (hb hby d5_22) rfl ?_
    show Steps p.tables e below (s₁.setTop (mkF m 23 #[.val (.ref a1), .val (.int (24 : Int32)), .val (.long q2), .second] [(.int ((((q2.toUInt64 >>> ((48 : Int32) &&& 0x3f).toInt64.toUInt64).toInt64).toInt32).toInt8.toInt32)), (.int w28)])) _
    refine XS.icmpNo X0.here hx rfl (hb hby d5_23) rfl (teq P38).2 ?_
    show Steps p.tables e below (s₁.setTop (mkF m 26 #[.val (.ref a1), .val (.int (24 : Int32)), .val (.long q2), .second] [])) _
    refine XS.aloadN X0.here hx rfl (hb hby d5_26) rfl rfl ?_
    show Steps p.tables e below (s₁.setTop (mkF m 27 #[.val (.ref a1), .val (.int (24 : Int32)), .val (.long q2), .second] [(.ref a1)])) _
    refine XS.iloadN X0.here hx rfl (hb hby d5_27) rfl ?_
    show Steps p.tables e below (s₁.setTop (mkF m 28 #[.val (.ref a1), .val (.int (24 : Int32)), .val (.long q2), .second] [(.int (24 : Int32)), (.ref a1)])) _
    refine XS.iconst X0.here hx rfl (hb hby d5_28) ?_
    show Steps p.tables e below (s₁.setTop (mkF m 29 #[.val (.ref a1), .val (.int (24 : Int32)), .val (.long q2), .second] [(.int (2 : Int32)), (.int (24 : Int32)), (.ref a1)])) _
    refine XS.iadd X0.here hx rfl (hb hby d5_29) rfl ?_
    show Steps p.tables e below (s₁.setTop (mkF m 30 #[.val (.ref a1), .val (.int (24 : Int32)), .val (.long q2), .second] [(.int (26 : Int32)), (.ref a1)])) _
    refine X0.baloadBytes hx (j := (26 : Int32)) (v := (.int w29)) (by rw [e0]; exact Ar39.1) (State.isArrayOf_alike hZ.alike Ar39.2.1) Ar39.2.2 hin39 hat39 (g := (mkF m 30 #[.val (.ref a1), .val (.int (24 : Int32)), .val (.long q2), .second] [(.int (26 : Int32)), (.ref a1)])) rfl rfl (hb hby d5_30) _ ?_
    show Steps p.tables e below (s₁.setTop (mkF m 31 #[.val (.ref a1), .val (.int (24 : Int32)), .val (.long q2), .second] [(.int w29)])) _
    refine XS.lloadN X0.here hx rfl (hb hby d5_31) rfl ?_
    show Steps p.tables e below (s₁.setTop (mkF m 32 #[.val (.ref a1), .val (.int (24 : Int32)), .val (.long q2), .second] [(.long q2), (.int w29)])) _
    refine XS.bipush X0.here hx rfl (hb hby d5_32) ?_
    show Steps p.tables e below (s₁.setTop (mkF m 34 #[.val (.ref a1), .val (.int (24 : Int32)), .val (.long q2), .second] [(.int (40 : Int32)), (.long q2), (.int w29)])) _
    refine XS.lushr X0.here hx rfl (hb hby d5_34) rfl ?_
    show Steps p.tables e below (s₁.setTop (mkF m 35 #[.val (.ref a1), .val (.int (24 : Int32)), .val (.long q2), .second] [(.long ((q2.toUInt64 >>> ((40 : Int32) &&& 0x3f).toInt64.toUInt64).toInt64)), (.int w29)])) _
    refine XS.l2i X0.here hx rfl (hb hby d5_35) rfl ?_
    show Steps p.tables e below (s₁.setTop (mkF m 36 #[.val (.ref a1), .val (.int (24 : Int32)), .val (.long q2), .second] [(.int (((q2.toUInt64 >>> ((40 : Int32) &&& 0x3f).toInt64.toUInt64).toInt64).toInt32)), (.int w29)])) _
    refine XS.i2b X0.here hx rfl (hb hby d5_36) rfl ?_
    show Steps p.tables e below (s₁.setTop (mkF m 37 #[.val (.ref a1), .val (.int (24 : Int32)), .val (.long q2), .second] [(.int ((((q2.toUInt64 >>> ((40 : Int32) &&& 0x3f).toInt64.toUInt64).toInt64).toInt32).toInt8.toInt32)), (.int w29)])) _
    refine XS.icmpNo X0.here hx rfl (hb hby d5_37) rfl (teq P40).2 ?_
    show Steps p.tables e below (s₁.setTop (mkF m 40 #[.val (.ref a1), .val (.int (24 : Int32)), .val (.long q2), .second] [])) _
    refine XS.aloadN X0.here hx rfl (hb hby d5_40) rfl rfl ?_
    show Steps p.tables e below (s₁.setTop (mkF m 41 #[.val (.ref a1), .val (.int (24 : Int32)), .val (.long q2), .second] [(.ref a1)])) _
    refine XS.iloadN X0.here hx rfl (hb hby d5_41) rfl ?_
    show Steps p.tables e below (s₁.setTop (mkF m 42 #[.val (.ref a1), .val (.int (24 : Int32)), .val (.long q2), .second] [(.int (24 : Int32)), (.ref a1)])) _
    refine XS.iconst X0.here hx rfl (hb hby d5_42) ?_
    show Steps p.tables e below (s₁.setTop (mkF m 43 #[.val (.ref a1), .val (.int (24 : Int32)), .val (.long q2), .second] [(.int (3 : Int32)), (.int (24 : Int32)), (.ref a1)])) _
    refine XS.iadd X0.here hx rfl (hb hby d5_43) rfl ?_
    show Steps p.tables e below (s₁.setTop (mkF m 44 #[.val (.ref a1), .val (.int (24 : Int32)), .val (.long q2), .second] [(.int (27 : Int32)), (.ref a1)])) _
    refine X0.baloadBytes hx (j := (27 : Int32)) (v := (.int w30)) (by rw [e0]; exact Ar41.1) (State.isArrayOf_alike hZ.alike Ar41.2.1) Ar41.2.2 hin41 hat41 (g := (mkF m 44 #[.val (.ref a1), .val (.int (24 : Int32)), .val (.long q2), .second] [(.int (27 : Int32)), (.ref a1)])) rfl rfl (hb hby d5_44) _ ?_
    show Steps p.tables e below (s₁.setTop (mkF m 45 #[.val (.ref a1), .val (.int (24 : Int32)), .val (.long q2), .second] [(.int w30)])) _
    refine XS.lloadN X0.here hx rfl (hb hby d5_45) rfl ?_
    show Steps p.tables e below (s₁.setTop (mkF m 46 #[.val (.ref a1), .val (.int (24 : Int32)), .val (.long q2), .second] [(.long q2), (.int w30)])) _
    refine XS.bipush X0.here hx rfl (hb hby d5_46) ?_
    show Steps p.tables e below (s₁.setTop (mkF m 48 #[.val (.ref a1), .val (.int (24 : Int32)), .val (.long q2), .second] [(.int (32 : Int32)), (.long q2), (.int w30)])) _
    refine XS.lushr X0.here hx rfl (hb hby d5_48) rfl ?_
    show Steps p.tables e below (s₁.setTop (mkF m 49 #[.val (.ref a1), .val (.int (24 : Int32)), .val (.long q2), .second] [(.long ((q2.toUInt64 >>> ((32 : Int32) &&& 0x3f).toInt64.toUInt64).toInt64)), (.int w30)])) _
    refine XS.l2i X0.here hx rfl (hb hby d5_49) rfl ?_
    show Steps p.tables e below (s₁.setTop (mkF m 50 #[.val (.ref a1), .val (.int (24 : Int32)), .val (.long q2), .second] [(.int (((q2.toUInt64 >>> ((32 : Int32) &&& 0x3f).toInt64.toUInt64).toInt64).toInt32)), (.int w30)])) _
    refine XS.i2b X0.here hx rfl (hb hby d5_50) rfl ?_
    show Steps p.tables e below (s₁.setTop (mkF m 51 #[.val (.ref a1), .val (.int (24 : Int32)), .val (.long q2), .second] [(.int ((((q2.toUInt64 >>> ((32 : Int32) &&& 0x3f).toInt64.toUInt64).toInt64).toInt32).toInt8.toInt32)), (.int w30)])) _
    refine XS.icmpNo X0.here hx rfl (hb hby d5_51) rfl (teq P42).2 ?_
    show Steps p.tables e below (s₁.setTop (mkF m 54 #[.val (.ref a1), .val (.int (24 : Int32)), .val (.long q2), .second] [])) _
    refine XS.aloadN X0.here hx rfl (hb hby d5_54) rfl rfl ?_
    show Steps p.tables e below (s₁.setTop (mkF m 55 #[.val (.ref a1), .val (.int (24 : Int32)), .val (.long q2), .second] [(.ref a1)])) _
    refine XS.iloadN X0.here hx rfl (hb hby d5_55) rfl ?_
    show Steps p.tables e below (s₁.setTop (mkF m 56 #[.val (.ref a1), .val (.int (24 : Int32)), .val (.long q2), .second] [(.int (24 : Int32)), (.ref a1)])) _
    refine XS.iconst X0.here hx rfl (hb hby d5_56) ?_
    show Steps p.tables e below (s₁.setTop (mkF m 57 #[.val (.ref a1), .val (.int (24 : Int32)), .val (.long q2), .second] [(.int (4 : Int32)), (.int (24 : Int32)), (.ref a1)])) _
    refine XS.iadd X0.here hx rfl (hb hby d5_57) rfl ?_
    show Steps p.tables e below (s₁.setTop (mkF m 58 #[.val (.ref a1), .val (.int (24 : Int32)), .val (.long q2), .second] [(.int (28 : Int32)), (.ref a1)])) _
    refine X0.baloadBytes hx (j := (28 : Int32)) (v := (.int w31)) (by rw [e0]; exact Ar43.1) (State.isArrayOf_alike hZ.alike Ar43.2.1) Ar43.2.2 hin43 hat43 (g := (mkF m 58 #[.val (.ref a1), .val (.int (24 : Int32)), .val (.long q2), .second] [(.int (28 : Int32)), (.ref a1)])) rfl rfl (hb hby d5_58) _ ?_
    show Steps p.tables e below (s₁.setTop (mkF m 59 #[.val (.ref a1), .val (.int (24 : Int32)), .val (.long q2), .second] [(.int w31)])) _
    refine XS.lloadN X0.here hx rfl (hb hby d5_59) rfl ?_
    show Steps p.tables e below (s₁.setTop (mkF m 60 #[.val (.ref a1), .val (.int (24 : Int32)), .val (.long q2), .second] [(.long q2), (.int w31)])) _
    refine XS.bipush X0.here hx rfl (hb hby d5_60) ?_
    show Steps p.tables e below (s₁.setTop (mkF m 62 #[.val (.ref a1), .val (.int (24 : Int32)), .val (.long q2), .second] [(.int (24 : Int32)), (.long q2), (.int w31)])) _
    refine XS.lushr X0.here hx rfl (hb hby d5_62) rfl ?_
    show Steps p.tables e below (s₁.setTop (mkF m 63 #[.val (.ref a1), .val (.int (24 : Int32)), .val (.long q2), .second] [(.long ((q2.toUInt64 >>> ((24 : Int32) &&& 0x3f).toInt64.toUInt64).toInt64)), (.int w31)])) _
    refine XS.l2i X0.here hx rfl (hb hby d5_63) rfl ?_
    show Steps p.tables e below (s₁.setTop (mkF m 64 #[.val (.ref a1), .val (.int (24 : Int32)), .val (.long q2), .second] [(.int (((q2.toUInt64 >>> ((24 : Int32) &&& 0x3f).toInt64.toUInt64).toInt64).toInt32)), (.int w31)])) _
    refine XS.i2b X0.here hx rfl (hb hby d5_64) rfl ?_
    show Steps p.tables e below (s₁.setTop (mkF m 65 #[.val (.ref a1), .val (.int (24 : Int32)), .val (.long q2), .second] [(.int ((((q2.toUInt64 >>> ((24 : Int32) &&& 0x3f).toInt64.toUInt64).toInt64).toInt32).toInt8.toInt32)), (.int w31)])) _
    refine XS.icmpNo X0.here hx rfl (hb hby d5_65) rfl (teq P44).2 ?_
    show Steps p.tables e below (s₁.setTop (mkF m 68 #[.val (.ref a1), .val (.int (24 : Int32)), .val (.long q2), .second] [])) _
    refine XS.aloadN X0.here hx rfl (hb hby d5_68) rfl rfl ?_
    show Steps p.tables e below (s₁.setTop (mkF m 69 #[.val (.ref a1), .val (.int (24 : Int32)), .val (.long q2), .second] [(.ref a1)])) _
    refine XS.iloadN X0.here hx rfl (hb hby d5_69) rfl ?_
    show Steps p.tables e below (s₁.setTop (mkF m 70 #[.val (.ref a1), .val (.int (24 : Int32)), .val (.long q2), .second] [(.int (24 : Int32)), (.ref a1)])) _
    refine XS.iconst X0.here hx rfl (hb hby d5_70) ?_
    show Steps p.tables e below (s₁.setTop (mkF m 71 #[.val (.ref a1), .val (.int (24 : Int32)), .val (.long q2), .second] [(.int (5 : Int32)), (.int (24 : Int32)), (.ref a1)])) _
    refine XS.iadd X0.here hx rfl (hb hby d5_71) rfl ?_
    show Steps p.tables e below (s₁.setTop (mkF m 72 #[.val (.ref a1), .val (.int (24 : Int32)), .val (.long q2), .second] [(.int (29 : Int32)), (.ref a1)])) _
    refine X0.baloadBytes hx (j := (29 : Int32)) (v := (.int w32)) (by rw [e0]; exact Ar45.1) (State.isArrayOf_alike hZ.alike Ar45.2.1) Ar45.2.2 hin45 hat45 (g := (mkF m 72 #[.val (.ref a1), .val (.int (24 : Int32)), .val (.long q2), .second] [(.int (29 : Int32)), (.ref a1)])) rfl rfl (hb hby d5_72) _ ?_
    show Steps p.tables e below (s₁.setTop (mkF m 73 #[.val (.ref a1), .val (.int (24 : Int32)), .val (.long q2), .second] [(.int w32)])) _
    refine XS.lloadN X0.here hx rfl (hb hby d5_73) rfl ?_
    show Steps p.tables e below (s₁.setTop (mkF m 74 #[.val (.ref a1), .val (.int (24 : Int32)), .val (.long q2), .second] [(.long q2), (.int w32)])) _
    refine XS.bipush X0.here hx rfl (hb hby d5_74) ?_
    show Steps p.tables e below (s₁.setTop (mkF m 76 #[.val (.ref a1), .val (.int (24 : Int32)), .val (.long q2), .second] [(.int (16 : Int32)), (.long q2), (.int w32)])) _
    refine XS.lushr X0.here hx rfl (hb hby d5_76) rfl ?_
    show Steps p.tables e below (s₁.setTop (mkF m 77 #[.val (.ref a1), .val (.int (24 : Int32)), .val (.long q2), .second] [(.long ((q2.toUInt64 >>> ((16 : Int32) &&& 0x3f).toInt64.toUInt64).toInt64)), (.int w32)])) _
    refine XS.l2i X0.here hx rfl (hb hby d5_77) rfl ?_
    show Steps p.tables e below (s₁.setTop (mkF m 78 #[.val (.ref a1), .val (.int (24 : Int32)), .val (.long q2), .second] [(.int (((q2.toUInt64 >>> ((16 : Int32) &&& 0x3f).toInt64.toUInt64).toInt64).toInt32)), (.int w32)])) _
    refine XS.i2b X0.here hx rfl (hb hby d5_78) rfl ?_
    show Steps p.tables e below (s₁.setTop (mkF m 79 #[.val (.ref a1), .val (.int (24 : Int32)), .val (.long q2), .second] [(.int ((((q2.toUInt64 >>> ((16 : Int32) &&& 0x3f).toInt64.toUInt64).toInt64).toInt32).toInt8.toInt32)), (.int w32)])) _
    refine XS.icmpNo X0.here hx rfl (hb hby d5_79) rfl (teq P46).2 ?_
    show Steps p.tables e below (s₁.setTop (mkF m 82 #[.val (.ref a1), .val (.int (24 : Int32)), .val (.long q2), .second] [])) _
    refine XS.aloadN X0.here hx rfl (hb hby d5_82) rfl rfl ?_
    show Steps p.tables e below (s₁.setTop (mkF m 83 #[.val (.ref a1), .val (.int (24 : Int32)), .val (.long q2), .second] [(.ref a1)])) _
    refine XS.iloadN X0.here hx rfl (hb hby d5_83) rfl ?_
    show Steps p.tables e below (s₁.setTop (mkF m 84 #[.val (.ref a1), .val (.int (24 : Int32)), .val (.long q2), .second] [(.int (24 : Int32)), (.ref a1)])) _
    refine XS.bipush X0.here hx rfl (hb hby d5_84) ?_
    show Steps p.tables e below (s₁.setTop (mkF m 86 #[.val (.ref a1), .val (.int (24 : Int32)), .val (.long q2), .second] [(.int (6 : Int32)), (.int (24 : Int32)), (.ref a1)])) _
    refine XS.iadd X0.here hx rfl (hb hby d5_86) rfl ?_
    show Steps p.tables e below (s₁.setTop (mkF m 87 #[.val (.ref a1), .val (.int (24 : Int32)), .val (.long q2), .second] [(.int (30 : Int32)), (.ref a1)])) _
    refine X0.baloadBytes hx (j := (30 : Int32)) (v := (.int w33)) (by rw [e0]; exact Ar47.1) (State.isArrayOf_alike hZ.alike Ar47.2.1) Ar47.2.2 hin47 hat47 (g := (mkF m 87 #[.val (.ref a1), .val (.int (24 : Int32)), .val (.long q2), .second] [(.int (30 : Int32)), (.ref a1)])) rfl rfl (hb hby d5_87) _ ?_
    show Steps p.tables e below (s₁.setTop (mkF m 88 #[.val (.ref a1), .val (.int (24 : Int32)), .val (.long q2), .second] [(.int w33)])) _
    refine XS.lloadN X0.here hx rfl (hb hby d5_88) rfl ?_
    show Steps p.tables e below (s₁.setTop (mkF m 89 #[.val (.ref a1), .val (.int (24 : Int32)), .val (.long q2), .second] [(.long q2), (.int w33)])) _
    refine XS.bipush X0.here hx rfl (hb hby d5_89) ?_
    show Steps p.tables e below (s₁.setTop (mkF m 91 #[.val (.ref a1), .val (.int (24 : Int32)), .val (.long q2), .second] [(.int (8 : Int32)), (.long q2), (.int w33)])) _
    refine XS.lushr X0.here hx rfl (hb hby d5_91) rfl ?_
    show Steps p.tables e below (s₁.setTop (mkF m 92 #[.val (.ref a1), .val (.int (24 : Int32)), .val (.long q2), .second] [(.long ((q2.toUInt64 >>> ((8 : Int32) &&& 0x3f).toInt64.toUInt64).toInt64)), (.int w33)])) _
    refine XS.l2i X0.here hx rfl (hb hby d5_92) rfl ?_
    show Steps p.tables e below (s₁.setTop (mkF m 93 #[.val (.ref a1), .val (.int (24 : Int32)), .val (.long q2), .second] [(.int (((q2.toUInt64 >>> ((8 : Int32) &&& 0x3f).toInt64.toUInt64).toInt64).toInt32)), (.int w33)])) _
    refine XS.i2b X0.here hx rfl (hb hby d5_93) rfl ?_
    show Steps p.tables e below (s₁.setTop (mkF m 94 #[.val (.ref a1), .val (.int (24 : Int32)), .val (.long q2), .second] [(.int ((((q2.toUInt64 >>> ((8 : Int32) &&& 0x3f).toInt64.toUInt64).toInt64).toInt32).toInt8.toInt32)), (.int w33)])) _
    refine XS.icmpNo X0.here hx rfl (hb hby d5_94) rfl (teq P48).2 ?_
    show Steps p.tables e below (s₁.setTop (mkF m 97 #[.val (.ref a1), .val (.int (24 : Int32)), .val (.long q2), .second] [])) _
    refine XS.aloadN X0.here hx rfl (hb hby d5_97) rfl rfl ?_
    show Steps p.tables e below (s₁.setTop (mkF m 98 #[.val (.ref a1), .val (.int (24 : Int32)), .val (.long q2), .second] [(.ref a1)])) _
    refine XS.iloadN X0.here hx rfl (hb hby d5_98) rfl ?_
    show Steps p.tables e below (s₁.setTop (mkF m 99 #[.val (.ref a1), .val (.int (24 : Int32)), .val (.long q2), .second] [(.int (24 : Int32)), (.ref a1)])) _
    refine XS.bipush X0.here hx rfl (hb hby d5_99) ?_
    show Steps p.tables e below (s₁.setTop (mkF m 101 #[.val (.ref a1), .val (.int (24 : Int32)), .val (.long q2), .second] [(.int (7 : Int32)), (.int (24 : Int32)), (.ref a1)])) _
    refine XS.iadd X0.here hx rfl (hb hby d5_101) rfl ?_
    show Steps p.tables e below (s₁.setTop (mkF m 102 #[.val (.ref a1), .val (.int (24 : Int32)), .val (.long q2), .second] [(.int (31 : Int32)), (.ref a1)])) _
    refine X0.baloadBytes hx (j := (31 : Int32)) (v := (.int w34)) (by rw [e0]; exact Ar49.1) (State.isArrayOf_alike hZ.alike Ar49.2.1) Ar49.2.2 hin49 hat49 (g := (mkF m 102 #[.val (.ref a1), .val (.int (24 : Int32)), .val (.long q2), .second] [(.int (31 : Int32)), (.ref a1)])) rfl rfl (hb hby d5_102) _ ?_
    show Steps p.tables e below (s₁.setTop (mkF m 103 #[.val (.ref a1), .val (.int (24 : Int32)), .val (.long q2), .second] [(.int w34)])) _
    refine XS.lloadN X0.here hx rfl (hb hby d5_103) rfl ?_
    show Steps p.tables e below (s₁.setTop (mkF m 104 #[.val (.ref a1), .val (.int (24 : Int32)), .val (.long q2), .second] [(.long q2), (.int w34)])) _
    refine XS.l2i X0.here hx rfl (hb hby d5_104) rfl ?_
    show Steps p.tables e below (s₁.setTop (mkF m 105 #[.val (.ref a1), .val (.int (24 : Int32)), .val (.long q2), .second] [(.int (q2.toInt32)), (.int w34)])) _
    refine XS.i2b X0.here hx rfl (hb hby d5_105) rfl ?_
    show Steps p.tables e below (s₁.setTop (mkF m 106 #[.val (.ref a1), .val (.int (24 : Int32)), .val (.long q2), .second] [(.int ((q2.toInt32).toInt8.toInt32)), (.int w34)])) _
    refine XS.icmpNo X0.here hx rfl (hb hby d5_106) rfl (teq P50).2 ?_
    show Steps p.tables e below (s₁.setTop (mkF m 109 #[.val (.ref a1), .val (.int (24 : Int32)), .val (.long q2), .second] [])) _
    refine XS.iconst X0.here hx rfl (hb hby d5_109) ?_
    show Steps p.tables e below (s₁.setTop (mkF m 110 #[.val (.ref a1), .val (.int (24 : Int32)), .val (.long q2), .second] [(.int (1 : Int32))])) _
    refine XS.goto X0.here hx rfl (pc0 := 110) (pc' := 114) rfl (hb hby d5_110) (by decide) (by decide) ?_
    show Steps p.tables e below (s₁.setTop (mkF m 114 #[.val (.ref a1), .val (.int (24 : Int32)), .val (.long q2), .second] [(.int (1 : Int32))])) _
    exact retN X0 hx (t := .boolean) Bd.returns (by simp) (hb hby d5_114) hr
  · show Q5_8 Z a1 q2 k_a1 w3 w4 w5 w6 w7 w8 w9 w10 w11 w12 w13 w14 w15 w16 w17 w18 w19 w20 w21 w22 w23 w24 w25 w26 w27 w28 w29 w30 w31 w32 w33 w34 h0 n0 _ s₁.heap _
    rw [e0]
    exact ⟨rfl, N0, rfl⟩
theorem ef_0_JJJJ (m : MethodId) (x0 : Int64) (x1 : Int64) (x2 : Int64) (x3 : Int64) : entryFrame m #[(.long x0), (.long x1), (.long x2), (.long x3)] maxLocals = mkF m 0 #[.val (.long x0), .second, .val (.long x1), .second, .val (.long x2), .second, .val (.long x3), .second, .unset, .unset, .unset, .unset, .unset] [] := by first | (simp [entryFrame, mkF, argsToLocals, Value.category, maxLocals]; done) | rfl
theorem pn_0 : plainName "com/example/lasting_names/lastingnames/Ed25519SubjectPublicKeyInfoPinLaw" = true := by first | (simp [plainName, overriddenIn]; done) | decide +kernel
set_option maxRecDepth 65536 in
set_option maxHeartbeats 40000000 in
theorem rm0_1 (l : Launch) (Z : State) (a0 : Array Value) (hw : ∀ d ∈ tables_1, d.before a0 Z = true) (ws : List Jvm.Cond) (q1 : Int64) (q2 : Int64) (q3 : Int64) (q4 : Int64) (w10 : Addr) (k_w10 : ClassId) (h0 : Heap) (n0 : Nat) (Z0 : n0 ≤ h0.size) (V_w10 : Arv Z h0 w10 k_w10 .byte (12 : Int32) [(.int (48 : Int32)), (.int (42 : Int32)), (.int (48 : Int32)), (.int (5 : Int32)), (.int (6 : Int32)), (.int (3 : Int32)), (.int (43 : Int32)), (.int (101 : Int32)), (.int (112 : Int32)), (.int (3 : Int32)), (.int (33 : Int32)), (.int (0 : Int32))] (.int (0 : Int32))) (S_SUBJECT_PUBLIC_KEY_INFO_HEAD : Sta Z h0 "com/example/lasting_names/lastingnames/Ed25519" "SUBJECT_PUBLIC_KEY_INFO_HEAD" "[B" (.ref w10)) :
    MetFree l x (head1 (Jvm.Cond.code x code maxLocals ret :: ws) room_1) (fun a U => a = #[(.long q1), (.long q2), (.long q3), (.long q4)] ∧ Z.Warmed39 U.vm ∧ U.heap = h0) (fun _ _ _ _ _ => True) (fun _ U o U' => ∃ v L, o = .returned v ∧ own_QT n0 v L ∧ FrameEnd U o U' L room_1.cells room_1.slots) := by
  refine MetFree.of_bodySF (plainFor_of_name pn_0) hisR ?_
  intro p e s m args below meth c s₁ Bd hml0 hP hK
  obtain ⟨rfl, hZ, hh⟩ := hP
  have hx := Bd.exec
  have hby := Bd.bytes
  have hml : c.maxLocals = 13 := hml0
  have hown : s.vm.findClass "com/example/lasting_names/lastingnames/Ed25519SubjectPublicKeyInfoPinLaw" = some m.cls := findClass_of_methodNamed Bd.named
  have hnm := (name_of_methodNamed Bd.named Bd.method).1
  have X0 : Stand p l e room_1 s m #[(.long q1), (.long q2), (.long q3), (.long q4)] below meth c s₁ [] 0 0 := Stand.of_body Bd
  have e0 : s₁.heap = h0 := by rw [← hh, Bd.state]; rfl
  have N0 := Fr.nil n0
  have pre0 : ∀ t, Steps p.tables e below (s₁.setTop (mkF m 0 #[.val (.long q1), .second, .val (.long q2), .second, .val (.long q3), .second, .val (.long q4), .second, .unset, .unset, .unset, .unset, .unset] [])) t → Steps p.tables e below (s₁.setTop (entryFrame m #[(.long q1), (.long q2), (.long q3), (.long q4)] maxLocals)) t := fun t k => castTop (ef_0_JJJJ m q1 q2 q3 q4) k
  obtain ⟨T5, h5, k5, X5, e5, E5, A5, st5⟩ := newP X0 hx hZ (hw _ (List.mem_of_getElem? (i := 0) rfl)) e0 (g := (mkF m 2 #[.val (.long q1), .second, .val (.long q2), .second, .val (.long q3), .second, .val (.long q4), .second, .unset, .unset, .unset, .unset, .unset] [(.int (32 : Int32))])) rfl (hb hby at_2) rfl (by decide) (cap := 32) (by decide) (by decide) (by decide) (by decide)
  obtain ⟨b5, g5⟩ : ∃ z, z = h0.size := ⟨_, rfl⟩
  rw [← g5] at A5 st5
  have sz_b5 : h0.size ≤ b5 := Nat.le_trans (Keep.refl h0 []).1 (Nat.le_of_eq g5.symm)
  have g_b5 : n0 ≤ b5 := Nat.le_trans Z0 sz_b5
  have K0_5 : Keep h0 h5 [] := (Keep.refl h0 []).ext E5
  have Z5 : n0 ≤ h5.size := Nat.le_trans Z0 E5.1
  have V_b5 : Arv Z h5 b5 k5 .byte (32 : Int32) [(.int (0 : Int32)), (.int (0 : Int32)), (.int (0 : Int32)), (.int (0 : Int32)), (.int (0 : Int32)), (.int (0 : Int32)), (.int (0 : Int32)), (.int (0 : Int32)), (.int (0 : Int32)), (.int (0 : Int32)), (.int (0 : Int32)), (.int (0 : Int32)), (.int (0 : Int32)), (.int (0 : Int32)), (.int (0 : Int32)), (.int (0 : Int32)), (.int (0 : Int32)), (.int (0 : Int32)), (.int (0 : Int32)), (.int (0 : Int32)), (.int (0 : Int32)), (.int (0 : Int32)), (.int (0 : Int32)), (.int (0 : Int32)), (.int (0 : Int32)), (.int (0 : Int32)), (.int (0 : Int32)), (.int (0 : Int32)), (.int (0 : Int32)), (.int (0 : Int32)), (.int (0 : Int32)), (.int (0 : Int32))] (.int (0 : Int32)) := (Arv.new A5 (by decide)).pad (pad_rep [] (.int (0 : Int32)) 32)
  obtain ⟨_, _, ⟨T6, L6, k6, n6⟩, -, X6, ⟨Lc6, hQ6, l6, y6, z6⟩, st6⟩ := Jvm.LawKit.callS X5 hx (y := (⟨"com/example/lasting_names/lastingnames/Ed25519SubjectPublicKeyInfoPinLaw", "put", "([BIJ)V"⟩ : MethodName)) hown (mvT hZ (hw _ (List.mem_of_getElem? (i := 1) rfl))) (mvT hZ (hw _ (List.mem_of_getElem? (i := 2) rfl))) (mvT hZ (hw _ (List.mem_of_getElem? (i := 3) rfl))) (mvT hZ (hw _ (List.mem_of_getElem? (i := 4) rfl))) (by decide) (backOf (W := 0) (rm1_1 l Z a0 hw [] b5 q1 k5 h5 n0 Z5 V_b5 g_b5) hZ (hw _ (List.mem_of_getElem? (i := 4) rfl)) (hw _ (List.mem_of_getElem? (i := 3) rfl)) (by decide) (by decide)) (g := (mkF m 10 #[.val (.long q1), .second, .val (.long q2), .second, .val (.long q3), .second, .val (.long q4), .second, .val (.ref b5), .unset, .unset, .unset, .unset] [(.long q1), (.int (0 : Int32)), (.ref b5)])) rfl (by rw [hml]; rfl) (argsL := [(.ref b5), (.int (0 : Int32)), (.long q1)]) (rest := []) (lenOf pd_0 rfl) rfl (by show 2 * 0 + _ ≤ _; exact Nat.le_of_eq rfl) (hb hby at_10) (fun _ _ => ⟨rfl, e5, (by decide : 1 + 0 ≤ _), (by decide : 32 + 0 ≤ _)⟩)
  dsimp only [Pt.U, Pt.locs, Pt.cells, Pt.slots] at X6 l6 y6 z6 st6 hQ6
  subst l6 y6 z6
  obtain ⟨rfl, Nq6, K6, x6_0⟩ := hQ6
  have N6 := Fr.app N0 Nq6
  have K0_6 : Keep h0 T6.heap [] := K0_5.trans K6 (allS (Or.inr sz_b5) all0)
  have Z6 : n0 ≤ T6.heap.size := Nat.le_trans Z5 K6.1
  obtain ⟨_, _, ⟨T7, L7, k7, n7⟩, -, X7, ⟨Lc7, hQ7, l7, y7, z7⟩, st7⟩ := Jvm.LawKit.callS X6 hx (y := (⟨"com/example/lasting_names/lastingnames/Ed25519SubjectPublicKeyInfoPinLaw", "put", "([BIJ)V"⟩ : MethodName)) hown (mvT hZ (hw _ (List.mem_of_getElem? (i := 1) rfl))) (mvT hZ (hw _ (List.mem_of_getElem? (i := 2) rfl))) (mvT hZ (hw _ (List.mem_of_getElem? (i := 3) rfl))) (mvT hZ (hw _ (List.mem_of_getElem? (i := 4) rfl))) (by decide) (backOf (W := 0) (rm1_2 l Z a0 hw [] b5 q2 k5 ((((q1.toUInt64 >>> ((56 : Int32) &&& 0x3f).toInt64.toUInt64).toInt64).toInt32).toInt8.toInt32) ((((q1.toUInt64 >>> ((48 : Int32) &&& 0x3f).toInt64.toUInt64).toInt64).toInt32).toInt8.toInt32) ((((q1.toUInt64 >>> ((40 : Int32) &&& 0x3f).toInt64.toUInt64).toInt64).toInt32).toInt8.toInt32) ((((q1.toUInt64 >>> ((32 : Int32) &&& 0x3f).toInt64.toUInt64).toInt64).toInt32).toInt8.toInt32) ((((q1.toUInt64 >>> ((24 : Int32) &&& 0x3f).toInt64.toUInt64).toInt64).toInt32).toInt8.toInt32) ((((q1.toUInt64 >>> ((16 : Int32) &&& 0x3f).toInt64.toUInt64).toInt64).toInt32).toInt8.toInt32) ((((q1.toUInt64 >>> ((8 : Int32) &&& 0x3f).toInt64.toUInt64).toInt64).toInt32).toInt8.toInt32) ((q1.toInt32).toInt8.toInt32) T6.heap n0 Z6 x6_0 g_b5) hZ (hw _ (List.mem_of_getElem? (i := 4) rfl)) (hw _ (List.mem_of_getElem? (i := 3) rfl)) (by decide) (by decide)) (g := (mkF m 18 #[.val (.long q1), .second, .val (.long q2), .second, .val (.long q3), .second, .val (.long q4), .second, .val (.ref b5), .unset, .unset, .unset, .unset] [(.long q2), (.int (8 : Int32)), (.ref b5)])) rfl (by rw [hml]; rfl) (argsL := [(.ref b5), (.int (8 : Int32)), (.long q2)]) (rest := []) (lenOf pd_0 rfl) rfl (by show 2 * 0 + _ ≤ _; exact Nat.le_of_eq rfl) (hb hby at_18) (fun _ _ => ⟨rfl, rfl, (by decide : 1 + 0 ≤ _), (by decide : 32 + 0 ≤ _)⟩)
  dsimp only [Pt.U, Pt.locs, Pt.cells, Pt.slots] at X7 l7 y7 z7 st7 hQ7
  subst l7 y7 z7
  obtain ⟨rfl, Nq7, K7, x7_0⟩ := hQ7
  have N7 := Fr.app N6 Nq7
  have K0_7 : Keep h0 T7.heap [] := K0_6.trans K7 (allS (Or.inr sz_b5) all0)
  have Z7 : n0 ≤ T7.heap.size := Nat.le_trans Z6 K7.1
  obtain ⟨_, _, ⟨T8, L8, k8, n8⟩, -, X8, ⟨Lc8, hQ8, l8, y8, z8⟩, st8⟩ := Jvm.LawKit.callS X7 hx (y := (⟨"com/example/lasting_names/lastingnames/Ed25519SubjectPublicKeyInfoPinLaw", "put", "([BIJ)V"⟩ : MethodName)) hown (mvT hZ (hw _ (List.mem_of_getElem? (i := 1) rfl))) (mvT hZ (hw _ (List.mem_of_getElem? (i := 2) rfl))) (mvT hZ (hw _ (List.mem_of_getElem? (i := 3) rfl))) (mvT hZ (hw _ (List.mem_of_getElem? (i := 4) rfl))) (by decide) (backOf (W := 0) (rm1_3 l Z a0 hw [] b5 q3 k5 ((((q1.toUInt64 >>> ((56 : Int32) &&& 0x3f).toInt64.toUInt64).toInt64).toInt32).toInt8.toInt32) ((((q1.toUInt64 >>> ((48 : Int32) &&& 0x3f).toInt64.toUInt64).toInt64).toInt32).toInt8.toInt32) ((((q1.toUInt64 >>> ((40 : Int32) &&& 0x3f).toInt64.toUInt64).toInt64).toInt32).toInt8.toInt32) ((((q1.toUInt64 >>> ((32 : Int32) &&& 0x3f).toInt64.toUInt64).toInt64).toInt32).toInt8.toInt32) ((((q1.toUInt64 >>> ((24 : Int32) &&& 0x3f).toInt64.toUInt64).toInt64).toInt32).toInt8.toInt32) ((((q1.toUInt64 >>> ((16 : Int32) &&& 0x3f).toInt64.toUInt64).toInt64).toInt32).toInt8.toInt32) ((((q1.toUInt64 >>> ((8 : Int32) &&& 0x3f).toInt64.toUInt64).toInt64).toInt32).toInt8.toInt32) ((q1.toInt32).toInt8.toInt32) ((((q2.toUInt64 >>> ((56 : Int32) &&& 0x3f).toInt64.toUInt64).toInt64).toInt32).toInt8.toInt32) ((((q2.toUInt64 >>> ((48 : Int32) &&& 0x3f).toInt64.toUInt64).toInt64).toInt32).toInt8.toInt32) ((((q2.toUInt64 >>> ((40 : Int32) &&& 0x3f).toInt64.toUInt64).toInt64).toInt32).toInt8.toInt32) ((((q2.toUInt64 >>> ((32 : Int32) &&& 0x3f).toInt64.toUInt64).toInt64).toInt32).toInt8.toInt32) ((((q2.toUInt64 >>> ((24 : Int32) &&& 0x3f).toInt64.toUInt64).toInt64).toInt32).toInt8.toInt32) ((((q2.toUInt64 >>> ((16 : Int32) &&& 0x3f).toInt64.toUInt64).toInt64).toInt32).toInt8.toInt32) ((((q2.toUInt64 >>> ((8 : Int32) &&& 0x3f).toInt64.toUInt64).toInt64).toInt32).toInt8.toInt32) ((q2.toInt32).toInt8.toInt32) T7.heap n0 Z7 x7_0 g_b5) hZ (hw _ (List.mem_of_getElem? (i := 4) rfl)) (hw _ (List.mem_of_getElem? (i := 3) rfl)) (by decide) (by decide)) (g := (mkF m 27 #[.val (.long q1), .second, .val (.long q2), .second, .val (.long q3), .second, .val (.long q4), .second, .val (.ref b5), .unset, .unset, .unset, .unset] [(.long q3), (.int (16 : Int32)), (.ref b5)])) rfl (by rw [hml]; rfl) (argsL := [(.ref b5), (.int (16 : Int32)), (.long q3)]) (rest := []) (lenOf pd_0 rfl) rfl (by show 2 * 0 + _ ≤ _; exact Nat.le_of_eq rfl) (hb hby at_27) (fun _ _ => ⟨rfl, rfl, (by decide : 1 + 0 ≤ _), (by decide : 32 + 0 ≤ _)⟩)
  dsimp only [Pt.U, Pt.locs, Pt.cells, Pt.slots] at X8 l8 y8 z8 st8 hQ8
  subst l8 y8 z8
  obtain ⟨rfl, Nq8, K8, x8_0⟩ := hQ8
  have N8 := Fr.app N7 Nq8
  have K0_8 : Keep h0 T8.heap [] := K0_7.trans K8 (allS (Or.inr sz_b5) all0)
  have Z8 : n0 ≤ T8.heap.size := Nat.le_trans Z7 K8.1
  obtain ⟨_, _, ⟨T9, L9, k9, n9⟩, -, X9, ⟨Lc9, hQ9, l9, y9, z9⟩, st9⟩ := Jvm.LawKit.callS X8 hx (y := (⟨"com/example/lasting_names/lastingnames/Ed25519SubjectPublicKeyInfoPinLaw", "put", "([BIJ)V"⟩ : MethodName)) hown (mvT hZ (hw _ (List.mem_of_getElem? (i := 1) rfl))) (mvT hZ (hw _ (List.mem_of_getElem? (i := 2) rfl))) (mvT hZ (hw _ (List.mem_of_getElem? (i := 3) rfl))) (mvT hZ (hw _ (List.mem_of_getElem? (i := 4) rfl))) (by decide) (backOf (W := 0) (rm1_4 l Z a0 hw [] b5 q4 k5 ((((q1.toUInt64 >>> ((56 : Int32) &&& 0x3f).toInt64.toUInt64).toInt64).toInt32).toInt8.toInt32) ((((q1.toUInt64 >>> ((48 : Int32) &&& 0x3f).toInt64.toUInt64).toInt64).toInt32).toInt8.toInt32) ((((q1.toUInt64 >>> ((40 : Int32) &&& 0x3f).toInt64.toUInt64).toInt64).toInt32).toInt8.toInt32) ((((q1.toUInt64 >>> ((32 : Int32) &&& 0x3f).toInt64.toUInt64).toInt64).toInt32).toInt8.toInt32) ((((q1.toUInt64 >>> ((24 : Int32) &&& 0x3f).toInt64.toUInt64).toInt64).toInt32).toInt8.toInt32) ((((q1.toUInt64 >>> ((16 : Int32) &&& 0x3f).toInt64.toUInt64).toInt64).toInt32).toInt8.toInt32) ((((q1.toUInt64 >>> ((8 : Int32) &&& 0x3f).toInt64.toUInt64).toInt64).toInt32).toInt8.toInt32) ((q1.toInt32).toInt8.toInt32) ((((q2.toUInt64 >>> ((56 : Int32) &&& 0x3f).toInt64.toUInt64).toInt64).toInt32).toInt8.toInt32) ((((q2.toUInt64 >>> ((48 : Int32) &&& 0x3f).toInt64.toUInt64).toInt64).toInt32).toInt8.toInt32) ((((q2.toUInt64 >>> ((40 : Int32) &&& 0x3f).toInt64.toUInt64).toInt64).toInt32).toInt8.toInt32) ((((q2.toUInt64 >>> ((32 : Int32) &&& 0x3f).toInt64.toUInt64).toInt64).toInt32).toInt8.toInt32) ((((q2.toUInt64 >>> ((24 : Int32) &&& 0x3f).toInt64.toUInt64).toInt64).toInt32).toInt8.toInt32) ((((q2.toUInt64 >>> ((16 : Int32) &&& 0x3f).toInt64.toUInt64).toInt64).toInt32).toInt8.toInt32) ((((q2.toUInt64 >>> ((8 : Int32) &&& 0x3f).toInt64.toUInt64).toInt64).toInt32).toInt8.toInt32) ((q2.toInt32).toInt8.toInt32) ((((q3.toUInt64 >>> ((56 : Int32) &&& 0x3f).toInt64.toUInt64).toInt64).toInt32).toInt8.toInt32) ((((q3.toUInt64 >>> ((48 : Int32) &&& 0x3f).toInt64.toUInt64).toInt64).toInt32).toInt8.toInt32) ((((q3.toUInt64 >>> ((40 : Int32) &&& 0x3f).toInt64.toUInt64).toInt64).toInt32).toInt8.toInt32) ((((q3.toUInt64 >>> ((32 : Int32) &&& 0x3f).toInt64.toUInt64).toInt64).toInt32).toInt8.toInt32) ((((q3.toUInt64 >>> ((24 : Int32) &&& 0x3f).toInt64.toUInt64).toInt64).toInt32).toInt8.toInt32) ((((q3.toUInt64 >>> ((16 : Int32) &&& 0x3f).toInt64.toUInt64).toInt64).toInt32).toInt8.toInt32) ((((q3.toUInt64 >>> ((8 : Int32) &&& 0x3f).toInt64.toUInt64).toInt64).toInt32).toInt8.toInt32) ((q3.toInt32).toInt8.toInt32) T8.heap n0 Z8 x8_0 g_b5) hZ (hw _ (List.mem_of_getElem? (i := 4) rfl)) (hw _ (List.mem_of_getElem? (i := 3) rfl)) (by decide) (by decide)) (g := (mkF m 36 #[.val (.long q1), .second, .val (.long q2), .second, .val (.long q3), .second, .val (.long q4), .second, .val (.ref b5), .unset, .unset, .unset, .unset] [(.long q4), (.int (24 : Int32)), (.ref b5)])) rfl (by rw [hml]; rfl) (argsL := [(.ref b5), (.int (24 : Int32)), (.long q4)]) (rest := []) (lenOf pd_0 rfl) rfl (by show 2 * 0 + _ ≤ _; exact Nat.le_of_eq rfl) (hb hby at_36) (fun _ _ => ⟨rfl, rfl, (by decide : 1 + 0 ≤ _), (by decide : 32 + 0 ≤ _)⟩)
  dsimp only [Pt.U, Pt.locs, Pt.cells, Pt.slots] at X9 l9 y9 z9 st9 hQ9
  subst l9 y9 z9
  obtain ⟨rfl, Nq9, K9, x9_0⟩ := hQ9
  have N9 := Fr.app N8 Nq9
  have K0_9 : Keep h0 T9.heap [] := K0_8.trans K9 (allS (Or.inr sz_b5) all0)
  have Z9 : n0 ≤ T9.heap.size := Nat.le_trans Z8 K9.1
  have ne11 : w10 ≠ b5 := Nat.ne_of_lt (Nat.lt_of_lt_of_le V_w10.lt (Nat.le_of_eq g5.symm))
  have f12 := (((((V_w10.ext E5).keep K6 (ninS ne11 nin0)).keep K7 (ninS ne11 nin0)).keep K8 (ninS ne11 nin0)).keep K9 (ninS ne11 nin0))
  have f13 := (own_sta_keep (own_sta_keep (own_sta_keep (own_sta_keep (S_SUBJECT_PUBLIC_KEY_INFO_HEAD.ext E5) K6 (allS (own_nostV V_b5) all0)) K7 (allS (own_nostV x6_0) all0)) K8 (allS (own_nostV x7_0) all0)) K9 (allS (own_nostV x8_0) all0))
  obtain ⟨_, _, ⟨T14, L14, k14, n14⟩, -, X14, ⟨Lc14, hQ14, l14, y14, z14⟩, st14⟩ := Jvm.LawKit.callS X9 hx (y := (⟨"com/example/lasting_names/lastingnames/Ed25519", "subjectPublicKeyInfo", "([B)[B"⟩ : MethodName)) hown (mvT hZ (hw _ (List.mem_of_getElem? (i := 5) rfl))) (mvT hZ (hw _ (List.mem_of_getElem? (i := 6) rfl))) (mvT hZ (hw _ (List.mem_of_getElem? (i := 7) rfl))) (mvT hZ (hw _ (List.mem_of_getElem? (i := 8) rfl))) (by decide) (backOf (W := 0) (rm2_1 l Z a0 hw [] b5 w10 k_w10 k5 ((((q1.toUInt64 >>> ((56 : Int32) &&& 0x3f).toInt64.toUInt64).toInt64).toInt32).toInt8.toInt32) ((((q1.toUInt64 >>> ((48 : Int32) &&& 0x3f).toInt64.toUInt64).toInt64).toInt32).toInt8.toInt32) ((((q1.toUInt64 >>> ((40 : Int32) &&& 0x3f).toInt64.toUInt64).toInt64).toInt32).toInt8.toInt32) ((((q1.toUInt64 >>> ((32 : Int32) &&& 0x3f).toInt64.toUInt64).toInt64).toInt32).toInt8.toInt32) ((((q1.toUInt64 >>> ((24 : Int32) &&& 0x3f).toInt64.toUInt64).toInt64).toInt32).toInt8.toInt32) ((((q1.toUInt64 >>> ((16 : Int32) &&& 0x3f).toInt64.toUInt64).toInt64).toInt32).toInt8.toInt32) ((((q1.toUInt64 >>> ((8 : Int32) &&& 0x3f).toInt64.toUInt64).toInt64).toInt32).toInt8.toInt32) ((q1.toInt32).toInt8.toInt32) ((((q2.toUInt64 >>> ((56 : Int32) &&& 0x3f).toInt64.toUInt64).toInt64).toInt32).toInt8.toInt32) ((((q2.toUInt64 >>> ((48 : Int32) &&& 0x3f).toInt64.toUInt64).toInt64).toInt32).toInt8.toInt32) ((((q2.toUInt64 >>> ((40 : Int32) &&& 0x3f).toInt64.toUInt64).toInt64).toInt32).toInt8.toInt32) ((((q2.toUInt64 >>> ((32 : Int32) &&& 0x3f).toInt64.toUInt64).toInt64).toInt32).toInt8.toInt32) ((((q2.toUInt64 >>> ((24 : Int32) &&& 0x3f).toInt64.toUInt64).toInt64).toInt32).toInt8.toInt32) ((((q2.toUInt64 >>> ((16 : Int32) &&& 0x3f).toInt64.toUInt64).toInt64).toInt32).toInt8.toInt32) ((((q2.toUInt64 >>> ((8 : Int32) &&& 0x3f).toInt64.toUInt64).toInt64).toInt32).toInt8.toInt32) ((q2.toInt32).toInt8.toInt32) ((((q3.toUInt64 >>> ((56 : Int32) &&& 0x3f).toInt64.toUInt64).toInt64).toInt32).toInt8.toInt32) ((((q3.toUInt64 >>> ((48 : Int32) &&& 0x3f).toInt64.toUInt64).toInt64).toInt32).toInt8.toInt32) ((((q3.toUInt64 >>> ((40 : Int32) &&& 0x3f).toInt64.toUInt64).toInt64).toInt32).toInt8.toInt32) ((((q3.toUInt64 >>> ((32 : Int32) &&& 0x3f).toInt64.toUInt64).toInt64).toInt32).toInt8.toInt32) ((((q3.toUInt64 >>> ((24 : Int32) &&& 0x3f).toInt64.toUInt64).toInt64).toInt32).toInt8.toInt32) ((((q3.toUInt64 >>> ((16 : Int32) &&& 0x3f).toInt64.toUInt64).toInt64).toInt32).toInt8.toInt32) ((((q3.toUInt64 >>> ((8 : Int32) &&& 0x3f).toInt64.toUInt64).toInt64).toInt32).toInt8.toInt32) ((q3.toInt32).toInt8.toInt32) ((((q4.toUInt64 >>> ((56 : Int32) &&& 0x3f).toInt64.toUInt64).toInt64).toInt32).toInt8.toInt32) ((((q4.toUInt64 >>> ((48 : Int32) &&& 0x3f).toInt64.toUInt64).toInt64).toInt32).toInt8.toInt32) ((((q4.toUInt64 >>> ((40 : Int32) &&& 0x3f).toInt64.toUInt64).toInt64).toInt32).toInt8.toInt32) ((((q4.toUInt64 >>> ((32 : Int32) &&& 0x3f).toInt64.toUInt64).toInt64).toInt32).toInt8.toInt32) ((((q4.toUInt64 >>> ((24 : Int32) &&& 0x3f).toInt64.toUInt64).toInt64).toInt32).toInt8.toInt32) ((((q4.toUInt64 >>> ((16 : Int32) &&& 0x3f).toInt64.toUInt64).toInt64).toInt32).toInt8.toInt32) ((((q4.toUInt64 >>> ((8 : Int32) &&& 0x3f).toInt64.toUInt64).toInt64).toInt32).toInt8.toInt32) ((q4.toInt32).toInt8.toInt32) T9.heap n0 Z9 f13 f12 x9_0) hZ (hw _ (List.mem_of_getElem? (i := 8) rfl)) (hw _ (List.mem_of_getElem? (i := 7) rfl)) (by decide) (by decide)) (g := (mkF m 41 #[.val (.long q1), .second, .val (.long q2), .second, .val (.long q3), .second, .val (.long q4), .second, .val (.ref b5), .unset, .unset, .unset, .unset] [(.ref b5)])) rfl (by rw [hml]; rfl) (argsL := [(.ref b5)]) (rest := []) (lenOf pd_3 rfl) rfl (by show 2 * 0 + _ ≤ _; exact Nat.le_of_eq rfl) (hb hby at_41) (fun _ _ => ⟨rfl, rfl, (by decide : 1 + 1 ≤ _), (by decide : 32 + 44 ≤ _)⟩)
  dsimp only [Pt.U, Pt.locs, Pt.cells, Pt.slots] at X14 l14 y14 z14 st14 hQ14
  subst l14 y14 z14
  obtain ⟨b3_39_14, k3_39_14, rfl, Nq14, K14, x14_0, x14_1⟩ := hQ14
  have N14 := Fr.app N9 Nq14
  have sz_b3_39_14 : h0.size ≤ b3_39_14 := Nat.le_trans K0_9.1 x14_0
  have g_b3_39_14 : n0 ≤ b3_39_14 := Nat.le_trans Z0 sz_b3_39_14
  have K0_14 : Keep h0 T14.heap [] := K0_9.trans K14 all0
  have Z14 : n0 ≤ T14.heap.size := Nat.le_trans Z9 K14.1
  obtain ⟨cl15, Ar15, -, S15, N_15, -, -⟩ := id x14_1
  obtain ⟨cl16, Ar16, q16, S16, N_16, H16, G16⟩ := id x14_1
  have hin16 : ¬ ((0 : Int32) < 0 ∨ cl16.slots.size ≤ ((0 : Int32)).toNatClampNeg) := inb_of S16 ⟨by decide, (by decide : (0 : Int32) < (44 : Int32))⟩
  have hat16 : cl16.slots[((0 : Int32)).toNatClampNeg]? = some (.int (48 : Int32)) := Has.at H16 hin16 rfl
  obtain ⟨cl17, Ar17, q17, S17, N_17, H17, G17⟩ := id x14_1
  have hin17 : ¬ ((1 : Int32) < 0 ∨ cl17.slots.size ≤ ((1 : Int32)).toNatClampNeg) := inb_of S17 ⟨by decide, (by decide : (1 : Int32) < (44 : Int32))⟩
  have hat17 : cl17.slots[((1 : Int32)).toNatClampNeg]? = some (.int (42 : Int32)) := Has.at H17 hin17 rfl
  obtain ⟨cl18, Ar18, q18, S18, N_18, H18, G18⟩ := id x14_1
  have hin18 : ¬ ((2 : Int32) < 0 ∨ cl18.slots.size ≤ ((2 : Int32)).toNatClampNeg) := inb_of S18 ⟨by decide, (by decide : (2 : Int32) < (44 : Int32))⟩
  have hat18 : cl18.slots[((2 : Int32)).toNatClampNeg]? = some (.int (48 : Int32)) := Has.at H18 hin18 rfl
  obtain ⟨cl19, Ar19, q19, S19, N_19, H19, G19⟩ := id x14_1
  have hin19 : ¬ ((3 : Int32) < 0 ∨ cl19.slots.size ≤ ((3 : Int32)).toNatClampNeg) := inb_of S19 ⟨by decide, (by decide : (3 : Int32) < (44 : Int32))⟩
  have hat19 : cl19.slots[((3 : Int32)).toNatClampNeg]? = some (.int (5 : Int32)) := Has.at H19 hin19 rfl
  obtain ⟨cl20, Ar20, q20, S20, N_20, H20, G20⟩ := id x14_1
  have hin20 : ¬ ((4 : Int32) < 0 ∨ cl20.slots.size ≤ ((4 : Int32)).toNatClampNeg) := inb_of S20 ⟨by decide, (by decide : (4 : Int32) < (44 : Int32))⟩
  have hat20 : cl20.slots[((4 : Int32)).toNatClampNeg]? = some (.int (6 : Int32)) := Has.at H20 hin20 rfl
  obtain ⟨cl21, Ar21, q21, S21, N_21, H21, G21⟩ := id x14_1
  have hin21 : ¬ ((5 : Int32) < 0 ∨ cl21.slots.size ≤ ((5 : Int32)).toNatClampNeg) := inb_of S21 ⟨by decide, (by decide : (5 : Int32) < (44 : Int32))⟩
  have hat21 : cl21.slots[((5 : Int32)).toNatClampNeg]? = some (.int (3 : Int32)) := Has.at H21 hin21 rfl
  obtain ⟨cl22, Ar22, q22, S22, N_22, H22, G22⟩ := id x14_1
  have hin22 : ¬ ((6 : Int32) < 0 ∨ cl22.slots.size ≤ ((6 : Int32)).toNatClampNeg) := inb_of S22 ⟨by decide, (by decide : (6 : Int32) < (44 : Int32))⟩
  have hat22 : cl22.slots[((6 : Int32)).toNatClampNeg]? = some (.int (43 : Int32)) := Has.at H22 hin22 rfl
  obtain ⟨cl23, Ar23, q23, S23, N_23, H23, G23⟩ := id x14_1
  have hin23 : ¬ ((7 : Int32) < 0 ∨ cl23.slots.size ≤ ((7 : Int32)).toNatClampNeg) := inb_of S23 ⟨by decide, (by decide : (7 : Int32) < (44 : Int32))⟩
  have hat23 : cl23.slots[((7 : Int32)).toNatClampNeg]? = some (.int (101 : Int32)) := Has.at H23 hin23 rfl
  obtain ⟨cl24, Ar24, q24, S24, N_24, H24, G24⟩ := id x14_1
  have hin24 : ¬ ((8 : Int32) < 0 ∨ cl24.slots.size ≤ ((8 : Int32)).toNatClampNeg) := inb_of S24 ⟨by decide, (by decide : (8 : Int32) < (44 : Int32))⟩
  have hat24 : cl24.slots[((8 : Int32)).toNatClampNeg]? = some (.int (112 : Int32)) := Has.at H24 hin24 rfl
  obtain ⟨cl25, Ar25, q25, S25, N_25, H25, G25⟩ := id x14_1
  have hin25 : ¬ ((9 : Int32) < 0 ∨ cl25.slots.size ≤ ((9 : Int32)).toNatClampNeg) := inb_of S25 ⟨by decide, (by decide : (9 : Int32) < (44 : Int32))⟩
  have hat25 : cl25.slots[((9 : Int32)).toNatClampNeg]? = some (.int (3 : Int32)) := Has.at H25 hin25 rfl
  obtain ⟨cl26, Ar26, q26, S26, N_26, H26, G26⟩ := id x14_1
  have hin26 : ¬ ((10 : Int32) < 0 ∨ cl26.slots.size ≤ ((10 : Int32)).toNatClampNeg) := inb_of S26 ⟨by decide, (by decide : (10 : Int32) < (44 : Int32))⟩
  have hat26 : cl26.slots[((10 : Int32)).toNatClampNeg]? = some (.int (33 : Int32)) := Has.at H26 hin26 rfl
  obtain ⟨cl27, Ar27, q27, S27, N_27, H27, G27⟩ := id x14_1
  have hin27 : ¬ ((11 : Int32) < 0 ∨ cl27.slots.size ≤ ((11 : Int32)).toNatClampNeg) := inb_of S27 ⟨by decide, (by decide : (11 : Int32) < (44 : Int32))⟩
  have hat27 : cl27.slots[((11 : Int32)).toNatClampNeg]? = some (.int (0 : Int32)) := Has.at H27 hin27 rfl
  obtain ⟨_, _, ⟨T28, L28, k28, n28⟩, -, X28, ⟨Lc28, hQ28, l28, y28, z28⟩, st28⟩ := Jvm.LawKit.callS X14 hx (y := (⟨"com/example/lasting_names/lastingnames/Ed25519SubjectPublicKeyInfoPinLaw", "same", "([BIJ)Z"⟩ : MethodName)) hown (mvT hZ (hw _ (List.mem_of_getElem? (i := 24) rfl))) (mvT hZ (hw _ (List.mem_of_getElem? (i := 25) rfl))) (mvT hZ (hw _ (List.mem_of_getElem? (i := 3) rfl))) (mvT hZ (hw _ (List.mem_of_getElem? (i := 26) rfl))) (by decide) (backOf (W := 0) (rm5_1 l Z a0 hw [] b3_39_14 q1 k3_39_14 ((((q1.toUInt64 >>> ((56 : Int32) &&& 0x3f).toInt64.toUInt64).toInt64).toInt32).toInt8.toInt32) ((((q1.toUInt64 >>> ((48 : Int32) &&& 0x3f).toInt64.toUInt64).toInt64).toInt32).toInt8.toInt32) ((((q1.toUInt64 >>> ((40 : Int32) &&& 0x3f).toInt64.toUInt64).toInt64).toInt32).toInt8.toInt32) ((((q1.toUInt64 >>> ((32 : Int32) &&& 0x3f).toInt64.toUInt64).toInt64).toInt32).toInt8.toInt32) ((((q1.toUInt64 >>> ((24 : Int32) &&& 0x3f).toInt64.toUInt64).toInt64).toInt32).toInt8.toInt32) ((((q1.toUInt64 >>> ((16 : Int32) &&& 0x3f).toInt64.toUInt64).toInt64).toInt32).toInt8.toInt32) ((((q1.toUInt64 >>> ((8 : Int32) &&& 0x3f).toInt64.toUInt64).toInt64).toInt32).toInt8.toInt32) ((q1.toInt32).toInt8.toInt32) ((((q2.toUInt64 >>> ((56 : Int32) &&& 0x3f).toInt64.toUInt64).toInt64).toInt32).toInt8.toInt32) ((((q2.toUInt64 >>> ((48 : Int32) &&& 0x3f).toInt64.toUInt64).toInt64).toInt32).toInt8.toInt32) ((((q2.toUInt64 >>> ((40 : Int32) &&& 0x3f).toInt64.toUInt64).toInt64).toInt32).toInt8.toInt32) ((((q2.toUInt64 >>> ((32 : Int32) &&& 0x3f).toInt64.toUInt64).toInt64).toInt32).toInt8.toInt32) ((((q2.toUInt64 >>> ((24 : Int32) &&& 0x3f).toInt64.toUInt64).toInt64).toInt32).toInt8.toInt32) ((((q2.toUInt64 >>> ((16 : Int32) &&& 0x3f).toInt64.toUInt64).toInt64).toInt32).toInt8.toInt32) ((((q2.toUInt64 >>> ((8 : Int32) &&& 0x3f).toInt64.toUInt64).toInt64).toInt32).toInt8.toInt32) ((q2.toInt32).toInt8.toInt32) ((((q3.toUInt64 >>> ((56 : Int32) &&& 0x3f).toInt64.toUInt64).toInt64).toInt32).toInt8.toInt32) ((((q3.toUInt64 >>> ((48 : Int32) &&& 0x3f).toInt64.toUInt64).toInt64).toInt32).toInt8.toInt32) ((((q3.toUInt64 >>> ((40 : Int32) &&& 0x3f).toInt64.toUInt64).toInt64).toInt32).toInt8.toInt32) ((((q3.toUInt64 >>> ((32 : Int32) &&& 0x3f).toInt64.toUInt64).toInt64).toInt32).toInt8.toInt32) ((((q3.toUInt64 >>> ((24 : Int32) &&& 0x3f).toInt64.toUInt64).toInt64).toInt32).toInt8.toInt32) ((((q3.toUInt64 >>> ((16 : Int32) &&& 0x3f).toInt64.toUInt64).toInt64).toInt32).toInt8.toInt32) ((((q3.toUInt64 >>> ((8 : Int32) &&& 0x3f).toInt64.toUInt64).toInt64).toInt32).toInt8.toInt32) ((q3.toInt32).toInt8.toInt32) ((((q4.toUInt64 >>> ((56 : Int32) &&& 0x3f).toInt64.toUInt64).toInt64).toInt32).toInt8.toInt32) ((((q4.toUInt64 >>> ((48 : Int32) &&& 0x3f).toInt64.toUInt64).toInt64).toInt32).toInt8.toInt32) ((((q4.toUInt64 >>> ((40 : Int32) &&& 0x3f).toInt64.toUInt64).toInt64).toInt32).toInt8.toInt32) ((((q4.toUInt64 >>> ((32 : Int32) &&& 0x3f).toInt64.toUInt64).toInt64).toInt32).toInt8.toInt32) ((((q4.toUInt64 >>> ((24 : Int32) &&& 0x3f).toInt64.toUInt64).toInt64).toInt32).toInt8.toInt32) ((((q4.toUInt64 >>> ((16 : Int32) &&& 0x3f).toInt64.toUInt64).toInt64).toInt32).toInt8.toInt32) ((((q4.toUInt64 >>> ((8 : Int32) &&& 0x3f).toInt64.toUInt64).toInt64).toInt32).toInt8.toInt32) ((q4.toInt32).toInt8.toInt32) T14.heap n0 Z14 x14_1 (rfl : ((((q1.toUInt64 >>> ((56 : Int32) &&& 0x3f).toInt64.toUInt64).toInt64).toInt32).toInt8.toInt32) = ((((q1.toUInt64 >>> ((56 : Int32) &&& 0x3f).toInt64.toUInt64).toInt64).toInt32).toInt8.toInt32)) (rfl : ((((q1.toUInt64 >>> ((48 : Int32) &&& 0x3f).toInt64.toUInt64).toInt64).toInt32).toInt8.toInt32) = ((((q1.toUInt64 >>> ((48 : Int32) &&& 0x3f).toInt64.toUInt64).toInt64).toInt32).toInt8.toInt32)) (rfl : ((((q1.toUInt64 >>> ((40 : Int32) &&& 0x3f).toInt64.toUInt64).toInt64).toInt32).toInt8.toInt32) = ((((q1.toUInt64 >>> ((40 : Int32) &&& 0x3f).toInt64.toUInt64).toInt64).toInt32).toInt8.toInt32)) (rfl : ((((q1.toUInt64 >>> ((32 : Int32) &&& 0x3f).toInt64.toUInt64).toInt64).toInt32).toInt8.toInt32) = ((((q1.toUInt64 >>> ((32 : Int32) &&& 0x3f).toInt64.toUInt64).toInt64).toInt32).toInt8.toInt32)) (rfl : ((((q1.toUInt64 >>> ((24 : Int32) &&& 0x3f).toInt64.toUInt64).toInt64).toInt32).toInt8.toInt32) = ((((q1.toUInt64 >>> ((24 : Int32) &&& 0x3f).toInt64.toUInt64).toInt64).toInt32).toInt8.toInt32)) (rfl : ((((q1.toUInt64 >>> ((16 : Int32) &&& 0x3f).toInt64.toUInt64).toInt64).toInt32).toInt8.toInt32) = ((((q1.toUInt64 >>> ((16 : Int32) &&& 0x3f).toInt64.toUInt64).toInt64).toInt32).toInt8.toInt32)) (rfl : ((((q1.toUInt64 >>> ((8 : Int32) &&& 0x3f).toInt64.toUInt64).toInt64).toInt32).toInt8.toInt32) = ((((q1.toUInt64 >>> ((8 : Int32) &&& 0x3f).toInt64.toUInt64).toInt64).toInt32).toInt8.toInt32)) (rfl : ((q1.toInt32).toInt8.toInt32) = ((q1.toInt32).toInt8.toInt32))) hZ (hw _ (List.mem_of_getElem? (i := 26) rfl)) (hw _ (List.mem_of_getElem? (i := 3) rfl)) (by decide) (by decide)) (g := (mkF m 182 #[.val (.long q1), .second, .val (.long q2), .second, .val (.long q3), .second, .val (.long q4), .second, .val (.ref b5), .val (.ref b3_39_14), .val (.int (1 : Int32)), .unset, .unset] [(.long q1), (.int (12 : Int32)), (.ref b3_39_14)])) rfl (by rw [hml]; rfl) (argsL := [(.ref b3_39_14), (.int (12 : Int32)), (.long q1)]) (rest := []) (lenOf pd_4 rfl) rfl (by show 2 * 0 + _ ≤ _; exact Nat.le_of_eq rfl) (hb hby at_182) (fun _ _ => ⟨rfl, rfl, (by decide : 2 + 0 ≤ _), (by decide : 76 + 0 ≤ _)⟩)
  dsimp only [Pt.U, Pt.locs, Pt.cells, Pt.slots] at X28 l28 y28 z28 st28 hQ28
  subst l28 y28 z28
  obtain ⟨rfl, Nq28, e28⟩ := hQ28
  have N28 := Fr.app N14 Nq28
  obtain ⟨_, _, ⟨T29, L29, k29, n29⟩, -, X29, ⟨Lc29, hQ29, l29, y29, z29⟩, st29⟩ := Jvm.LawKit.callS X28 hx (y := (⟨"com/example/lasting_names/lastingnames/Ed25519SubjectPublicKeyInfoPinLaw", "same", "([BIJ)Z"⟩ : MethodName)) hown (mvT hZ (hw _ (List.mem_of_getElem? (i := 24) rfl))) (mvT hZ (hw _ (List.mem_of_getElem? (i := 25) rfl))) (mvT hZ (hw _ (List.mem_of_getElem? (i := 3) rfl))) (mvT hZ (hw _ (List.mem_of_getElem? (i := 26) rfl))) (by decide) (backOf (W := 0) (rm5_2 l Z a0 hw [] b3_39_14 q2 k3_39_14 ((((q1.toUInt64 >>> ((56 : Int32) &&& 0x3f).toInt64.toUInt64).toInt64).toInt32).toInt8.toInt32) ((((q1.toUInt64 >>> ((48 : Int32) &&& 0x3f).toInt64.toUInt64).toInt64).toInt32).toInt8.toInt32) ((((q1.toUInt64 >>> ((40 : Int32) &&& 0x3f).toInt64.toUInt64).toInt64).toInt32).toInt8.toInt32) ((((q1.toUInt64 >>> ((32 : Int32) &&& 0x3f).toInt64.toUInt64).toInt64).toInt32).toInt8.toInt32) ((((q1.toUInt64 >>> ((24 : Int32) &&& 0x3f).toInt64.toUInt64).toInt64).toInt32).toInt8.toInt32) ((((q1.toUInt64 >>> ((16 : Int32) &&& 0x3f).toInt64.toUInt64).toInt64).toInt32).toInt8.toInt32) ((((q1.toUInt64 >>> ((8 : Int32) &&& 0x3f).toInt64.toUInt64).toInt64).toInt32).toInt8.toInt32) ((q1.toInt32).toInt8.toInt32) ((((q2.toUInt64 >>> ((56 : Int32) &&& 0x3f).toInt64.toUInt64).toInt64).toInt32).toInt8.toInt32) ((((q2.toUInt64 >>> ((48 : Int32) &&& 0x3f).toInt64.toUInt64).toInt64).toInt32).toInt8.toInt32) ((((q2.toUInt64 >>> ((40 : Int32) &&& 0x3f).toInt64.toUInt64).toInt64).toInt32).toInt8.toInt32) ((((q2.toUInt64 >>> ((32 : Int32) &&& 0x3f).toInt64.toUInt64).toInt64).toInt32).toInt8.toInt32) ((((q2.toUInt64 >>> ((24 : Int32) &&& 0x3f).toInt64.toUInt64).toInt64).toInt32).toInt8.toInt32) ((((q2.toUInt64 >>> ((16 : Int32) &&& 0x3f).toInt64.toUInt64).toInt64).toInt32).toInt8.toInt32) ((((q2.toUInt64 >>> ((8 : Int32) &&& 0x3f).toInt64.toUInt64).toInt64).toInt32).toInt8.toInt32) ((q2.toInt32).toInt8.toInt32) ((((q3.toUInt64 >>> ((56 : Int32) &&& 0x3f).toInt64.toUInt64).toInt64).toInt32).toInt8.toInt32) ((((q3.toUInt64 >>> ((48 : Int32) &&& 0x3f).toInt64.toUInt64).toInt64).toInt32).toInt8.toInt32) ((((q3.toUInt64 >>> ((40 : Int32) &&& 0x3f).toInt64.toUInt64).toInt64).toInt32).toInt8.toInt32) ((((q3.toUInt64 >>> ((32 : Int32) &&& 0x3f).toInt64.toUInt64).toInt64).toInt32).toInt8.toInt32) ((((q3.toUInt64 >>> ((24 : Int32) &&& 0x3f).toInt64.toUInt64).toInt64).toInt32).toInt8.toInt32) ((((q3.toUInt64 >>> ((16 : Int32) &&& 0x3f).toInt64.toUInt64).toInt64).toInt32).toInt8.toInt32) ((((q3.toUInt64 >>> ((8 : Int32) &&& 0x3f).toInt64.toUInt64).toInt64).toInt32).toInt8.toInt32) ((q3.toInt32).toInt8.toInt32) ((((q4.toUInt64 >>> ((56 : Int32) &&& 0x3f).toInt64.toUInt64).toInt64).toInt32).toInt8.toInt32) ((((q4.toUInt64 >>> ((48 : Int32) &&& 0x3f).toInt64.toUInt64).toInt64).toInt32).toInt8.toInt32) ((((q4.toUInt64 >>> ((40 : Int32) &&& 0x3f).toInt64.toUInt64).toInt64).toInt32).toInt8.toInt32) ((((q4.toUInt64 >>> ((32 : Int32) &&& 0x3f).toInt64.toUInt64).toInt64).toInt32).toInt8.toInt32) ((((q4.toUInt64 >>> ((24 : Int32) &&& 0x3f).toInt64.toUInt64).toInt64).toInt32).toInt8.toInt32) ((((q4.toUInt64 >>> ((16 : Int32) &&& 0x3f).toInt64.toUInt64).toInt64).toInt32).toInt8.toInt32) ((((q4.toUInt64 >>> ((8 : Int32) &&& 0x3f).toInt64.toUInt64).toInt64).toInt32).toInt8.toInt32) ((q4.toInt32).toInt8.toInt32) T14.heap n0 Z14 x14_1 (rfl : ((((q2.toUInt64 >>> ((56 : Int32) &&& 0x3f).toInt64.toUInt64).toInt64).toInt32).toInt8.toInt32) = ((((q2.toUInt64 >>> ((56 : Int32) &&& 0x3f).toInt64.toUInt64).toInt64).toInt32).toInt8.toInt32)) (rfl : ((((q2.toUInt64 >>> ((48 : Int32) &&& 0x3f).toInt64.toUInt64).toInt64).toInt32).toInt8.toInt32) = ((((q2.toUInt64 >>> ((48 : Int32) &&& 0x3f).toInt64.toUInt64).toInt64).toInt32).toInt8.toInt32)) (rfl : ((((q2.toUInt64 >>> ((40 : Int32) &&& 0x3f).toInt64.toUInt64).toInt64).toInt32).toInt8.toInt32) = ((((q2.toUInt64 >>> ((40 : Int32) &&& 0x3f).toInt64.toUInt64).toInt64).toInt32).toInt8.toInt32)) (rfl : ((((q2.toUInt64 >>> ((32 : Int32) &&& 0x3f).toInt64.toUInt64).toInt64).toInt32).toInt8.toInt32) = ((((q2.toUInt64 >>> ((32 : Int32) &&& 0x3f).toInt64.toUInt64).toInt64).toInt32).toInt8.toInt32)) (rfl : ((((q2.toUInt64 >>> ((24 : Int32) &&& 0x3f).toInt64.toUInt64).toInt64).toInt32).toInt8.toInt32) = ((((q2.toUInt64 >>> ((24 : Int32) &&& 0x3f).toInt64.toUInt64).toInt64).toInt32).toInt8.toInt32)) (rfl : ((((q2.toUInt64 >>> ((16 : Int32) &&& 0x3f).toInt64.toUInt64).toInt64).toInt32).toInt8.toInt32) = ((((q2.toUInt64 >>> ((16 : Int32) &&& 0x3f).toInt64.toUInt64).toInt64).toInt32).toInt8.toInt32)) (rfl : ((((q2.toUInt64 >>> ((8 : Int32) &&& 0x3f).toInt64.toUInt64).toInt64).toInt32).toInt8.toInt32) = ((((q2.toUInt64 >>> ((8 : Int32) &&& 0x3f).toInt64.toUInt64).toInt64).toInt32).toInt8.toInt32)) (rfl : ((q2.toInt32).toInt8.toInt32) = ((q2.toInt32).toInt8.toInt32))) hZ (hw _ (List.mem_of_getElem? (i := 26) rfl)) (hw _ (List.mem_of_getElem? (i := 3) rfl)) (by decide) (by decide)) (g := (mkF m 193 #[.val (.long q1), .second, .val (.long q2), .second, .val (.long q3), .second, .val (.long q4), .second, .val (.ref b5), .val (.ref b3_39_14), .val (.int (1 : Int32)), .unset, .unset] [(.long q2), (.int (20 : Int32)), (.ref b3_39_14)])) rfl (by rw [hml]; rfl) (argsL := [(.ref b3_39_14), (.int (20 : Int32)), (.long q2)]) (rest := []) (lenOf pd_4 rfl) rfl (by show 2 * 0 + _ ≤ _; exact Nat.le_of_eq rfl) (hb hby at_193) (fun _ _ => ⟨rfl, e28, (by decide : 2 + 0 ≤ _), (by decide : 76 + 0 ≤ _)⟩)
  dsimp only [Pt.U, Pt.locs, Pt.cells, Pt.slots] at X29 l29 y29 z29 st29 hQ29
  subst l29 y29 z29
  obtain ⟨rfl, Nq29, e29⟩ := hQ29
  have N29 := Fr.app N28 Nq29
  obtain ⟨_, _, ⟨T30, L30, k30, n30⟩, -, X30, ⟨Lc30, hQ30, l30, y30, z30⟩, st30⟩ := Jvm.LawKit.callS X29 hx (y := (⟨"com/example/lasting_names/lastingnames/Ed25519SubjectPublicKeyInfoPinLaw", "same", "([BIJ)Z"⟩ : MethodName)) hown (mvT hZ (hw _ (List.mem_of_getElem? (i := 24) rfl))) (mvT hZ (hw _ (List.mem_of_getElem? (i := 25) rfl))) (mvT hZ (hw _ (List.mem_of_getElem? (i := 3) rfl))) (mvT hZ (hw _ (List.mem_of_getElem? (i := 26) rfl))) (by decide) (backOf (W := 0) (rm5_3 l Z a0 hw [] b3_39_14 q3 k3_39_14 ((((q1.toUInt64 >>> ((56 : Int32) &&& 0x3f).toInt64.toUInt64).toInt64).toInt32).toInt8.toInt32) ((((q1.toUInt64 >>> ((48 : Int32) &&& 0x3f).toInt64.toUInt64).toInt64).toInt32).toInt8.toInt32) ((((q1.toUInt64 >>> ((40 : Int32) &&& 0x3f).toInt64.toUInt64).toInt64).toInt32).toInt8.toInt32) ((((q1.toUInt64 >>> ((32 : Int32) &&& 0x3f).toInt64.toUInt64).toInt64).toInt32).toInt8.toInt32) ((((q1.toUInt64 >>> ((24 : Int32) &&& 0x3f).toInt64.toUInt64).toInt64).toInt32).toInt8.toInt32) ((((q1.toUInt64 >>> ((16 : Int32) &&& 0x3f).toInt64.toUInt64).toInt64).toInt32).toInt8.toInt32) ((((q1.toUInt64 >>> ((8 : Int32) &&& 0x3f).toInt64.toUInt64).toInt64).toInt32).toInt8.toInt32) ((q1.toInt32).toInt8.toInt32) ((((q2.toUInt64 >>> ((56 : Int32) &&& 0x3f).toInt64.toUInt64).toInt64).toInt32).toInt8.toInt32) ((((q2.toUInt64 >>> ((48 : Int32) &&& 0x3f).toInt64.toUInt64).toInt64).toInt32).toInt8.toInt32) ((((q2.toUInt64 >>> ((40 : Int32) &&& 0x3f).toInt64.toUInt64).toInt64).toInt32).toInt8.toInt32) ((((q2.toUInt64 >>> ((32 : Int32) &&& 0x3f).toInt64.toUInt64).toInt64).toInt32).toInt8.toInt32) ((((q2.toUInt64 >>> ((24 : Int32) &&& 0x3f).toInt64.toUInt64).toInt64).toInt32).toInt8.toInt32) ((((q2.toUInt64 >>> ((16 : Int32) &&& 0x3f).toInt64.toUInt64).toInt64).toInt32).toInt8.toInt32) ((((q2.toUInt64 >>> ((8 : Int32) &&& 0x3f).toInt64.toUInt64).toInt64).toInt32).toInt8.toInt32) ((q2.toInt32).toInt8.toInt32) ((((q3.toUInt64 >>> ((56 : Int32) &&& 0x3f).toInt64.toUInt64).toInt64).toInt32).toInt8.toInt32) ((((q3.toUInt64 >>> ((48 : Int32) &&& 0x3f).toInt64.toUInt64).toInt64).toInt32).toInt8.toInt32) ((((q3.toUInt64 >>> ((40 : Int32) &&& 0x3f).toInt64.toUInt64).toInt64).toInt32).toInt8.toInt32) ((((q3.toUInt64 >>> ((32 : Int32) &&& 0x3f).toInt64.toUInt64).toInt64).toInt32).toInt8.toInt32) ((((q3.toUInt64 >>> ((24 : Int32) &&& 0x3f).toInt64.toUInt64).toInt64).toInt32).toInt8.toInt32) ((((q3.toUInt64 >>> ((16 : Int32) &&& 0x3f).toInt64.toUInt64).toInt64).toInt32).toInt8.toInt32) ((((q3.toUInt64 >>> ((8 : Int32) &&& 0x3f).toInt64.toUInt64).toInt64).toInt32).toInt8.toInt32) ((q3.toInt32).toInt8.toInt32) ((((q4.toUInt64 >>> ((56 : Int32) &&& 0x3f).toInt64.toUInt64).toInt64).toInt32).toInt8.toInt32) ((((q4.toUInt64 >>> ((48 : Int32) &&& 0x3f).toInt64.toUInt64).toInt64).toInt32).toInt8.toInt32) ((((q4.toUInt64 >>> ((40 : Int32) &&& 0x3f).toInt64.toUInt64).toInt64).toInt32).toInt8.toInt32) ((((q4.toUInt64 >>> ((32 : Int32) &&& 0x3f).toInt64.toUInt64).toInt64).toInt32).toInt8.toInt32) ((((q4.toUInt64 >>> ((24 : Int32) &&& 0x3f).toInt64.toUInt64).toInt64).toInt32).toInt8.toInt32) ((((q4.toUInt64 >>> ((16 : Int32) &&& 0x3f).toInt64.toUInt64).toInt64).toInt32).toInt8.toInt32) ((((q4.toUInt64 >>> ((8 : Int32) &&& 0x3f).toInt64.toUInt64).toInt64).toInt32).toInt8.toInt32) ((q4.toInt32).toInt8.toInt32) T14.heap n0 Z14 x14_1 (rfl : ((((q3.toUInt64 >>> ((56 : Int32) &&& 0x3f).toInt64.toUInt64).toInt64).toInt32).toInt8.toInt32) = ((((q3.toUInt64 >>> ((56 : Int32) &&& 0x3f).toInt64.toUInt64).toInt64).toInt32).toInt8.toInt32)) (rfl : ((((q3.toUInt64 >>> ((48 : Int32) &&& 0x3f).toInt64.toUInt64).toInt64).toInt32).toInt8.toInt32) = ((((q3.toUInt64 >>> ((48 : Int32) &&& 0x3f).toInt64.toUInt64).toInt64).toInt32).toInt8.toInt32)) (rfl : ((((q3.toUInt64 >>> ((40 : Int32) &&& 0x3f).toInt64.toUInt64).toInt64).toInt32).toInt8.toInt32) = ((((q3.toUInt64 >>> ((40 : Int32) &&& 0x3f).toInt64.toUInt64).toInt64).toInt32).toInt8.toInt32)) (rfl : ((((q3.toUInt64 >>> ((32 : Int32) &&& 0x3f).toInt64.toUInt64).toInt64).toInt32).toInt8.toInt32) = ((((q3.toUInt64 >>> ((32 : Int32) &&& 0x3f).toInt64.toUInt64).toInt64).toInt32).toInt8.toInt32)) (rfl : ((((q3.toUInt64 >>> ((24 : Int32) &&& 0x3f).toInt64.toUInt64).toInt64).toInt32).toInt8.toInt32) = ((((q3.toUInt64 >>> ((24 : Int32) &&& 0x3f).toInt64.toUInt64).toInt64).toInt32).toInt8.toInt32)) (rfl : ((((q3.toUInt64 >>> ((16 : Int32) &&& 0x3f).toInt64.toUInt64).toInt64).toInt32).toInt8.toInt32) = ((((q3.toUInt64 >>> ((16 : Int32) &&& 0x3f).toInt64.toUInt64).toInt64).toInt32).toInt8.toInt32)) (rfl : ((((q3.toUInt64 >>> ((8 : Int32) &&& 0x3f).toInt64.toUInt64).toInt64).toInt32).toInt8.toInt32) = ((((q3.toUInt64 >>> ((8 : Int32) &&& 0x3f).toInt64.toUInt64).toInt64).toInt32).toInt8.toInt32)) (rfl : ((q3.toInt32).toInt8.toInt32) = ((q3.toInt32).toInt8.toInt32))) hZ (hw _ (List.mem_of_getElem? (i := 26) rfl)) (hw _ (List.mem_of_getElem? (i := 3) rfl)) (by decide) (by decide)) (g := (mkF m 205 #[.val (.long q1), .second, .val (.long q2), .second, .val (.long q3), .second, .val (.long q4), .second, .val (.ref b5), .val (.ref b3_39_14), .val (.int (1 : Int32)), .unset, .unset] [(.long q3), (.int (28 : Int32)), (.ref b3_39_14)])) rfl (by rw [hml]; rfl) (argsL := [(.ref b3_39_14), (.int (28 : Int32)), (.long q3)]) (rest := []) (lenOf pd_4 rfl) rfl (by show 2 * 0 + _ ≤ _; exact Nat.le_of_eq rfl) (hb hby at_205) (fun _ _ => ⟨rfl, e29, (by decide : 2 + 0 ≤ _), (by decide : 76 + 0 ≤ _)⟩)
  dsimp only [Pt.U, Pt.locs, Pt.cells, Pt.slots] at X30 l30 y30 z30 st30 hQ30
  subst l30 y30 z30
  obtain ⟨rfl, Nq30, e30⟩ := hQ30
  have N30 := Fr.app N29 Nq30
  obtain ⟨_, _, ⟨T31, L31, k31, n31⟩, -, X31, ⟨Lc31, hQ31, l31, y31, z31⟩, st31⟩ := Jvm.LawKit.callS X30 hx (y := (⟨"com/example/lasting_names/lastingnames/Ed25519SubjectPublicKeyInfoPinLaw", "same", "([BIJ)Z"⟩ : MethodName)) hown (mvT hZ (hw _ (List.mem_of_getElem? (i := 24) rfl))) (mvT hZ (hw _ (List.mem_of_getElem? (i := 25) rfl))) (mvT hZ (hw _ (List.mem_of_getElem? (i := 3) rfl))) (mvT hZ (hw _ (List.mem_of_getElem? (i := 26) rfl))) (by decide) (backOf (W := 0) (rm5_4 l Z a0 hw [] b3_39_14 q4 k3_39_14 ((((q1.toUInt64 >>> ((56 : Int32) &&& 0x3f).toInt64.toUInt64).toInt64).toInt32).toInt8.toInt32) ((((q1.toUInt64 >>> ((48 : Int32) &&& 0x3f).toInt64.toUInt64).toInt64).toInt32).toInt8.toInt32) ((((q1.toUInt64 >>> ((40 : Int32) &&& 0x3f).toInt64.toUInt64).toInt64).toInt32).toInt8.toInt32) ((((q1.toUInt64 >>> ((32 : Int32) &&& 0x3f).toInt64.toUInt64).toInt64).toInt32).toInt8.toInt32) ((((q1.toUInt64 >>> ((24 : Int32) &&& 0x3f).toInt64.toUInt64).toInt64).toInt32).toInt8.toInt32) ((((q1.toUInt64 >>> ((16 : Int32) &&& 0x3f).toInt64.toUInt64).toInt64).toInt32).toInt8.toInt32) ((((q1.toUInt64 >>> ((8 : Int32) &&& 0x3f).toInt64.toUInt64).toInt64).toInt32).toInt8.toInt32) ((q1.toInt32).toInt8.toInt32) ((((q2.toUInt64 >>> ((56 : Int32) &&& 0x3f).toInt64.toUInt64).toInt64).toInt32).toInt8.toInt32) ((((q2.toUInt64 >>> ((48 : Int32) &&& 0x3f).toInt64.toUInt64).toInt64).toInt32).toInt8.toInt32) ((((q2.toUInt64 >>> ((40 : Int32) &&& 0x3f).toInt64.toUInt64).toInt64).toInt32).toInt8.toInt32) ((((q2.toUInt64 >>> ((32 : Int32) &&& 0x3f).toInt64.toUInt64).toInt64).toInt32).toInt8.toInt32) ((((q2.toUInt64 >>> ((24 : Int32) &&& 0x3f).toInt64.toUInt64).toInt64).toInt32).toInt8.toInt32) ((((q2.toUInt64 >>> ((16 : Int32) &&& 0x3f).toInt64.toUInt64).toInt64).toInt32).toInt8.toInt32) ((((q2.toUInt64 >>> ((8 : Int32) &&& 0x3f).toInt64.toUInt64).toInt64).toInt32).toInt8.toInt32) ((q2.toInt32).toInt8.toInt32) ((((q3.toUInt64 >>> ((56 : Int32) &&& 0x3f).toInt64.toUInt64).toInt64).toInt32).toInt8.toInt32) ((((q3.toUInt64 >>> ((48 : Int32) &&& 0x3f).toInt64.toUInt64).toInt64).toInt32).toInt8.toInt32) ((((q3.toUInt64 >>> ((40 : Int32) &&& 0x3f).toInt64.toUInt64).toInt64).toInt32).toInt8.toInt32) ((((q3.toUInt64 >>> ((32 : Int32) &&& 0x3f).toInt64.toUInt64).toInt64).toInt32).toInt8.toInt32) ((((q3.toUInt64 >>> ((24 : Int32) &&& 0x3f).toInt64.toUInt64).toInt64).toInt32).toInt8.toInt32) ((((q3.toUInt64 >>> ((16 : Int32) &&& 0x3f).toInt64.toUInt64).toInt64).toInt32).toInt8.toInt32) ((((q3.toUInt64 >>> ((8 : Int32) &&& 0x3f).toInt64.toUInt64).toInt64).toInt32).toInt8.toInt32) ((q3.toInt32).toInt8.toInt32) ((((q4.toUInt64 >>> ((56 : Int32) &&& 0x3f).toInt64.toUInt64).toInt64).toInt32).toInt8.toInt32) ((((q4.toUInt64 >>> ((48 : Int32) &&& 0x3f).toInt64.toUInt64).toInt64).toInt32).toInt8.toInt32) ((((q4.toUInt64 >>> ((40 : Int32) &&& 0x3f).toInt64.toUInt64).toInt64).toInt32).toInt8.toInt32) ((((q4.toUInt64 >>> ((32 : Int32) &&& 0x3f).toInt64.toUInt64).toInt64).toInt32).toInt8.toInt32) ((((q4.toUInt64 >>> ((24 : Int32) &&& 0x3f).toInt64.toUInt64).toInt64).toInt32).toInt8.toInt32) ((((q4.toUInt64 >>> ((16 : Int32) &&& 0x3f).toInt64.toUInt64).toInt64).toInt32).toInt8.toInt32) ((((q4.toUInt64 >>> ((8 : Int32) &&& 0x3f).toInt64.toUInt64).toInt64).toInt32).toInt8.toInt32) ((q4.toInt32).toInt8.toInt32) T14.heap n0 Z14 x14_1 (rfl : ((((q4.toUInt64 >>> ((56 : Int32) &&& 0x3f).toInt64.toUInt64).toInt64).toInt32).toInt8.toInt32) = ((((q4.toUInt64 >>> ((56 : Int32) &&& 0x3f).toInt64.toUInt64).toInt64).toInt32).toInt8.toInt32)) (rfl : ((((q4.toUInt64 >>> ((48 : Int32) &&& 0x3f).toInt64.toUInt64).toInt64).toInt32).toInt8.toInt32) = ((((q4.toUInt64 >>> ((48 : Int32) &&& 0x3f).toInt64.toUInt64).toInt64).toInt32).toInt8.toInt32)) (rfl : ((((q4.toUInt64 >>> ((40 : Int32) &&& 0x3f).toInt64.toUInt64).toInt64).toInt32).toInt8.toInt32) = ((((q4.toUInt64 >>> ((40 : Int32) &&& 0x3f).toInt64.toUInt64).toInt64).toInt32).toInt8.toInt32)) (rfl : ((((q4.toUInt64 >>> ((32 : Int32) &&& 0x3f).toInt64.toUInt64).toInt64).toInt32).toInt8.toInt32) = ((((q4.toUInt64 >>> ((32 : Int32) &&& 0x3f).toInt64.toUInt64).toInt64).toInt32).toInt8.toInt32)) (rfl : ((((q4.toUInt64 >>> ((24 : Int32) &&& 0x3f).toInt64.toUInt64).toInt64).toInt32).toInt8.toInt32) = ((((q4.toUInt64 >>> ((24 : Int32) &&& 0x3f).toInt64.toUInt64).toInt64).toInt32).toInt8.toInt32)) (rfl : ((((q4.toUInt64 >>> ((16 : Int32) &&& 0x3f).toInt64.toUInt64).toInt64).toInt32).toInt8.toInt32) = ((((q4.toUInt64 >>> ((16 : Int32) &&& 0x3f).toInt64.toUInt64).toInt64).toInt32).toInt8.toInt32)) (rfl : ((((q4.toUInt64 >>> ((8 : Int32) &&& 0x3f).toInt64.toUInt64).toInt64).toInt32).toInt8.toInt32) = ((((q4.toUInt64 >>> ((8 : Int32) &&& 0x3f).toInt64.toUInt64).toInt64).toInt32).toInt8.toInt32)) (rfl : ((q4.toInt32).toInt8.toInt32) = ((q4.toInt32).toInt8.toInt32))) hZ (hw _ (List.mem_of_getElem? (i := 26) rfl)) (hw _ (List.mem_of_getElem? (i := 3) rfl)) (by decide) (by decide)) (g := (mkF m 217 #[.val (.long q1), .second, .val (.long q2), .second, .val (.long q3), .second, .val (.long q4), .second, .val (.ref b5), .val (.ref b3_39_14), .val (.int (1 : Int32)), .unset, .unset] [(.long q4), (.int (36 : Int32)), (.ref b3_39_14)])) rfl (by rw [hml]; rfl) (argsL := [(.ref b3_39_14), (.int (36 : Int32)), (.long q4)]) (rest := []) (lenOf pd_4 rfl) rfl (by show 2 * 0 + _ ≤ _; exact Nat.le_of_eq rfl) (hb hby at_217) (fun _ _ => ⟨rfl, e30, (by decide : 2 + 0 ≤ _), (by decide : 76 + 0 ≤ _)⟩)
  dsimp only [Pt.U, Pt.locs, Pt.cells, Pt.slots] at X31 l31 y31 z31 st31 hQ31
  subst l31 y31 z31
  obtain ⟨rfl, Nq31, e31⟩ := hQ31
  have N31 := Fr.app N30 Nq31
  have f32 := (x9_0.keep K14 nin0)
  obtain ⟨_, _, ⟨T33, L33, k33, n33⟩, -, X33, ⟨Lc33, hQ33, l33, y33, z33⟩, st33⟩ := Jvm.LawKit.callS X31 hx (y := (⟨"com/example/lasting_names/lastingnames/Ed25519SubjectPublicKeyInfoPinLaw", "same", "([BIJ)Z"⟩ : MethodName)) hown (mvT hZ (hw _ (List.mem_of_getElem? (i := 24) rfl))) (mvT hZ (hw _ (List.mem_of_getElem? (i := 25) rfl))) (mvT hZ (hw _ (List.mem_of_getElem? (i := 3) rfl))) (mvT hZ (hw _ (List.mem_of_getElem? (i := 26) rfl))) (by decide) (backOf (W := 0) (rm5_5 l Z a0 hw [] b5 q1 k5 ((((q1.toUInt64 >>> ((56 : Int32) &&& 0x3f).toInt64.toUInt64).toInt64).toInt32).toInt8.toInt32) ((((q1.toUInt64 >>> ((48 : Int32) &&& 0x3f).toInt64.toUInt64).toInt64).toInt32).toInt8.toInt32) ((((q1.toUInt64 >>> ((40 : Int32) &&& 0x3f).toInt64.toUInt64).toInt64).toInt32).toInt8.toInt32) ((((q1.toUInt64 >>> ((32 : Int32) &&& 0x3f).toInt64.toUInt64).toInt64).toInt32).toInt8.toInt32) ((((q1.toUInt64 >>> ((24 : Int32) &&& 0x3f).toInt64.toUInt64).toInt64).toInt32).toInt8.toInt32) ((((q1.toUInt64 >>> ((16 : Int32) &&& 0x3f).toInt64.toUInt64).toInt64).toInt32).toInt8.toInt32) ((((q1.toUInt64 >>> ((8 : Int32) &&& 0x3f).toInt64.toUInt64).toInt64).toInt32).toInt8.toInt32) ((q1.toInt32).toInt8.toInt32) ((((q2.toUInt64 >>> ((56 : Int32) &&& 0x3f).toInt64.toUInt64).toInt64).toInt32).toInt8.toInt32) ((((q2.toUInt64 >>> ((48 : Int32) &&& 0x3f).toInt64.toUInt64).toInt64).toInt32).toInt8.toInt32) ((((q2.toUInt64 >>> ((40 : Int32) &&& 0x3f).toInt64.toUInt64).toInt64).toInt32).toInt8.toInt32) ((((q2.toUInt64 >>> ((32 : Int32) &&& 0x3f).toInt64.toUInt64).toInt64).toInt32).toInt8.toInt32) ((((q2.toUInt64 >>> ((24 : Int32) &&& 0x3f).toInt64.toUInt64).toInt64).toInt32).toInt8.toInt32) ((((q2.toUInt64 >>> ((16 : Int32) &&& 0x3f).toInt64.toUInt64).toInt64).toInt32).toInt8.toInt32) ((((q2.toUInt64 >>> ((8 : Int32) &&& 0x3f).toInt64.toUInt64).toInt64).toInt32).toInt8.toInt32) ((q2.toInt32).toInt8.toInt32) ((((q3.toUInt64 >>> ((56 : Int32) &&& 0x3f).toInt64.toUInt64).toInt64).toInt32).toInt8.toInt32) ((((q3.toUInt64 >>> ((48 : Int32) &&& 0x3f).toInt64.toUInt64).toInt64).toInt32).toInt8.toInt32) ((((q3.toUInt64 >>> ((40 : Int32) &&& 0x3f).toInt64.toUInt64).toInt64).toInt32).toInt8.toInt32) ((((q3.toUInt64 >>> ((32 : Int32) &&& 0x3f).toInt64.toUInt64).toInt64).toInt32).toInt8.toInt32) ((((q3.toUInt64 >>> ((24 : Int32) &&& 0x3f).toInt64.toUInt64).toInt64).toInt32).toInt8.toInt32) ((((q3.toUInt64 >>> ((16 : Int32) &&& 0x3f).toInt64.toUInt64).toInt64).toInt32).toInt8.toInt32) ((((q3.toUInt64 >>> ((8 : Int32) &&& 0x3f).toInt64.toUInt64).toInt64).toInt32).toInt8.toInt32) ((q3.toInt32).toInt8.toInt32) ((((q4.toUInt64 >>> ((56 : Int32) &&& 0x3f).toInt64.toUInt64).toInt64).toInt32).toInt8.toInt32) ((((q4.toUInt64 >>> ((48 : Int32) &&& 0x3f).toInt64.toUInt64).toInt64).toInt32).toInt8.toInt32) ((((q4.toUInt64 >>> ((40 : Int32) &&& 0x3f).toInt64.toUInt64).toInt64).toInt32).toInt8.toInt32) ((((q4.toUInt64 >>> ((32 : Int32) &&& 0x3f).toInt64.toUInt64).toInt64).toInt32).toInt8.toInt32) ((((q4.toUInt64 >>> ((24 : Int32) &&& 0x3f).toInt64.toUInt64).toInt64).toInt32).toInt8.toInt32) ((((q4.toUInt64 >>> ((16 : Int32) &&& 0x3f).toInt64.toUInt64).toInt64).toInt32).toInt8.toInt32) ((((q4.toUInt64 >>> ((8 : Int32) &&& 0x3f).toInt64.toUInt64).toInt64).toInt32).toInt8.toInt32) ((q4.toInt32).toInt8.toInt32) T14.heap n0 Z14 f32 (rfl : ((((q1.toUInt64 >>> ((56 : Int32) &&& 0x3f).toInt64.toUInt64).toInt64).toInt32).toInt8.toInt32) = ((((q1.toUInt64 >>> ((56 : Int32) &&& 0x3f).toInt64.toUInt64).toInt64).toInt32).toInt8.toInt32)) (rfl : ((((q1.toUInt64 >>> ((48 : Int32) &&& 0x3f).toInt64.toUInt64).toInt64).toInt32).toInt8.toInt32) = ((((q1.toUInt64 >>> ((48 : Int32) &&& 0x3f).toInt64.toUInt64).toInt64).toInt32).toInt8.toInt32)) (rfl : ((((q1.toUInt64 >>> ((40 : Int32) &&& 0x3f).toInt64.toUInt64).toInt64).toInt32).toInt8.toInt32) = ((((q1.toUInt64 >>> ((40 : Int32) &&& 0x3f).toInt64.toUInt64).toInt64).toInt32).toInt8.toInt32)) (rfl : ((((q1.toUInt64 >>> ((32 : Int32) &&& 0x3f).toInt64.toUInt64).toInt64).toInt32).toInt8.toInt32) = ((((q1.toUInt64 >>> ((32 : Int32) &&& 0x3f).toInt64.toUInt64).toInt64).toInt32).toInt8.toInt32)) (rfl : ((((q1.toUInt64 >>> ((24 : Int32) &&& 0x3f).toInt64.toUInt64).toInt64).toInt32).toInt8.toInt32) = ((((q1.toUInt64 >>> ((24 : Int32) &&& 0x3f).toInt64.toUInt64).toInt64).toInt32).toInt8.toInt32)) (rfl : ((((q1.toUInt64 >>> ((16 : Int32) &&& 0x3f).toInt64.toUInt64).toInt64).toInt32).toInt8.toInt32) = ((((q1.toUInt64 >>> ((16 : Int32) &&& 0x3f).toInt64.toUInt64).toInt64).toInt32).toInt8.toInt32)) (rfl : ((((q1.toUInt64 >>> ((8 : Int32) &&& 0x3f).toInt64.toUInt64).toInt64).toInt32).toInt8.toInt32) = ((((q1.toUInt64 >>> ((8 : Int32) &&& 0x3f).toInt64.toUInt64).toInt64).toInt32).toInt8.toInt32)) (rfl : ((q1.toInt32).toInt8.toInt32) = ((q1.toInt32).toInt8.toInt32))) hZ (hw _ (List.mem_of_getElem? (i := 26) rfl)) (hw _ (List.mem_of_getElem? (i := 3) rfl)) (by decide) (by decide)) (g := (mkF m 234 #[.val (.long q1), .second, .val (.long q2), .second, .val (.long q3), .second, .val (.long q4), .second, .val (.ref b5), .val (.ref b3_39_14), .val (.int (1 : Int32)), .val (.int (1 : Int32)), .unset] [(.long q1), (.int (0 : Int32)), (.ref b5)])) rfl (by rw [hml]; rfl) (argsL := [(.ref b5), (.int (0 : Int32)), (.long q1)]) (rest := []) (lenOf pd_4 rfl) rfl (by show 2 * 0 + _ ≤ _; exact Nat.le_of_eq rfl) (hb hby at_234) (fun _ _ => ⟨rfl, e31, (by decide : 2 + 0 ≤ _), (by decide : 76 + 0 ≤ _)⟩)
  dsimp only [Pt.U, Pt.locs, Pt.cells, Pt.slots] at X33 l33 y33 z33 st33 hQ33
  subst l33 y33 z33
  obtain ⟨rfl, Nq33, e33⟩ := hQ33
  have N33 := Fr.app N31 Nq33
  obtain ⟨_, _, ⟨T34, L34, k34, n34⟩, -, X34, ⟨Lc34, hQ34, l34, y34, z34⟩, st34⟩ := Jvm.LawKit.callS X33 hx (y := (⟨"com/example/lasting_names/lastingnames/Ed25519SubjectPublicKeyInfoPinLaw", "same", "([BIJ)Z"⟩ : MethodName)) hown (mvT hZ (hw _ (List.mem_of_getElem? (i := 24) rfl))) (mvT hZ (hw _ (List.mem_of_getElem? (i := 25) rfl))) (mvT hZ (hw _ (List.mem_of_getElem? (i := 3) rfl))) (mvT hZ (hw _ (List.mem_of_getElem? (i := 26) rfl))) (by decide) (backOf (W := 0) (rm5_6 l Z a0 hw [] b5 q2 k5 ((((q1.toUInt64 >>> ((56 : Int32) &&& 0x3f).toInt64.toUInt64).toInt64).toInt32).toInt8.toInt32) ((((q1.toUInt64 >>> ((48 : Int32) &&& 0x3f).toInt64.toUInt64).toInt64).toInt32).toInt8.toInt32) ((((q1.toUInt64 >>> ((40 : Int32) &&& 0x3f).toInt64.toUInt64).toInt64).toInt32).toInt8.toInt32) ((((q1.toUInt64 >>> ((32 : Int32) &&& 0x3f).toInt64.toUInt64).toInt64).toInt32).toInt8.toInt32) ((((q1.toUInt64 >>> ((24 : Int32) &&& 0x3f).toInt64.toUInt64).toInt64).toInt32).toInt8.toInt32) ((((q1.toUInt64 >>> ((16 : Int32) &&& 0x3f).toInt64.toUInt64).toInt64).toInt32).toInt8.toInt32) ((((q1.toUInt64 >>> ((8 : Int32) &&& 0x3f).toInt64.toUInt64).toInt64).toInt32).toInt8.toInt32) ((q1.toInt32).toInt8.toInt32) ((((q2.toUInt64 >>> ((56 : Int32) &&& 0x3f).toInt64.toUInt64).toInt64).toInt32).toInt8.toInt32) ((((q2.toUInt64 >>> ((48 : Int32) &&& 0x3f).toInt64.toUInt64).toInt64).toInt32).toInt8.toInt32) ((((q2.toUInt64 >>> ((40 : Int32) &&& 0x3f).toInt64.toUInt64).toInt64).toInt32).toInt8.toInt32) ((((q2.toUInt64 >>> ((32 : Int32) &&& 0x3f).toInt64.toUInt64).toInt64).toInt32).toInt8.toInt32) ((((q2.toUInt64 >>> ((24 : Int32) &&& 0x3f).toInt64.toUInt64).toInt64).toInt32).toInt8.toInt32) ((((q2.toUInt64 >>> ((16 : Int32) &&& 0x3f).toInt64.toUInt64).toInt64).toInt32).toInt8.toInt32) ((((q2.toUInt64 >>> ((8 : Int32) &&& 0x3f).toInt64.toUInt64).toInt64).toInt32).toInt8.toInt32) ((q2.toInt32).toInt8.toInt32) ((((q3.toUInt64 >>> ((56 : Int32) &&& 0x3f).toInt64.toUInt64).toInt64).toInt32).toInt8.toInt32) ((((q3.toUInt64 >>> ((48 : Int32) &&& 0x3f).toInt64.toUInt64).toInt64).toInt32).toInt8.toInt32) ((((q3.toUInt64 >>> ((40 : Int32) &&& 0x3f).toInt64.toUInt64).toInt64).toInt32).toInt8.toInt32) ((((q3.toUInt64 >>> ((32 : Int32) &&& 0x3f).toInt64.toUInt64).toInt64).toInt32).toInt8.toInt32) ((((q3.toUInt64 >>> ((24 : Int32) &&& 0x3f).toInt64.toUInt64).toInt64).toInt32).toInt8.toInt32) ((((q3.toUInt64 >>> ((16 : Int32) &&& 0x3f).toInt64.toUInt64).toInt64).toInt32).toInt8.toInt32) ((((q3.toUInt64 >>> ((8 : Int32) &&& 0x3f).toInt64.toUInt64).toInt64).toInt32).toInt8.toInt32) ((q3.toInt32).toInt8.toInt32) ((((q4.toUInt64 >>> ((56 : Int32) &&& 0x3f).toInt64.toUInt64).toInt64).toInt32).toInt8.toInt32) ((((q4.toUInt64 >>> ((48 : Int32) &&& 0x3f).toInt64.toUInt64).toInt64).toInt32).toInt8.toInt32) ((((q4.toUInt64 >>> ((40 : Int32) &&& 0x3f).toInt64.toUInt64).toInt64).toInt32).toInt8.toInt32) ((((q4.toUInt64 >>> ((32 : Int32) &&& 0x3f).toInt64.toUInt64).toInt64).toInt32).toInt8.toInt32) ((((q4.toUInt64 >>> ((24 : Int32) &&& 0x3f).toInt64.toUInt64).toInt64).toInt32).toInt8.toInt32) ((((q4.toUInt64 >>> ((16 : Int32) &&& 0x3f).toInt64.toUInt64).toInt64).toInt32).toInt8.toInt32) ((((q4.toUInt64 >>> ((8 : Int32) &&& 0x3f).toInt64.toUInt64).toInt64).toInt32).toInt8.toInt32) ((q4.toInt32).toInt8.toInt32) T14.heap n0 Z14 f32 (rfl : ((((q2.toUInt64 >>> ((56 : Int32) &&& 0x3f).toInt64.toUInt64).toInt64).toInt32).toInt8.toInt32) = ((((q2.toUInt64 >>> ((56 : Int32) &&& 0x3f).toInt64.toUInt64).toInt64).toInt32).toInt8.toInt32)) (rfl : ((((q2.toUInt64 >>> ((48 : Int32) &&& 0x3f).toInt64.toUInt64).toInt64).toInt32).toInt8.toInt32) = ((((q2.toUInt64 >>> ((48 : Int32) &&& 0x3f).toInt64.toUInt64).toInt64).toInt32).toInt8.toInt32)) (rfl : ((((q2.toUInt64 >>> ((40 : Int32) &&& 0x3f).toInt64.toUInt64).toInt64).toInt32).toInt8.toInt32) = ((((q2.toUInt64 >>> ((40 : Int32) &&& 0x3f).toInt64.toUInt64).toInt64).toInt32).toInt8.toInt32)) (rfl : ((((q2.toUInt64 >>> ((32 : Int32) &&& 0x3f).toInt64.toUInt64).toInt64).toInt32).toInt8.toInt32) = ((((q2.toUInt64 >>> ((32 : Int32) &&& 0x3f).toInt64.toUInt64).toInt64).toInt32).toInt8.toInt32)) (rfl : ((((q2.toUInt64 >>> ((24 : Int32) &&& 0x3f).toInt64.toUInt64).toInt64).toInt32).toInt8.toInt32) = ((((q2.toUInt64 >>> ((24 : Int32) &&& 0x3f).toInt64.toUInt64).toInt64).toInt32).toInt8.toInt32)) (rfl : ((((q2.toUInt64 >>> ((16 : Int32) &&& 0x3f).toInt64.toUInt64).toInt64).toInt32).toInt8.toInt32) = ((((q2.toUInt64 >>> ((16 : Int32) &&& 0x3f).toInt64.toUInt64).toInt64).toInt32).toInt8.toInt32)) (rfl : ((((q2.toUInt64 >>> ((8 : Int32) &&& 0x3f).toInt64.toUInt64).toInt64).toInt32).toInt8.toInt32) = ((((q2.toUInt64 >>> ((8 : Int32) &&& 0x3f).toInt64.toUInt64).toInt64).toInt32).toInt8.toInt32)) (rfl : ((q2.toInt32).toInt8.toInt32) = ((q2.toInt32).toInt8.toInt32))) hZ (hw _ (List.mem_of_getElem? (i := 26) rfl)) (hw _ (List.mem_of_getElem? (i := 3) rfl)) (by decide) (by decide)) (g := (mkF m 245 #[.val (.long q1), .second, .val (.long q2), .second, .val (.long q3), .second, .val (.long q4), .second, .val (.ref b5), .val (.ref b3_39_14), .val (.int (1 : Int32)), .val (.int (1 : Int32)), .unset] [(.long q2), (.int (8 : Int32)), (.ref b5)])) rfl (by rw [hml]; rfl) (argsL := [(.ref b5), (.int (8 : Int32)), (.long q2)]) (rest := []) (lenOf pd_4 rfl) rfl (by show 2 * 0 + _ ≤ _; exact Nat.le_of_eq rfl) (hb hby at_245) (fun _ _ => ⟨rfl, e33, (by decide : 2 + 0 ≤ _), (by decide : 76 + 0 ≤ _)⟩)
  dsimp only [Pt.U, Pt.locs, Pt.cells, Pt.slots] at X34 l34 y34 z34 st34 hQ34
  subst l34 y34 z34
  obtain ⟨rfl, Nq34, e34⟩ := hQ34
  have N34 := Fr.app N33 Nq34
  obtain ⟨_, _, ⟨T35, L35, k35, n35⟩, -, X35, ⟨Lc35, hQ35, l35, y35, z35⟩, st35⟩ := Jvm.LawKit.callS X34 hx (y := (⟨"com/example/lasting_names/lastingnames/Ed25519SubjectPublicKeyInfoPinLaw", "same", "([BIJ)Z"⟩ : MethodName)) hown (mvT hZ (hw _ (List.mem_of_getElem? (i := 24) rfl))) (mvT hZ (hw _ (List.mem_of_getElem? (i := 25) rfl))) (mvT hZ (hw _ (List.mem_of_getElem? (i := 3) rfl))) (mvT hZ (hw _ (List.mem_of_getElem? (i := 26) rfl))) (by decide) (backOf (W := 0) (rm5_7 l Z a0 hw [] b5 q3 k5 ((((q1.toUInt64 >>> ((56 : Int32) &&& 0x3f).toInt64.toUInt64).toInt64).toInt32).toInt8.toInt32) ((((q1.toUInt64 >>> ((48 : Int32) &&& 0x3f).toInt64.toUInt64).toInt64).toInt32).toInt8.toInt32) ((((q1.toUInt64 >>> ((40 : Int32) &&& 0x3f).toInt64.toUInt64).toInt64).toInt32).toInt8.toInt32) ((((q1.toUInt64 >>> ((32 : Int32) &&& 0x3f).toInt64.toUInt64).toInt64).toInt32).toInt8.toInt32) ((((q1.toUInt64 >>> ((24 : Int32) &&& 0x3f).toInt64.toUInt64).toInt64).toInt32).toInt8.toInt32) ((((q1.toUInt64 >>> ((16 : Int32) &&& 0x3f).toInt64.toUInt64).toInt64).toInt32).toInt8.toInt32) ((((q1.toUInt64 >>> ((8 : Int32) &&& 0x3f).toInt64.toUInt64).toInt64).toInt32).toInt8.toInt32) ((q1.toInt32).toInt8.toInt32) ((((q2.toUInt64 >>> ((56 : Int32) &&& 0x3f).toInt64.toUInt64).toInt64).toInt32).toInt8.toInt32) ((((q2.toUInt64 >>> ((48 : Int32) &&& 0x3f).toInt64.toUInt64).toInt64).toInt32).toInt8.toInt32) ((((q2.toUInt64 >>> ((40 : Int32) &&& 0x3f).toInt64.toUInt64).toInt64).toInt32).toInt8.toInt32) ((((q2.toUInt64 >>> ((32 : Int32) &&& 0x3f).toInt64.toUInt64).toInt64).toInt32).toInt8.toInt32) ((((q2.toUInt64 >>> ((24 : Int32) &&& 0x3f).toInt64.toUInt64).toInt64).toInt32).toInt8.toInt32) ((((q2.toUInt64 >>> ((16 : Int32) &&& 0x3f).toInt64.toUInt64).toInt64).toInt32).toInt8.toInt32) ((((q2.toUInt64 >>> ((8 : Int32) &&& 0x3f).toInt64.toUInt64).toInt64).toInt32).toInt8.toInt32) ((q2.toInt32).toInt8.toInt32) ((((q3.toUInt64 >>> ((56 : Int32) &&& 0x3f).toInt64.toUInt64).toInt64).toInt32).toInt8.toInt32) ((((q3.toUInt64 >>> ((48 : Int32) &&& 0x3f).toInt64.toUInt64).toInt64).toInt32).toInt8.toInt32) ((((q3.toUInt64 >>> ((40 : Int32) &&& 0x3f).toInt64.toUInt64).toInt64).toInt32).toInt8.toInt32) ((((q3.toUInt64 >>> ((32 : Int32) &&& 0x3f).toInt64.toUInt64).toInt64).toInt32).toInt8.toInt32) ((((q3.toUInt64 >>> ((24 : Int32) &&& 0x3f).toInt64.toUInt64).toInt64).toInt32).toInt8.toInt32) ((((q3.toUInt64 >>> ((16 : Int32) &&& 0x3f).toInt64.toUInt64).toInt64).toInt32).toInt8.toInt32) ((((q3.toUInt64 >>> ((8 : Int32) &&& 0x3f).toInt64.toUInt64).toInt64).toInt32).toInt8.toInt32) ((q3.toInt32).toInt8.toInt32) ((((q4.toUInt64 >>> ((56 : Int32) &&& 0x3f).toInt64.toUInt64).toInt64).toInt32).toInt8.toInt32) ((((q4.toUInt64 >>> ((48 : Int32) &&& 0x3f).toInt64.toUInt64).toInt64).toInt32).toInt8.toInt32) ((((q4.toUInt64 >>> ((40 : Int32) &&& 0x3f).toInt64.toUInt64).toInt64).toInt32).toInt8.toInt32) ((((q4.toUInt64 >>> ((32 : Int32) &&& 0x3f).toInt64.toUInt64).toInt64).toInt32).toInt8.toInt32) ((((q4.toUInt64 >>> ((24 : Int32) &&& 0x3f).toInt64.toUInt64).toInt64).toInt32).toInt8.toInt32) ((((q4.toUInt64 >>> ((16 : Int32) &&& 0x3f).toInt64.toUInt64).toInt64).toInt32).toInt8.toInt32) ((((q4.toUInt64 >>> ((8 : Int32) &&& 0x3f).toInt64.toUInt64).toInt64).toInt32).toInt8.toInt32) ((q4.toInt32).toInt8.toInt32) T14.heap n0 Z14 f32 (rfl : ((((q3.toUInt64 >>> ((56 : Int32) &&& 0x3f).toInt64.toUInt64).toInt64).toInt32).toInt8.toInt32) = ((((q3.toUInt64 >>> ((56 : Int32) &&& 0x3f).toInt64.toUInt64).toInt64).toInt32).toInt8.toInt32)) (rfl : ((((q3.toUInt64 >>> ((48 : Int32) &&& 0x3f).toInt64.toUInt64).toInt64).toInt32).toInt8.toInt32) = ((((q3.toUInt64 >>> ((48 : Int32) &&& 0x3f).toInt64.toUInt64).toInt64).toInt32).toInt8.toInt32)) (rfl : ((((q3.toUInt64 >>> ((40 : Int32) &&& 0x3f).toInt64.toUInt64).toInt64).toInt32).toInt8.toInt32) = ((((q3.toUInt64 >>> ((40 : Int32) &&& 0x3f).toInt64.toUInt64).toInt64).toInt32).toInt8.toInt32)) (rfl : ((((q3.toUInt64 >>> ((32 : Int32) &&& 0x3f).toInt64.toUInt64).toInt64).toInt32).toInt8.toInt32) = ((((q3.toUInt64 >>> ((32 : Int32) &&& 0x3f).toInt64.toUInt64).toInt64).toInt32).toInt8.toInt32)) (rfl : ((((q3.toUInt64 >>> ((24 : Int32) &&& 0x3f).toInt64.toUInt64).toInt64).toInt32).toInt8.toInt32) = ((((q3.toUInt64 >>> ((24 : Int32) &&& 0x3f).toInt64.toUInt64).toInt64).toInt32).toInt8.toInt32)) (rfl : ((((q3.toUInt64 >>> ((16 : Int32) &&& 0x3f).toInt64.toUInt64).toInt64).toInt32).toInt8.toInt32) = ((((q3.toUInt64 >>> ((16 : Int32) &&& 0x3f).toInt64.toUInt64).toInt64).toInt32).toInt8.toInt32)) (rfl : ((((q3.toUInt64 >>> ((8 : Int32) &&& 0x3f).toInt64.toUInt64).toInt64).toInt32).toInt8.toInt32) = ((((q3.toUInt64 >>> ((8 : Int32) &&& 0x3f).toInt64.toUInt64).toInt64).toInt32).toInt8.toInt32)) (rfl : ((q3.toInt32).toInt8.toInt32) = ((q3.toInt32).toInt8.toInt32))) hZ (hw _ (List.mem_of_getElem? (i := 26) rfl)) (hw _ (List.mem_of_getElem? (i := 3) rfl)) (by decide) (by decide)) (g := (mkF m 257 #[.val (.long q1), .second, .val (.long q2), .second, .val (.long q3), .second, .val (.long q4), .second, .val (.ref b5), .val (.ref b3_39_14), .val (.int (1 : Int32)), .val (.int (1 : Int32)), .unset] [(.long q3), (.int (16 : Int32)), (.ref b5)])) rfl (by rw [hml]; rfl) (argsL := [(.ref b5), (.int (16 : Int32)), (.long q3)]) (rest := []) (lenOf pd_4 rfl) rfl (by show 2 * 0 + _ ≤ _; exact Nat.le_of_eq rfl) (hb hby at_257) (fun _ _ => ⟨rfl, e34, (by decide : 2 + 0 ≤ _), (by decide : 76 + 0 ≤ _)⟩)
  dsimp only [Pt.U, Pt.locs, Pt.cells, Pt.slots] at X35 l35 y35 z35 st35 hQ35
  subst l35 y35 z35
  obtain ⟨rfl, Nq35, e35⟩ := hQ35
  have N35 := Fr.app N34 Nq35
  obtain ⟨_, _, ⟨T36, L36, k36, n36⟩, -, X36, ⟨Lc36, hQ36, l36, y36, z36⟩, st36⟩ := Jvm.LawKit.callS X35 hx (y := (⟨"com/example/lasting_names/lastingnames/Ed25519SubjectPublicKeyInfoPinLaw", "same", "([BIJ)Z"⟩ : MethodName)) hown (mvT hZ (hw _ (List.mem_of_getElem? (i := 24) rfl))) (mvT hZ (hw _ (List.mem_of_getElem? (i := 25) rfl))) (mvT hZ (hw _ (List.mem_of_getElem? (i := 3) rfl))) (mvT hZ (hw _ (List.mem_of_getElem? (i := 26) rfl))) (by decide) (backOf (W := 0) (rm5_8 l Z a0 hw [] b5 q4 k5 ((((q1.toUInt64 >>> ((56 : Int32) &&& 0x3f).toInt64.toUInt64).toInt64).toInt32).toInt8.toInt32) ((((q1.toUInt64 >>> ((48 : Int32) &&& 0x3f).toInt64.toUInt64).toInt64).toInt32).toInt8.toInt32) ((((q1.toUInt64 >>> ((40 : Int32) &&& 0x3f).toInt64.toUInt64).toInt64).toInt32).toInt8.toInt32) ((((q1.toUInt64 >>> ((32 : Int32) &&& 0x3f).toInt64.toUInt64).toInt64).toInt32).toInt8.toInt32) ((((q1.toUInt64 >>> ((24 : Int32) &&& 0x3f).toInt64.toUInt64).toInt64).toInt32).toInt8.toInt32) ((((q1.toUInt64 >>> ((16 : Int32) &&& 0x3f).toInt64.toUInt64).toInt64).toInt32).toInt8.toInt32) ((((q1.toUInt64 >>> ((8 : Int32) &&& 0x3f).toInt64.toUInt64).toInt64).toInt32).toInt8.toInt32) ((q1.toInt32).toInt8.toInt32) ((((q2.toUInt64 >>> ((56 : Int32) &&& 0x3f).toInt64.toUInt64).toInt64).toInt32).toInt8.toInt32) ((((q2.toUInt64 >>> ((48 : Int32) &&& 0x3f).toInt64.toUInt64).toInt64).toInt32).toInt8.toInt32) ((((q2.toUInt64 >>> ((40 : Int32) &&& 0x3f).toInt64.toUInt64).toInt64).toInt32).toInt8.toInt32) ((((q2.toUInt64 >>> ((32 : Int32) &&& 0x3f).toInt64.toUInt64).toInt64).toInt32).toInt8.toInt32) ((((q2.toUInt64 >>> ((24 : Int32) &&& 0x3f).toInt64.toUInt64).toInt64).toInt32).toInt8.toInt32) ((((q2.toUInt64 >>> ((16 : Int32) &&& 0x3f).toInt64.toUInt64).toInt64).toInt32).toInt8.toInt32) ((((q2.toUInt64 >>> ((8 : Int32) &&& 0x3f).toInt64.toUInt64).toInt64).toInt32).toInt8.toInt32) ((q2.toInt32).toInt8.toInt32) ((((q3.toUInt64 >>> ((56 : Int32) &&& 0x3f).toInt64.toUInt64).toInt64).toInt32).toInt8.toInt32) ((((q3.toUInt64 >>> ((48 : Int32) &&& 0x3f).toInt64.toUInt64).toInt64).toInt32).toInt8.toInt32) ((((q3.toUInt64 >>> ((40 : Int32) &&& 0x3f).toInt64.toUInt64).toInt64).toInt32).toInt8.toInt32) ((((q3.toUInt64 >>> ((32 : Int32) &&& 0x3f).toInt64.toUInt64).toInt64).toInt32).toInt8.toInt32) ((((q3.toUInt64 >>> ((24 : Int32) &&& 0x3f).toInt64.toUInt64).toInt64).toInt32).toInt8.toInt32) ((((q3.toUInt64 >>> ((16 : Int32) &&& 0x3f).toInt64.toUInt64).toInt64).toInt32).toInt8.toInt32) ((((q3.toUInt64 >>> ((8 : Int32) &&& 0x3f).toInt64.toUInt64).toInt64).toInt32).toInt8.toInt32) ((q3.toInt32).toInt8.toInt32) ((((q4.toUInt64 >>> ((56 : Int32) &&& 0x3f).toInt64.toUInt64).toInt64).toInt32).toInt8.toInt32) ((((q4.toUInt64 >>> ((48 : Int32) &&& 0x3f).toInt64.toUInt64).toInt64).toInt32).toInt8.toInt32) ((((q4.toUInt64 >>> ((40 : Int32) &&& 0x3f).toInt64.toUInt64).toInt64).toInt32).toInt8.toInt32) ((((q4.toUInt64 >>> ((32 : Int32) &&& 0x3f).toInt64.toUInt64).toInt64).toInt32).toInt8.toInt32) ((((q4.toUInt64 >>> ((24 : Int32) &&& 0x3f).toInt64.toUInt64).toInt64).toInt32).toInt8.toInt32) ((((q4.toUInt64 >>> ((16 : Int32) &&& 0x3f).toInt64.toUInt64).toInt64).toInt32).toInt8.toInt32) ((((q4.toUInt64 >>> ((8 : Int32) &&& 0x3f).toInt64.toUInt64).toInt64).toInt32).toInt8.toInt32) ((q4.toInt32).toInt8.toInt32) T14.heap n0 Z14 f32 (rfl : ((((q4.toUInt64 >>> ((56 : Int32) &&& 0x3f).toInt64.toUInt64).toInt64).toInt32).toInt8.toInt32) = ((((q4.toUInt64 >>> ((56 : Int32) &&& 0x3f).toInt64.toUInt64).toInt64).toInt32).toInt8.toInt32)) (rfl : ((((q4.toUInt64 >>> ((48 : Int32) &&& 0x3f).toInt64.toUInt64).toInt64).toInt32).toInt8.toInt32) = ((((q4.toUInt64 >>> ((48 : Int32) &&& 0x3f).toInt64.toUInt64).toInt64).toInt32).toInt8.toInt32)) (rfl : ((((q4.toUInt64 >>> ((40 : Int32) &&& 0x3f).toInt64.toUInt64).toInt64).toInt32).toInt8.toInt32) = ((((q4.toUInt64 >>> ((40 : Int32) &&& 0x3f).toInt64.toUInt64).toInt64).toInt32).toInt8.toInt32)) (rfl : ((((q4.toUInt64 >>> ((32 : Int32) &&& 0x3f).toInt64.toUInt64).toInt64).toInt32).toInt8.toInt32) = ((((q4.toUInt64 >>> ((32 : Int32) &&& 0x3f).toInt64.toUInt64).toInt64).toInt32).toInt8.toInt32)) (rfl : ((((q4.toUInt64 >>> ((24 : Int32) &&& 0x3f).toInt64.toUInt64).toInt64).toInt32).toInt8.toInt32) = ((((q4.toUInt64 >>> ((24 : Int32) &&& 0x3f).toInt64.toUInt64).toInt64).toInt32).toInt8.toInt32)) (rfl : ((((q4.toUInt64 >>> ((16 : Int32) &&& 0x3f).toInt64.toUInt64).toInt64).toInt32).toInt8.toInt32) = ((((q4.toUInt64 >>> ((16 : Int32) &&& 0x3f).toInt64.toUInt64).toInt64).toInt32).toInt8.toInt32)) (rfl : ((((q4.toUInt64 >>> ((8 : Int32) &&& 0x3f).toInt64.toUInt64).toInt64).toInt32).toInt8.toInt32) = ((((q4.toUInt64 >>> ((8 : Int32) &&& 0x3f).toInt64.toUInt64).toInt64).toInt32).toInt8.toInt32)) (rfl : ((q4.toInt32).toInt8.toInt32) = ((q4.toInt32).toInt8.toInt32))) hZ (hw _ (List.mem_of_getElem? (i := 26) rfl)) (hw _ (List.mem_of_getElem? (i := 3) rfl)) (by decide) (by decide)) (g := (mkF m 269 #[.val (.long q1), .second, .val (.long q2), .second, .val (.long q3), .second, .val (.long q4), .second, .val (.ref b5), .val (.ref b3_39_14), .val (.int (1 : Int32)), .val (.int (1 : Int32)), .unset] [(.long q4), (.int (24 : Int32)), (.ref b5)])) rfl (by rw [hml]; rfl) (argsL := [(.ref b5), (.int (24 : Int32)), (.long q4)]) (rest := []) (lenOf pd_4 rfl) rfl (by show 2 * 0 + _ ≤ _; exact Nat.le_of_eq rfl) (hb hby at_269) (fun _ _ => ⟨rfl, e35, (by decide : 2 + 0 ≤ _), (by decide : 76 + 0 ≤ _)⟩)
  dsimp only [Pt.U, Pt.locs, Pt.cells, Pt.slots] at X36 l36 y36 z36 st36 hQ36
  subst l36 y36 z36
  obtain ⟨rfl, Nq36, e36⟩ := hQ36
  have N36 := Fr.app N35 Nq36
  obtain ⟨fs, hr, hrun, hended, hW, hsame⟩ := X36.leave (v := some (.int (1 : Int32))) (fun h => by rw [Bd.returns] at h; cases h)
  refine ⟨_, _, pre0 _ ?_, hrun, hended, _, _, rfl, ?_, ⟨_, rfl⟩, hW, hsame.mono (by decide) (by decide)⟩
  · show Steps p.tables e below (s₁.setTop (mkF m 0 #[.val (.long q1), .second, .val (.long q2), .second, .val (.long q3), .second, .val (.long q4), .second, .unset, .unset, .unset, .unset, .unset] [])) _
    refine XS.bipush X0.here hx rfl (hb hby at_0) ?_
    show Steps p.tables e below (s₁.setTop (mkF m 2 #[.val (.long q1), .second, .val (.long q2), .second, .val (.long q3), .second, .val (.long q4), .second, .unset, .unset, .unset, .unset, .unset] [(.int (32 : Int32))])) _
    refine st5 _ ?_
    show Steps p.tables e below (T5.setTop (mkF m 4 #[.val (.long q1), .second, .val (.long q2), .second, .val (.long q3), .second, .val (.long q4), .second, .unset, .unset, .unset, .unset, .unset] [(.ref b5)])) _
    refine XS.astore X5.here hx rfl (hb hby at_4) rfl rfl (l' := #[.val (.long q1), .second, .val (.long q2), .second, .val (.long q3), .second, .val (.long q4), .second, .val (.ref b5), .unset, .unset, .unset, .unset]) rfl ?_
    show Steps p.tables e below (T5.setTop (mkF m 6 #[.val (.long q1), .second, .val (.long q2), .second, .val (.long q3), .second, .val (.long q4), .second, .val (.ref b5), .unset, .unset, .unset, .unset] [])) _
    refine XS.aload X5.here hx rfl (hb hby at_6) rfl rfl ?_
    show Steps p.tables e below (T5.setTop (mkF m 8 #[.val (.long q1), .second, .val (.long q2), .second, .val (.long q3), .second, .val (.long q4), .second, .val (.ref b5), .unset, .unset, .unset, .unset] [(.ref b5)])) _
    refine XS.iconst X5.here hx rfl (hb hby at_8) ?_
    show Steps p.tables e below (T5.setTop (mkF m 9 #[.val (.long q1), .second, .val (.long q2), .second, .val (.long q3), .second, .val (.long q4), .second, .val (.ref b5), .unset, .unset, .unset, .unset] [(.int (0 : Int32)), (.ref b5)])) _
    refine XS.lloadN X5.here hx rfl (hb hby at_9) rfl ?_
    show Steps p.tables e below (T5.setTop (mkF m 10 #[.val (.long q1), .second, .val (.long q2), .second, .val (.long q3), .second, .val (.long q4), .second, .val (.ref b5), .unset, .unset, .unset, .unset] [(.long q1), (.int (0 : Int32)), (.ref b5)])) _
    refine st6 _ ?_
    show Steps p.tables e below (T6.setTop (mkF m 13 #[.val (.long q1), .second, .val (.long q2), .second, .val (.long q3), .second, .val (.long q4), .second, .val (.ref b5), .unset, .unset, .unset, .unset] [])) _
    refine XS.aload X6.here hx rfl (hb hby at_13) rfl rfl ?_
    show Steps p.tables e below (T6.setTop (mkF m 15 #[.val (.long q1), .second, .val (.long q2), .second, .val (.long q3), .second, .val (.long q4), .second, .val (.ref b5), .unset, .unset, .unset, .unset] [(.ref b5)])) _
    refine XS.bipush X6.here hx rfl (hb hby at_15) ?_
    show Steps p.tables e below (T6.setTop (mkF m 17 #[.val (.long q1), .second, .val (.long q2), .second, .val (.long q3), .second, .val (.long q4), .second, .val (.ref b5), .unset, .unset, .unset, .unset] [(.int (8 : Int32)), (.ref b5)])) _
    refine XS.lloadN X6.here hx rfl (hb hby at_17) rfl ?_
    show Steps p.tables e below (T6.setTop (mkF m 18 #[.val (.long q1), .second, .val (.long q2), .second, .val (.long q3), .second, .val (.long q4), .second, .val (.ref b5), .unset, .unset, .unset, .unset] [(.long q2), (.int (8 : Int32)), (.ref b5)])) _
    refine st7 _ ?_
    show Steps p.tables e below (T7.setTop (mkF m 21 #[.val (.long q1), .second, .val (.long q2), .second, .val (.long q3), .second, .val (.long q4), .second, .val (.ref b5), .unset, .unset, .unset, .unset] [])) _
    refine XS.aload X7.here hx rfl (hb hby at_21) rfl rfl ?_
    show Steps p.tables e below (T7.setTop (mkF m 23 #[.val (.long q1), .second, .val (.long q2), .second, .val (.long q3), .second, .val (.long q4), .second, .val (.ref b5), .unset, .unset, .unset, .unset] [(.ref b5)])) _
    refine XS.bipush X7.here hx rfl (hb hby at_23) ?_
    show Steps p.tables e below (T7.setTop (mkF m 25 #[.val (.long q1), .second, .val (.long q2), .second, .val (.long q3), .second, .val (.long q4), .second, .val (.ref b5), .unset, .unset, .unset, .unset] [(.int (16 : Int32)), (.ref b5)])) _
    refine XS.lload X7.here hx rfl (hb hby at_25) rfl ?_
    show Steps p.tables e below (T7.setTop (mkF m 27 #[.val (.long q1), .second, .val (.long q2), .second, .val (.long q3), .second, .val (.long q4), .second, .val (.ref b5), .unset, .unset, .unset, .unset] [(.long q3), (.int (16 : Int32)), (.ref b5)])) _
    refine st8 _ ?_
    show Steps p.tables e below (T8.setTop (mkF m 30 #[.val (.long q1), .second, .val (.long q2), .second, .val (.long q3), .second, .val (.long q4), .second, .val (.ref b5), .unset, .unset, .unset, .unset] [])) _
    refine XS.aload X8.here hx rfl (hb hby at_30) rfl rfl ?_
    show Steps p.tables e below (T8.setTop (mkF m 32 #[.val (.long q1), .second, .val (.long q2), .second, .val (.long q3), .second, .val (.long q4), .second, .val (.ref b5), .unset, .unset, .unset, .unset] [(.ref b5)])) _
    refine XS.bipush X8.here hx rfl (hb hby at_32) ?_
    show Steps p.tables e below (T8.setTop (mkF m 34 #[.val (.long q1), .second, .val (.long q2), .second, .val (.long q3), .second, .val (.long q4), .second, .val (.ref b5), .unset, .unset, .unset, .unset] [(.int (24 : Int32)), (.ref b5)])) _
    refine XS.lload X8.here hx rfl (hb hby at_34) rfl ?_
    show Steps p.tables e below (T8.setTop (mkF m 36 #[.val (.long q1), .second, .val (.long q2), .second, .val (.long q3), .second, .val (.long q4), .second, .val (.ref b5), .unset, .unset, .unset, .unset] [(.long q4), (.int (24 : Int32)), (.ref b5)])) _
    refine st9 _ ?_
    show Steps p.tables e below (T9.setTop (mkF m 39 #[.val (.long q1), .second, .val (.long q2), .second, .val (.long q3), .second, .val (.long q4), .second, .val (.ref b5), .unset, .unset, .unset, .unset] [])) _
    refine XS.aload X9.here hx rfl (hb hby at_39) rfl rfl ?_
    show Steps p.tables e below (T9.setTop (mkF m 41 #[.val (.long q1), .second, .val (.long q2), .second, .val (.long q3), .second, .val (.long q4), .second, .val (.ref b5), .unset, .unset, .unset, .unset] [(.ref b5)])) _
    refine st14 _ ?_
    show Steps p.tables e below (T14.setTop (mkF m 44 #[.val (.long q1), .second, .val (.long q2), .second, .val (.long q3), .second, .val (.long q4), .second, .val (.ref b5), .unset, .unset, .unset, .unset] [(.ref b3_39_14)])) _
    refine XS.astore X14.here hx rfl (hb hby at_44) rfl rfl (l' := #[.val (.long q1), .second, .val (.long q2), .second, .val (.long q3), .second, .val (.long q4), .second, .val (.ref b5), .val (.ref b3_39_14), .unset, .unset, .unset]) rfl ?_
    show Steps p.tables e below (T14.setTop (mkF m 46 #[.val (.long q1), .second, .val (.long q2), .second, .val (.long q3), .second, .val (.long q4), .second, .val (.ref b5), .val (.ref b3_39_14), .unset, .unset, .unset] [])) _
    refine XS.aload X14.here hx rfl (hb hby at_46) rfl rfl ?_
    show Steps p.tables e below (T14.setTop (mkF m 48 #[.val (.long q1), .second, .val (.long q2), .second, .val (.long q3), .second, .val (.long q4), .second, .val (.ref b5), .val (.ref b3_39_14), .unset, .unset, .unset] [(.ref b3_39_14)])) _
    refine XS.ifnullNo X14.here hx rfl (hb hby at_48) rfl ?_
    show Steps p.tables e below (T14.setTop (mkF m 51 #[.val (.long q1), .second, .val (.long q2), .second, .val (.long q3), .second, .val (.long q4), .second, .val (.ref b5), .val (.ref b3_39_14), .unset, .unset, .unset] [])) _
    refine XS.aload X14.here hx rfl (hb hby at_51) rfl rfl ?_
    show Steps p.tables e below (T14.setTop (mkF m 53 #[.val (.long q1), .second, .val (.long q2), .second, .val (.long q3), .second, .val (.long q4), .second, .val (.ref b5), .val (.ref b3_39_14), .unset, .unset, .unset] [(.ref b3_39_14)])) _
    refine X14.arraylength hx (Ar15.1) (State.isArrayOf_alike hZ.alike Ar15.2.1) (g := (mkF m 53 #[.val (.long q1), .second, .val (.long q2), .second, .val (.long q3), .second, .val (.long q4), .second, .val (.ref b5), .val (.ref b3_39_14), .unset, .unset, .unset] [(.ref b3_39_14)])) rfl rfl (hb hby at_53) _ ?_
    rw [len_of S15 N_15]
    show Steps p.tables e below (T14.setTop (mkF m 54 #[.val (.long q1), .second, .val (.long q2), .second, .val (.long q3), .second, .val (.long q4), .second, .val (.ref b5), .val (.ref b3_39_14), .unset, .unset, .unset] [(.int (44 : Int32))])) _
    refine XS.bipush X14.here hx rfl (hb hby at_54) ?_
    show Steps p.tables e below (T14.setTop (mkF m 56 #[.val (.long q1), .second, .val (.long q2), .second, .val (.long q3), .second, .val (.long q4), .second, .val (.ref b5), .val (.ref b3_39_14), .unset, .unset, .unset] [(.int (44 : Int32)), (.int (44 : Int32))])) _
    refine XS.icmpYes X14.here hx rfl (pc0 := 56) (pc' := 61) rfl (hb hby at_56) rfl (teq (rfl : (44 : Int32) = (44 : Int32))).1 (by decide) (by decide) ?_
    show Steps p.tables e below (T14.setTop (mkF m 61 #[.val (.long q1), .second, .val (.long q2), .second, .val (.long q3), .second, .val (.long q4), .second, .val (.ref b5), .val (.ref b3_39_14), .unset, .unset, .unset] [])) _
    refine XS.aload X14.here hx rfl (hb hby at_61) rfl rfl ?_
    show Steps p.tables e below (T14.setTop (mkF m 63 #[.val (.long q1), .second, .val (.long q2), .second, .val (.long q3), .second, .val (.long q4), .second, .val (.ref b5), .val (.ref b3_39_14), .unset, .unset, .unset] [(.ref b3_39_14)])) _
    refine XS.iconst X14.here hx rfl (hb hby at_63) ?_
    show Steps p.tables e below (T14.setTop (mkF m 64 #[.val (.long q1), .second, .val (.long q2), .second, .val (.long q3), .second, .val (.long q4), .second, .val (.ref b5), .val (.ref b3_39_14), .unset, .unset, .unset] [(.int (0 : Int32)), (.ref b3_39_14)])) _
    refine X14.baloadBytes hx (j := (0 : Int32)) (v := (.int (48 : Int32))) (Ar16.1) (State.isArrayOf_alike hZ.alike Ar16.2.1) Ar16.2.2 hin16 hat16 (g := (mkF m 64 #[.val (.long q1), .second, .val (.long q2), .second, .val (.long q3), .second, .val (.long q4), .second, .val (.ref b5), .val (.ref b3_39_14), .unset, .unset, .unset] [(.int (0 : Int32)), (.ref b3_39_14)])) rfl rfl (hb hby at_64) _ ?_
    show Steps p.tables e below (T14.setTop (mkF m 65 #[.val (.long q1), .second, .val (.long q2), .second, .val (.long q3), .second, .val (.long q4), .second, .val (.ref b5), .val (.ref b3_39_14), .unset, .unset, .unset] [(.int (48 : Int32))])) _
    refine XS.bipush X14.here hx rfl (hb hby at_65) ?_
    show Steps p.tables e below (T14.setTop (mkF m 67 #[.val (.long q1), .second, .val (.long q2), .second, .val (.long q3), .second, .val (.long q4), .second, .val (.ref b5), .val (.ref b3_39_14), .unset, .unset, .unset] [(.int (48 : Int32)), (.int (48 : Int32))])) _
    refine XS.icmpNo X14.here hx rfl (hb hby at_67) rfl (teq (rfl : (48 : Int32) = (48 : Int32))).2 ?_
    show Steps p.tables e below (T14.setTop (mkF m 70 #[.val (.long q1), .second, .val (.long q2), .second, .val (.long q3), .second, .val (.long q4), .second, .val (.ref b5), .val (.ref b3_39_14), .unset, .unset, .unset] [])) _
    refine XS.aload X14.here hx rfl (hb hby at_70) rfl rfl ?_
    show Steps p.tables e below (T14.setTop (mkF m 72 #[.val (.long q1), .second, .val (.long q2), .second, .val (.long q3), .second, .val (.long q4), .second, .val (.ref b5), .val (.ref b3_39_14), .unset, .unset, .unset] [(.ref b3_39_14)])) _
    refine XS.iconst X14.here hx rfl (hb hby at_72) ?_
    show Steps p.tables e below (T14.setTop (mkF m 73 #[.val (.long q1), .second, .val (.long q2), .second, .val (.long q3), .second, .val (.long q4), .second, .val (.ref b5), .val (.ref b3_39_14), .unset, .unset, .unset] [(.int (1 : Int32)), (.ref b3_39_14)])) _
    refine X14.baloadBytes hx (j := (1 : Int32)) (v := (.int (42 : Int32))) (Ar17.1) (State.isArrayOf_alike hZ.alike Ar17.2.1) Ar17.2.2 hin17 hat17 (g := (mkF m 73 #[.val (.long q1), .second, .val (.long q2), .second, .val (.long q3), .second, .val (.long q4), .second, .val (.ref b5), .val (.ref b3_39_14), .unset, .unset, .unset] [(.int (1 : Int32)), (.ref b3_39_14)])) rfl rfl (hb hby at_73) _ ?_
    show Steps p.tables e below (T14.setTop (mkF m 74 #[.val (.long q1), .second, .val (.long q2), .second, .val (.long q3), .second, .val (.long q4), .second, .val (.ref b5), .val (.ref b3_39_14), .unset, .unset, .unset] [(.int (42 : Int32))])) _
    refine XS.bipush X14.here hx rfl (hb hby at_74) ?_
    show Steps p.tables e below (T14.setTop (mkF m 76 #[.val (.long q1), .second, .val (.long q2), .second, .val (.long q3), .second, .val (.long q4), .second, .val (.ref b5), .val (.ref b3_39_14), .unset, .unset, .unset] [(.int (42 : Int32)), (.int (42 : Int32))])) _
    refine XS.icmpNo X14.here hx rfl (hb hby at_76) rfl (teq (rfl : (42 : Int32) = (42 : Int32))).2 ?_
    show Steps p.tables e below (T14.setTop (mkF m 79 #[.val (.long q1), .second, .val (.long q2), .second, .val (.long q3), .second, .val (.long q4), .second, .val (.ref b5), .val (.ref b3_39_14), .unset, .unset, .unset] [])) _
    refine XS.aload X14.here hx rfl (hb hby at_79) rfl rfl ?_
    show Steps p.tables e below (T14.setTop (mkF m 81 #[.val (.long q1), .second, .val (.long q2), .second, .val (.long q3), .second, .val (.long q4), .second, .val (.ref b5), .val (.ref b3_39_14), .unset, .unset, .unset] [(.ref b3_39_14)])) _
    refine XS.iconst X14.here hx rfl (hb hby at_81) ?_
    show Steps p.tables e below (T14.setTop (mkF m 82 #[.val (.long q1), .second, .val (.long q2), .second, .val (.long q3), .second, .val (.long q4), .second, .val (.ref b5), .val (.ref b3_39_14), .unset, .unset, .unset] [(.int (2 : Int32)), (.ref b3_39_14)])) _
    refine X14.baloadBytes hx (j := (2 : Int32)) (v := (.int (48 : Int32))) (Ar18.1) (State.isArrayOf_alike hZ.alike Ar18.2.1) Ar18.2.2 hin18 hat18 (g := (mkF m 82 #[.val (.long q1), .second, .val (.long q2), .second, .val (.long q3), .second, .val (.long q4), .second, .val (.ref b5), .val (.ref b3_39_14), .unset, .unset, .unset] [(.int (2 : Int32)), (.ref b3_39_14)])) rfl rfl (hb hby at_82) _ ?_
    show Steps p.tables e below (T14.setTop (mkF m 83 #[.val (.long q1), .second, .val (.long q2), .second, .val (.long q3), .second, .val (.long q4), .second, .val (.ref b5), .val (.ref b3_39_14), .unset, .unset, .unset] [(.int (48 : Int32))])) _
    refine XS.bipush X14.here hx rfl (hb hby at_83) ?_
    show Steps p.tables e below (T14.setTop (mkF m 85 #[.val (.long q1), .second, .val (.long q2), .second, .val (.long q3), .second, .val (.long q4), .second, .val (.ref b5), .val (.ref b3_39_14), .unset, .unset, .unset] [(.int (48 : Int32)), (.int (48 : Int32))])) _
    refine XS.icmpNo X14.here hx rfl (hb hby at_85) rfl (teq (rfl : (48 : Int32) = (48 : Int32))).2 ?_
    show Steps p.tables e below (T14.setTop (mkF m 88 #[.val (.long q1), .second, .val (.long q2), .second, .val (.long q3), .second, .val (.long q4), .second, .val (.ref b5), .val (.ref b3_39_14), .unset, .unset, .unset] [])) _
    refine XS.aload X14.here hx rfl (hb hby at_88) rfl rfl ?_
    show Steps p.tables e below (T14.setTop (mkF m 90 #[.val (.long q1), .second, .val (.long q2), .second, .val (.long q3), .second, .val (.long q4), .second, .val (.ref b5), .val (.ref b3_39_14), .unset, .unset, .unset] [(.ref b3_39_14)])) _
    refine XS.iconst X14.here hx rfl (hb hby at_90) ?_
    show Steps p.tables e below (T14.setTop (mkF m 91 #[.val (.long q1), .second, .val (.long q2), .second, .val (.long q3), .second, .val (.long q4), .second, .val (.ref b5), .val (.ref b3_39_14), .unset, .unset, .unset] [(.int (3 : Int32)), (.ref b3_39_14)])) _
    refine X14.baloadBytes hx (j := (3 : Int32)) (v := (.int (5 : Int32))) (Ar19.1) (State.isArrayOf_alike hZ.alike Ar19.2.1) Ar19.2.2 hin19 hat19 (g := (mkF m 91 #[.val (.long q1), .second, .val (.long q2), .second, .val (.long q3), .second, .val (.long q4), .second, .val (.ref b5), .val (.ref b3_39_14), .unset, .unset, .unset] [(.int (3 : Int32)), (.ref b3_39_14)])) rfl rfl (hb hby at_91) _ ?_
    show Steps p.tables e below (T14.setTop (mkF m 92 #[.val (.long q1), .second, .val (.long q2), .second, .val (.long q3), .second, .val (.long q4), .second, .val (.ref b5), .val (.ref b3_39_14), .unset, .unset, .unset] [(.int (5 : Int32))])) _
    refine XS.iconst X14.here hx rfl (hb hby at_92) ?_
    show Steps p.tables e below (T14.setTop (mkF m 93 #[.val (.long q1), .second, .val (.long q2), .second, .val (.long q3), .second, .val (.long q4), .second, .val (.ref b5), .val (.ref b3_39_14), .unset, .unset, .unset] [(.int (5 : Int32)), (.int (5 : Int32))])) _
    refine XS.icmpNo X14.here hx rfl (hb hby at_93) rfl (teq (rfl : (5 : Int32) = (5 : Int32))).2 ?_
    show Steps p.tables e below (T14.setTop (mkF m 96 #[.val (.long q1), .second, .val (.long q2), .second, .val (.long q3), .second, .val (.long q4), .second, .val (.ref b5), .val (.ref b3_39_14), .unset, .unset, .unset] [])) _
    refine XS.aload X14.here hx rfl (hb hby at_96) rfl rfl ?_
    show Steps p.tables e below (T14.setTop (mkF m 98 #[.val (.long q1), .second, .val (.long q2), .second, .val (.long q3), .second, .val (.long q4), .second, .val (.ref b5), .val (.ref b3_39_14), .unset, .unset, .unset] [(.ref b3_39_14)])) _
    refine XS.iconst X14.here hx rfl (hb hby at_98) ?_
    show Steps p.tables e below (T14.setTop (mkF m 99 #[.val (.long q1), .second, .val (.long q2), .second, .val (.long q3), .second, .val (.long q4), .second, .val (.ref b5), .val (.ref b3_39_14), .unset, .unset, .unset] [(.int (4 : Int32)), (.ref b3_39_14)])) _
    refine X14.baloadBytes hx (j := (4 : Int32)) (v := (.int (6 : Int32))) (Ar20.1) (State.isArrayOf_alike hZ.alike Ar20.2.1) Ar20.2.2 hin20 hat20 (g := (mkF m 99 #[.val (.long q1), .second, .val (.long q2), .second, .val (.long q3), .second, .val (.long q4), .second, .val (.ref b5), .val (.ref b3_39_14), .unset, .unset, .unset] [(.int (4 : Int32)), (.ref b3_39_14)])) rfl rfl (hb hby at_99) _ ?_
    show Steps p.tables e below (T14.setTop (mkF m 100 #[.val (.long q1), .second, .val (.long q2), .second, .val (.long q3), .second, .val (.long q4), .second, .val (.ref b5), .val (.ref b3_39_14), .unset, .unset, .unset] [(.int (6 : Int32))])) _
    refine XS.bipush X14.here hx rfl (hb hby at_100) ?_
    show Steps p.tables e below (T14.setTop (mkF m 102 #[.val (.long q1), .second, .val (.long q2), .second, .val (.long q3), .second, .val (.long q4), .second, .val (.ref b5), .val (.ref b3_39_14), .unset, .unset, .unset] [(.int (6 : Int32)), (.int (6 : Int32))])) _
    refine XS.icmpNo X14.here hx rfl (hb hby at_102) rfl (teq (rfl : (6 : Int32) = (6 : Int32))).2 ?_
    show Steps p.tables e below (T14.setTop (mkF m 105 #[.val (.long q1), .second, .val (.long q2), .second, .val (.long q3), .second, .val (.long q4), .second, .val (.ref b5), .val (.ref b3_39_14), .unset, .unset, .unset] [])) _
    refine XS.aload X14.here hx rfl (hb hby at_105) rfl rfl ?_
    show Steps p.tables e below (T14.setTop (mkF m 107 #[.val (.long q1), .second, .val (.long q2), .second, .val (.long q3), .second, .val (.long q4), .second, .val (.ref b5), .val (.ref b3_39_14), .unset, .unset, .unset] [(.ref b3_39_14)])) _
    refine XS.iconst X14.here hx rfl (hb hby at_107) ?_
    show Steps p.tables e below (T14.setTop (mkF m 108 #[.val (.long q1), .second, .val (.long q2), .second, .val (.long q3), .second, .val (.long q4), .second, .val (.ref b5), .val (.ref b3_39_14), .unset, .unset, .unset] [(.int (5 : Int32)), (.ref b3_39_14)])) _
    refine X14.baloadBytes hx (j := (5 : Int32)) (v := (.int (3 : Int32))) (Ar21.1) (State.isArrayOf_alike hZ.alike Ar21.2.1) Ar21.2.2 hin21 hat21 (g := (mkF m 108 #[.val (.long q1), .second, .val (.long q2), .second, .val (.long q3), .second, .val (.long q4), .second, .val (.ref b5), .val (.ref b3_39_14), .unset, .unset, .unset] [(.int (5 : Int32)), (.ref b3_39_14)])) rfl rfl (hb hby at_108) _ ?_
    show Steps p.tables e below (T14.setTop (mkF m 109 #[.val (.long q1), .second, .val (.long q2), .second, .val (.long q3), .second, .val (.long q4), .second, .val (.ref b5), .val (.ref b3_39_14), .unset, .unset, .unset] [(.int (3 : Int32))])) _
    refine XS.iconst X14.here hx rfl (hb hby at_109) ?_
    show Steps p.tables e below (T14.setTop (mkF m 110 #[.val (.long q1), .second, .val (.long q2), .second, .val (.long q3), .second, .val (.long q4), .second, .val (.ref b5), .val (.ref b3_39_14), .unset, .unset, .unset] [(.int (3 : Int32)), (.int (3 : Int32))])) _
    refine XS.icmpNo X14.here hx rfl (hb hby at_110) rfl (teq (rfl : (3 : Int32) = (3 : Int32))).2 ?_
    show Steps p.tables e below (T14.setTop (mkF m 113 #[.val (.long q1), .second, .val (.long q2), .second, .val (.long q3), .second, .val (.long q4), .second, .val (.ref b5), .val (.ref b3_39_14), .unset, .unset, .unset] [])) _
    refine XS.aload X14.here hx rfl (hb hby at_113) rfl rfl ?_
    show Steps p.tables e below (T14.setTop (mkF m 115 #[.val (.long q1), .second, .val (.long q2), .second, .val (.long q3), .second, .val (.long q4), .second, .val (.ref b5), .val (.ref b3_39_14), .unset, .unset, .unset] [(.ref b3_39_14)])) _
    refine XS.bipush X14.here hx rfl (hb hby at_115) ?_
    show Steps p.tables e below (T14.setTop (mkF m 117 #[.val (.long q1), .second, .val (.long q2), .second, .val (.long q3), .second, .val (.long q4), .second, .val (.ref b5), .val (.ref b3_39_14), .unset, .unset, .unset] [(.int (6 : Int32)), (.ref b3_39_14)])) _
    refine X14.baloadBytes hx (j := (6 : Int32)) (v := (.int (43 : Int32))) (Ar22.1) (State.isArrayOf_alike hZ.alike Ar22.2.1) Ar22.2.2 hin22 hat22 (g := (mkF m 117 #[.val (.long q1), .second, .val (.long q2), .second, .val (.long q3), .second, .val (.long q4), .second, .val (.ref b5), .val (.ref b3_39_14), .unset, .unset, .unset] [(.int (6 : Int32)), (.ref b3_39_14)])) rfl rfl (hb hby at_117) _ ?_
    show Steps p.tables e below (T14.setTop (mkF m 118 #[.val (.long q1), .second, .val (.long q2), .second, .val (.long q3), .second, .val (.long q4), .second, .val (.ref b5), .val (.ref b3_39_14), .unset, .unset, .unset] [(.int (43 : Int32))])) _
    refine XS.bipush X14.here hx rfl (hb hby at_118) ?_
    show Steps p.tables e below (T14.setTop (mkF m 120 #[.val (.long q1), .second, .val (.long q2), .second, .val (.long q3), .second, .val (.long q4), .second, .val (.ref b5), .val (.ref b3_39_14), .unset, .unset, .unset] [(.int (43 : Int32)), (.int (43 : Int32))])) _
    refine XS.icmpNo X14.here hx rfl (hb hby at_120) rfl (teq (rfl : (43 : Int32) = (43 : Int32))).2 ?_
    show Steps p.tables e below (T14.setTop (mkF m 123 #[.val (.long q1), .second, .val (.long q2), .second, .val (.long q3), .second, .val (.long q4), .second, .val (.ref b5), .val (.ref b3_39_14), .unset, .unset, .unset] [])) _
    refine XS.aload X14.here hx rfl (hb hby at_123) rfl rfl ?_
    show Steps p.tables e below (T14.setTop (mkF m 125 #[.val (.long q1), .second, .val (.long q2), .second, .val (.long q3), .second, .val (.long q4), .second, .val (.ref b5), .val (.ref b3_39_14), .unset, .unset, .unset] [(.ref b3_39_14)])) _
    refine XS.bipush X14.here hx rfl (hb hby at_125) ?_
    show Steps p.tables e below (T14.setTop (mkF m 127 #[.val (.long q1), .second, .val (.long q2), .second, .val (.long q3), .second, .val (.long q4), .second, .val (.ref b5), .val (.ref b3_39_14), .unset, .unset, .unset] [(.int (7 : Int32)), (.ref b3_39_14)])) _
    refine X14.baloadBytes hx (j := (7 : Int32)) (v := (.int (101 : Int32))) (Ar23.1) (State.isArrayOf_alike hZ.alike Ar23.2.1) Ar23.2.2 hin23 hat23 (g := (mkF m 127 #[.val (.long q1), .second, .val (.long q2), .second, .val (.long q3), .second, .val (.long q4), .second, .val (.ref b5), .val (.ref b3_39_14), .unset, .unset, .unset] [(.int (7 : Int32)), (.ref b3_39_14)])) rfl rfl (hb hby at_127) _ ?_
    show Steps p.tables e below (T14.setTop (mkF m 128 #[.val (.long q1), .second, .val (.long q2), .second, .val (.long q3), .second, .val (.long q4), .second, .val (.ref b5), .val (.ref b3_39_14), .unset, .unset, .unset] [(.int (101 : Int32))])) _
    refine XS.bipush X14.here hx rfl (hb hby at_128) ?_
    show Steps p.tables e below (T14.setTop (mkF m 130 #[.val (.long q1), .second, .val (.long q2), .second, .val (.long q3), .second, .val (.long q4), .second, .val (.ref b5), .val (.ref b3_39_14), .unset, .unset, .unset] [(.int (101 : Int32)), (.int (101 : Int32))])) _
    refine XS.icmpNo X14.here hx rfl (hb hby at_130) rfl (teq (rfl : (101 : Int32) = (101 : Int32))).2 ?_
    show Steps p.tables e below (T14.setTop (mkF m 133 #[.val (.long q1), .second, .val (.long q2), .second, .val (.long q3), .second, .val (.long q4), .second, .val (.ref b5), .val (.ref b3_39_14), .unset, .unset, .unset] [])) _
    refine XS.aload X14.here hx rfl (hb hby at_133) rfl rfl ?_
    show Steps p.tables e below (T14.setTop (mkF m 135 #[.val (.long q1), .second, .val (.long q2), .second, .val (.long q3), .second, .val (.long q4), .second, .val (.ref b5), .val (.ref b3_39_14), .unset, .unset, .unset] [(.ref b3_39_14)])) _
    refine XS.bipush X14.here hx rfl (hb hby at_135) ?_
    show Steps p.tables e below (T14.setTop (mkF m 137 #[.val (.long q1), .second, .val (.long q2), .second, .val (.long q3), .second, .val (.long q4), .second, .val (.ref b5), .val (.ref b3_39_14), .unset, .unset, .unset] [(.int (8 : Int32)), (.ref b3_39_14)])) _
    refine X14.baloadBytes hx (j := (8 : Int32)) (v := (.int (112 : Int32))) (Ar24.1) (State.isArrayOf_alike hZ.alike Ar24.2.1) Ar24.2.2 hin24 hat24 (g := (mkF m 137 #[.val (.long q1), .second, .val (.long q2), .second, .val (.long q3), .second, .val (.long q4), .second, .val (.ref b5), .val (.ref b3_39_14), .unset, .unset, .unset] [(.int (8 : Int32)), (.ref b3_39_14)])) rfl rfl (hb hby at_137) _ ?_
    show Steps p.tables e below (T14.setTop (mkF m 138 #[.val (.long q1), .second, .val (.long q2), .second, .val (.long q3), .second, .val (.long q4), .second, .val (.ref b5), .val (.ref b3_39_14), .unset, .unset, .unset] [(.int (112 : Int32))])) _
    refine XS.bipush X14.here hx rfl (hb hby at_138) ?_
    show Steps p.tables e below (T14.setTop (mkF m 140 #[.val (.long q1), .second, .val (.long q2), .second, .val (.long q3), .second, .val (.long q4), .second, .val (.ref b5), .val (.ref b3_39_14), .unset, .unset, .unset] [(.int (112 : Int32)), (.int (112 : Int32))])) _
    refine XS.icmpNo X14.here hx rfl (hb hby at_140) rfl (teq (rfl : (112 : Int32) = (112 : Int32))).2 ?_
    show Steps p.tables e below (T14.setTop (mkF m 143 #[.val (.long q1), .second, .val (.long q2), .second, .val (.long q3), .second, .val (.long q4), .second, .val (.ref b5), .val (.ref b3_39_14), .unset, .unset, .unset] [])) _
    refine XS.aload X14.here hx rfl (hb hby at_143) rfl rfl ?_
    show Steps p.tables e below (T14.setTop (mkF m 145 #[.val (.long q1), .second, .val (.long q2), .second, .val (.long q3), .second, .val (.long q4), .second, .val (.ref b5), .val (.ref b3_39_14), .unset, .unset, .unset] [(.ref b3_39_14)])) _
    refine XS.bipush X14.here hx rfl (hb hby at_145) ?_
    show Steps p.tables e below (T14.setTop (mkF m 147 #[.val (.long q1), .second, .val (.long q2), .second, .val (.long q3), .second, .val (.long q4), .second, .val (.ref b5), .val (.ref b3_39_14), .unset, .unset, .unset] [(.int (9 : Int32)), (.ref b3_39_14)])) _
    refine X14.baloadBytes hx (j := (9 : Int32)) (v := (.int (3 : Int32))) (Ar25.1) (State.isArrayOf_alike hZ.alike Ar25.2.1) Ar25.2.2 hin25 hat25 (g := (mkF m 147 #[.val (.long q1), .second, .val (.long q2), .second, .val (.long q3), .second, .val (.long q4), .second, .val (.ref b5), .val (.ref b3_39_14), .unset, .unset, .unset] [(.int (9 : Int32)), (.ref b3_39_14)])) rfl rfl (hb hby at_147) _ ?_
    show Steps p.tables e below (T14.setTop (mkF m 148 #[.val (.long q1), .second, .val (.long q2), .second, .val (.long q3), .second, .val (.long q4), .second, .val (.ref b5), .val (.ref b3_39_14), .unset, .unset, .unset] [(.int (3 : Int32))])) _
    refine XS.iconst X14.here hx rfl (hb hby at_148) ?_
    show Steps p.tables e below (T14.setTop (mkF m 149 #[.val (.long q1), .second, .val (.long q2), .second, .val (.long q3), .second, .val (.long q4), .second, .val (.ref b5), .val (.ref b3_39_14), .unset, .unset, .unset] [(.int (3 : Int32)), (.int (3 : Int32))])) _
    refine XS.icmpNo X14.here hx rfl (hb hby at_149) rfl (teq (rfl : (3 : Int32) = (3 : Int32))).2 ?_
    show Steps p.tables e below (T14.setTop (mkF m 152 #[.val (.long q1), .second, .val (.long q2), .second, .val (.long q3), .second, .val (.long q4), .second, .val (.ref b5), .val (.ref b3_39_14), .unset, .unset, .unset] [])) _
    refine XS.aload X14.here hx rfl (hb hby at_152) rfl rfl ?_
    show Steps p.tables e below (T14.setTop (mkF m 154 #[.val (.long q1), .second, .val (.long q2), .second, .val (.long q3), .second, .val (.long q4), .second, .val (.ref b5), .val (.ref b3_39_14), .unset, .unset, .unset] [(.ref b3_39_14)])) _
    refine XS.bipush X14.here hx rfl (hb hby at_154) ?_
    show Steps p.tables e below (T14.setTop (mkF m 156 #[.val (.long q1), .second, .val (.long q2), .second, .val (.long q3), .second, .val (.long q4), .second, .val (.ref b5), .val (.ref b3_39_14), .unset, .unset, .unset] [(.int (10 : Int32)), (.ref b3_39_14)])) _
    refine X14.baloadBytes hx (j := (10 : Int32)) (v := (.int (33 : Int32))) (Ar26.1) (State.isArrayOf_alike hZ.alike Ar26.2.1) Ar26.2.2 hin26 hat26 (g := (mkF m 156 #[.val (.long q1), .second, .val (.long q2), .second, .val (.long q3), .second, .val (.long q4), .second, .val (.ref b5), .val (.ref b3_39_14), .unset, .unset, .unset] [(.int (10 : Int32)), (.ref b3_39_14)])) rfl rfl (hb hby at_156) _ ?_
    show Steps p.tables e below (T14.setTop (mkF m 157 #[.val (.long q1), .second, .val (.long q2), .second, .val (.long q3), .second, .val (.long q4), .second, .val (.ref b5), .val (.ref b3_39_14), .unset, .unset, .unset] [(.int (33 : Int32))])) _
    refine XS.bipush X14.here hx rfl (hb hby at_157) ?_
    show Steps p.tables e below (T14.setTop (mkF m 159 #[.val (.long q1), .second, .val (.long q2), .second, .val (.long q3), .second, .val (.long q4), .second, .val (.ref b5), .val (.ref b3_39_14), .unset, .unset, .unset] [(.int (33 : Int32)), (.int (33 : Int32))])) _
    refine XS.icmpNo X14.here hx rfl (hb hby at_159) rfl (teq (rfl : (33 : Int32) = (33 : Int32))).2 ?_
    show Steps p.tables e below (T14.setTop (mkF m 162 #[.val (.long q1), .second, .val (.long q2), .second, .val (.long q3), .second, .val (.long q4), .second, .val (.ref b5), .val (.ref b3_39_14), .unset, .unset, .unset] [])) _
    refine XS.aload X14.here hx rfl (hb hby at_162) rfl rfl ?_
    show Steps p.tables e below (T14.setTop (mkF m 164 #[.val (.long q1), .second, .val (.long q2), .second, .val (.long q3), .second, .val (.long q4), .second, .val (.ref b5), .val (.ref b3_39_14), .unset, .unset, .unset] [(.ref b3_39_14)])) _
    refine XS.bipush X14.here hx rfl (hb hby at_164) ?_
    show Steps p.tables e below (T14.setTop (mkF m 166 #[.val (.long q1), .second, .val (.long q2), .second, .val (.long q3), .second, .val (.long q4), .second, .val (.ref b5), .val (.ref b3_39_14), .unset, .unset, .unset] [(.int (11 : Int32)), (.ref b3_39_14)])) _
    refine X14.baloadBytes hx (j := (11 : Int32)) (v := (.int (0 : Int32))) (Ar27.1) (State.isArrayOf_alike hZ.alike Ar27.2.1) Ar27.2.2 hin27 hat27 (g := (mkF m 166 #[.val (.long q1), .second, .val (.long q2), .second, .val (.long q3), .second, .val (.long q4), .second, .val (.ref b5), .val (.ref b3_39_14), .unset, .unset, .unset] [(.int (11 : Int32)), (.ref b3_39_14)])) rfl rfl (hb hby at_166) _ ?_
    show Steps p.tables e below (T14.setTop (mkF m 167 #[.val (.long q1), .second, .val (.long q2), .second, .val (.long q3), .second, .val (.long q4), .second, .val (.ref b5), .val (.ref b3_39_14), .unset, .unset, .unset] [(.int (0 : Int32))])) _
    refine XS.ifNo X14.here hx rfl (hb hby at_167) rfl ((if0 _ _).trans (teq (rfl : (0 : Int32) = (0 : Int32))).2) ?_
    show Steps p.tables e below (T14.setTop (mkF m 170 #[.val (.long q1), .second, .val (.long q2), .second, .val (.long q3), .second, .val (.long q4), .second, .val (.ref b5), .val (.ref b3_39_14), .unset, .unset, .unset] [])) _
    refine XS.iconst X14.here hx rfl (hb hby at_170) ?_
    show Steps p.tables e below (T14.setTop (mkF m 171 #[.val (.long q1), .second, .val (.long q2), .second, .val (.long q3), .second, .val (.long q4), .second, .val (.ref b5), .val (.ref b3_39_14), .unset, .unset, .unset] [(.int (1 : Int32))])) _
    refine XS.goto X14.here hx rfl (pc0 := 171) (pc' := 175) rfl (hb hby at_171) (by decide) (by decide) ?_
    show Steps p.tables e below (T14.setTop (mkF m 175 #[.val (.long q1), .second, .val (.long q2), .second, .val (.long q3), .second, .val (.long q4), .second, .val (.ref b5), .val (.ref b3_39_14), .unset, .unset, .unset] [(.int (1 : Int32))])) _
    refine XS.istore X14.here hx rfl (hb hby at_175) rfl (l' := #[.val (.long q1), .second, .val (.long q2), .second, .val (.long q3), .second, .val (.long q4), .second, .val (.ref b5), .val (.ref b3_39_14), .val (.int (1 : Int32)), .unset, .unset]) rfl ?_
    show Steps p.tables e below (T14.setTop (mkF m 177 #[.val (.long q1), .second, .val (.long q2), .second, .val (.long q3), .second, .val (.long q4), .second, .val (.ref b5), .val (.ref b3_39_14), .val (.int (1 : Int32)), .unset, .unset] [])) _
    refine XS.aload X14.here hx rfl (hb hby at_177) rfl rfl ?_
    show Steps p.tables e below (T14.setTop (mkF m 179 #[.val (.long q1), .second, .val (.long q2), .second, .val (.long q3), .second, .val (.long q4), .second, .val (.ref b5), .val (.ref b3_39_14), .val (.int (1 : Int32)), .unset, .unset] [(.ref b3_39_14)])) _
    refine XS.bipush X14.here hx rfl (hb hby at_179) ?_
    show Steps p.tables e below (T14.setTop (mkF m 181 #[.val (.long q1), .second, .val (.long q2), .second, .val (.long q3), .second, .val (.long q4), .second, .val (.ref b5), .val (.ref b3_39_14), .val (.int (1 : Int32)), .unset, .unset] [(.int (12 : Int32)), (.ref b3_39_14)])) _
    refine XS.lloadN X14.here hx rfl (hb hby at_181) rfl ?_
    show Steps p.tables e below (T14.setTop (mkF m 182 #[.val (.long q1), .second, .val (.long q2), .second, .val (.long q3), .second, .val (.long q4), .second, .val (.ref b5), .val (.ref b3_39_14), .val (.int (1 : Int32)), .unset, .unset] [(.long q1), (.int (12 : Int32)), (.ref b3_39_14)])) _
    refine st28 _ ?_
    show Steps p.tables e below (T28.setTop (mkF m 185 #[.val (.long q1), .second, .val (.long q2), .second, .val (.long q3), .second, .val (.long q4), .second, .val (.ref b5), .val (.ref b3_39_14), .val (.int (1 : Int32)), .unset, .unset] [(.int (1 : Int32))])) _
    refine XS.ifNo X28.here hx rfl (hb hby at_185) rfl ((if0 _ _).trans (feq (by decide : ¬ ((1 : Int32) = (0 : Int32)))).1) ?_
    show Steps p.tables e below (T28.setTop (mkF m 188 #[.val (.long q1), .second, .val (.long q2), .second, .val (.long q3), .second, .val (.long q4), .second, .val (.ref b5), .val (.ref b3_39_14), .val (.int (1 : Int32)), .unset, .unset] [])) _
    refine XS.aload X28.here hx rfl (hb hby at_188) rfl rfl ?_
    show Steps p.tables e below (T28.setTop (mkF m 190 #[.val (.long q1), .second, .val (.long q2), .second, .val (.long q3), .second, .val (.long q4), .second, .val (.ref b5), .val (.ref b3_39_14), .val (.int (1 : Int32)), .unset, .unset] [(.ref b3_39_14)])) _
    refine XS.bipush X28.here hx rfl (hb hby at_190) ?_
    show Steps p.tables e below (T28.setTop (mkF m 192 #[.val (.long q1), .second, .val (.long q2), .second, .val (.long q3), .second, .val (.long q4), .second, .val (.ref b5), .val (.ref b3_39_14), .val (.int (1 : Int32)), .unset, .unset] [(.int (20 : Int32)), (.ref b3_39_14)])) _
    refine XS.lloadN X28.here hx rfl (hb hby at_192) rfl ?_
    show Steps p.tables e below (T28.setTop (mkF m 193 #[.val (.long q1), .second, .val (.long q2), .second, .val (.long q3), .second, .val (.long q4), .second, .val (.ref b5), .val (.ref b3_39_14), .val (.int (1 : Int32)), .unset, .unset] [(.long q2), (.int (20 : Int32)), (.ref b3_39_14)])) _
    refine st29 _ ?_
    show Steps p.tables e below (T29.setTop (mkF m 196 #[.val (.long q1), .second, .val (.long q2), .second, .val (.long q3), .second, .val (.long q4), .second, .val (.ref b5), .val (.ref b3_39_14), .val (.int (1 : Int32)), .unset, .unset] [(.int (1 : Int32))])) _
    refine XS.ifNo X29.here hx rfl (hb hby at_196) rfl ((if0 _ _).trans (feq (by decide : ¬ ((1 : Int32) = (0 : Int32)))).1) ?_
    show Steps p.tables e below (T29.setTop (mkF m 199 #[.val (.long q1), .second, .val (.long q2), .second, .val (.long q3), .second, .val (.long q4), .second, .val (.ref b5), .val (.ref b3_39_14), .val (.int (1 : Int32)), .unset, .unset] [])) _
    refine XS.aload X29.here hx rfl (hb hby at_199) rfl rfl ?_
    show Steps p.tables e below (T29.setTop (mkF m 201 #[.val (.long q1), .second, .val (.long q2), .second, .val (.long q3), .second, .val (.long q4), .second, .val (.ref b5), .val (.ref b3_39_14), .val (.int (1 : Int32)), .unset, .unset] [(.ref b3_39_14)])) _
    refine XS.bipush X29.here hx rfl (hb hby at_201) ?_
    show Steps p.tables e below (T29.setTop (mkF m 203 #[.val (.long q1), .second, .val (.long q2), .second, .val (.long q3), .second, .val (.long q4), .second, .val (.ref b5), .val (.ref b3_39_14), .val (.int (1 : Int32)), .unset, .unset] [(.int (28 : Int32)), (.ref b3_39_14)])) _
    refine XS.lload X29.here hx rfl (hb hby at_203) rfl ?_
    show Steps p.tables e below (T29.setTop (mkF m 205 #[.val (.long q1), .second, .val (.long q2), .second, .val (.long q3), .second, .val (.long q4), .second, .val (.ref b5), .val (.ref b3_39_14), .val (.int (1 : Int32)), .unset, .unset] [(.long q3), (.int (28 : Int32)), (.ref b3_39_14)])) _
    refine st30 _ ?_
    show Steps p.tables e below (T30.setTop (mkF m 208 #[.val (.long q1), .second, .val (.long q2), .second, .val (.long q3), .second, .val (.long q4), .second, .val (.ref b5), .val (.ref b3_39_14), .val (.int (1 : Int32)), .unset, .unset] [(.int (1 : Int32))])) _
    refine XS.ifNo X30.here hx rfl (hb hby at_208) rfl ((if0 _ _).trans (feq (by decide : ¬ ((1 : Int32) = (0 : Int32)))).1) ?_
    show Steps p.tables e below (T30.setTop (mkF m 211 #[.val (.long q1), .second, .val (.long q2), .second, .val (.long q3), .second, .val (.long q4), .second, .val (.ref b5), .val (.ref b3_39_14), .val (.int (1 : Int32)), .unset, .unset] [])) _
    refine XS.aload X30.here hx rfl (hb hby at_211) rfl rfl ?_
    show Steps p.tables e below (T30.setTop (mkF m 213 #[.val (.long q1), .second, .val (.long q2), .second, .val (.long q3), .second, .val (.long q4), .second, .val (.ref b5), .val (.ref b3_39_14), .val (.int (1 : Int32)), .unset, .unset] [(.ref b3_39_14)])) _
    refine XS.bipush X30.here hx rfl (hb hby at_213) ?_
    show Steps p.tables e below (T30.setTop (mkF m 215 #[.val (.long q1), .second, .val (.long q2), .second, .val (.long q3), .second, .val (.long q4), .second, .val (.ref b5), .val (.ref b3_39_14), .val (.int (1 : Int32)), .unset, .unset] [(.int (36 : Int32)), (.ref b3_39_14)])) _
    refine XS.lload X30.here hx rfl (hb hby at_215) rfl ?_
    show Steps p.tables e below (T30.setTop (mkF m 217 #[.val (.long q1), .second, .val (.long q2), .second, .val (.long q3), .second, .val (.long q4), .second, .val (.ref b5), .val (.ref b3_39_14), .val (.int (1 : Int32)), .unset, .unset] [(.long q4), (.int (36 : Int32)), (.ref b3_39_14)])) _
    refine st31 _ ?_
    show Steps p.tables e below (T31.setTop (mkF m 220 #[.val (.long q1), .second, .val (.long q2), .second, .val (.long q3), .second, .val (.long q4), .second, .val (.ref b5), .val (.ref b3_39_14), .val (.int (1 : Int32)), .unset, .unset] [(.int (1 : Int32))])) _
    refine XS.ifNo X31.here hx rfl (hb hby at_220) rfl ((if0 _ _).trans (feq (by decide : ¬ ((1 : Int32) = (0 : Int32)))).1) ?_
    show Steps p.tables e below (T31.setTop (mkF m 223 #[.val (.long q1), .second, .val (.long q2), .second, .val (.long q3), .second, .val (.long q4), .second, .val (.ref b5), .val (.ref b3_39_14), .val (.int (1 : Int32)), .unset, .unset] [])) _
    refine XS.iconst X31.here hx rfl (hb hby at_223) ?_
    show Steps p.tables e below (T31.setTop (mkF m 224 #[.val (.long q1), .second, .val (.long q2), .second, .val (.long q3), .second, .val (.long q4), .second, .val (.ref b5), .val (.ref b3_39_14), .val (.int (1 : Int32)), .unset, .unset] [(.int (1 : Int32))])) _
    refine XS.goto X31.here hx rfl (pc0 := 224) (pc' := 228) rfl (hb hby at_224) (by decide) (by decide) ?_
    show Steps p.tables e below (T31.setTop (mkF m 228 #[.val (.long q1), .second, .val (.long q2), .second, .val (.long q3), .second, .val (.long q4), .second, .val (.ref b5), .val (.ref b3_39_14), .val (.int (1 : Int32)), .unset, .unset] [(.int (1 : Int32))])) _
    refine XS.istore X31.here hx rfl (hb hby at_228) rfl (l' := #[.val (.long q1), .second, .val (.long q2), .second, .val (.long q3), .second, .val (.long q4), .second, .val (.ref b5), .val (.ref b3_39_14), .val (.int (1 : Int32)), .val (.int (1 : Int32)), .unset]) rfl ?_
    show Steps p.tables e below (T31.setTop (mkF m 230 #[.val (.long q1), .second, .val (.long q2), .second, .val (.long q3), .second, .val (.long q4), .second, .val (.ref b5), .val (.ref b3_39_14), .val (.int (1 : Int32)), .val (.int (1 : Int32)), .unset] [])) _
    refine XS.aload X31.here hx rfl (hb hby at_230) rfl rfl ?_
    show Steps p.tables e below (T31.setTop (mkF m 232 #[.val (.long q1), .second, .val (.long q2), .second, .val (.long q3), .second, .val (.long q4), .second, .val (.ref b5), .val (.ref b3_39_14), .val (.int (1 : Int32)), .val (.int (1 : Int32)), .unset] [(.ref b5)])) _
    refine XS.iconst X31.here hx rfl (hb hby at_232) ?_
    show Steps p.tables e below (T31.setTop (mkF m 233 #[.val (.long q1), .second, .val (.long q2), .second, .val (.long q3), .second, .val (.long q4), .second, .val (.ref b5), .val (.ref b3_39_14), .val (.int (1 : Int32)), .val (.int (1 : Int32)), .unset] [(.int (0 : Int32)), (.ref b5)])) _
    refine XS.lloadN X31.here hx rfl (hb hby at_233) rfl ?_
    show Steps p.tables e below (T31.setTop (mkF m 234 #[.val (.long q1), .second, .val (.long q2), .second, .val (.long q3), .second, .val (.long q4), .second, .val (.ref b5), .val (.ref b3_39_14), .val (.int (1 : Int32)), .val (.int (1 : Int32)), .unset] [(.long q1), (.int (0 : Int32)), (.ref b5)])) _
    refine st33 _ ?_
    show Steps p.tables e below (T33.setTop (mkF m 237 #[.val (.long q1), .second, .val (.long q2), .second, .val (.long q3), .second, .val (.long q4), .second, .val (.ref b5), .val (.ref b3_39_14), .val (.int (1 : Int32)), .val (.int (1 : Int32)), .unset] [(.int (1 : Int32))])) _
    refine XS.ifNo X33.here hx rfl (hb hby at_237) rfl ((if0 _ _).trans (feq (by decide : ¬ ((1 : Int32) = (0 : Int32)))).1) ?_
    show Steps p.tables e below (T33.setTop (mkF m 240 #[.val (.long q1), .second, .val (.long q2), .second, .val (.long q3), .second, .val (.long q4), .second, .val (.ref b5), .val (.ref b3_39_14), .val (.int (1 : Int32)), .val (.int (1 : Int32)), .unset] [])) _
    refine XS.aload X33.here hx rfl (hb hby at_240) rfl rfl ?_
    show Steps p.tables e below (T33.setTop (mkF m 242 #[.val (.long q1), .second, .val (.long q2), .second, .val (.long q3), .second, .val (.long q4), .second, .val (.ref b5), .val (.ref b3_39_14), .val (.int (1 : Int32)), .val (.int (1 : Int32)), .unset] [(.ref b5)])) _
    refine XS.bipush X33.here hx rfl (hb hby at_242) ?_
    show Steps p.tables e below (T33.setTop (mkF m 244 #[.val (.long q1), .second, .val (.long q2), .second, .val (.long q3), .second, .val (.long q4), .second, .val (.ref b5), .val (.ref b3_39_14), .val (.int (1 : Int32)), .val (.int (1 : Int32)), .unset] [(.int (8 : Int32)), (.ref b5)])) _
    refine XS.lloadN X33.here hx rfl (hb hby at_244) rfl ?_
    show Steps p.tables e below (T33.setTop (mkF m 245 #[.val (.long q1), .second, .val (.long q2), .second, .val (.long q3), .second, .val (.long q4), .second, .val (.ref b5), .val (.ref b3_39_14), .val (.int (1 : Int32)), .val (.int (1 : Int32)), .unset] [(.long q2), (.int (8 : Int32)), (.ref b5)])) _
    refine st34 _ ?_
    show Steps p.tables e below (T34.setTop (mkF m 248 #[.val (.long q1), .second, .val (.long q2), .second, .val (.long q3), .second, .val (.long q4), .second, .val (.ref b5), .val (.ref b3_39_14), .val (.int (1 : Int32)), .val (.int (1 : Int32)), .unset] [(.int (1 : Int32))])) _
    refine XS.ifNo X34.here hx rfl (hb hby at_248) rfl ((if0 _ _).trans (feq (by decide : ¬ ((1 : Int32) = (0 : Int32)))).1) ?_
    show Steps p.tables e below (T34.setTop (mkF m 251 #[.val (.long q1), .second, .val (.long q2), .second, .val (.long q3), .second, .val (.long q4), .second, .val (.ref b5), .val (.ref b3_39_14), .val (.int (1 : Int32)), .val (.int (1 : Int32)), .unset] [])) _
    refine XS.aload X34.here hx rfl (hb hby at_251) rfl rfl ?_
    show Steps p.tables e below (T34.setTop (mkF m 253 #[.val (.long q1), .second, .val (.long q2), .second, .val (.long q3), .second, .val (.long q4), .second, .val (.ref b5), .val (.ref b3_39_14), .val (.int (1 : Int32)), .val (.int (1 : Int32)), .unset] [(.ref b5)])) _
    refine XS.bipush X34.here hx rfl (hb hby at_253) ?_
    show Steps p.tables e below (T34.setTop (mkF m 255 #[.val (.long q1), .second, .val (.long q2), .second, .val (.long q3), .second, .val (.long q4), .second, .val (.ref b5), .val (.ref b3_39_14), .val (.int (1 : Int32)), .val (.int (1 : Int32)), .unset] [(.int (16 : Int32)), (.ref b5)])) _
    refine XS.lload X34.here hx rfl (hb hby at_255) rfl ?_
    show Steps p.tables e below (T34.setTop (mkF m 257 #[.val (.long q1), .second, .val (.long q2), .second, .val (.long q3), .second, .val (.long q4), .second, .val (.ref b5), .val (.ref b3_39_14), .val (.int (1 : Int32)), .val (.int (1 : Int32)), .unset] [(.long q3), (.int (16 : Int32)), (.ref b5)])) _
    refine st35 _ ?_
    show Steps p.tables e below (T35.setTop (mkF m 260 #[.val (.long q1), .second, .val (.long q2), .second, .val (.long q3), .second, .val (.long q4), .second, .val (.ref b5), .val (.ref b3_39_14), .val (.int (1 : Int32)), .val (.int (1 : Int32)), .unset] [(.int (1 : Int32))])) _
    refine XS.ifNo X35.here hx rfl (hb hby at_260) rfl ((if0 _ _).trans (feq (by decide : ¬ ((1 : Int32) = (0 : Int32)))).1) ?_
    show Steps p.tables e below (T35.setTop (mkF m 263 #[.val (.long q1), .second, .val (.long q2), .second, .val (.long q3), .second, .val (.long q4), .second, .val (.ref b5), .val (.ref b3_39_14), .val (.int (1 : Int32)), .val (.int (1 : Int32)), .unset] [])) _
    refine XS.aload X35.here hx rfl (hb hby at_263) rfl rfl ?_
    show Steps p.tables e below (T35.setTop (mkF m 265 #[.val (.long q1), .second, .val (.long q2), .second, .val (.long q3), .second, .val (.long q4), .second, .val (.ref b5), .val (.ref b3_39_14), .val (.int (1 : Int32)), .val (.int (1 : Int32)), .unset] [(.ref b5)])) _
    refine XS.bipush X35.here hx rfl (hb hby at_265) ?_
    show Steps p.tables e below (T35.setTop (mkF m 267 #[.val (.long q1), .second, .val (.long q2), .second, .val (.long q3), .second, .val (.long q4), .second, .val (.ref b5), .val (.ref b3_39_14), .val (.int (1 : Int32)), .val (.int (1 : Int32)), .unset] [(.int (24 : Int32)), (.ref b5)])) _
    refine XS.lload X35.here hx rfl (hb hby at_267) rfl ?_
    show Steps p.tables e below (T35.setTop (mkF m 269 #[.val (.long q1), .second, .val (.long q2), .second, .val (.long q3), .second, .val (.long q4), .second, .val (.ref b5), .val (.ref b3_39_14), .val (.int (1 : Int32)), .val (.int (1 : Int32)), .unset] [(.long q4), (.int (24 : Int32)), (.ref b5)])) _
    refine st36 _ ?_
    show Steps p.tables e below (T36.setTop (mkF m 272 #[.val (.long q1), .second, .val (.long q2), .second, .val (.long q3), .second, .val (.long q4), .second, .val (.ref b5), .val (.ref b3_39_14), .val (.int (1 : Int32)), .val (.int (1 : Int32)), .unset] [(.int (1 : Int32))])) _
    refine XS.ifNo X36.here hx rfl (hb hby at_272) rfl ((if0 _ _).trans (feq (by decide : ¬ ((1 : Int32) = (0 : Int32)))).1) ?_
    show Steps p.tables e below (T36.setTop (mkF m 275 #[.val (.long q1), .second, .val (.long q2), .second, .val (.long q3), .second, .val (.long q4), .second, .val (.ref b5), .val (.ref b3_39_14), .val (.int (1 : Int32)), .val (.int (1 : Int32)), .unset] [])) _
    refine XS.iconst X36.here hx rfl (hb hby at_275) ?_
    show Steps p.tables e below (T36.setTop (mkF m 276 #[.val (.long q1), .second, .val (.long q2), .second, .val (.long q3), .second, .val (.long q4), .second, .val (.ref b5), .val (.ref b3_39_14), .val (.int (1 : Int32)), .val (.int (1 : Int32)), .unset] [(.int (1 : Int32))])) _
    refine XS.goto X36.here hx rfl (pc0 := 276) (pc' := 280) rfl (hb hby at_276) (by decide) (by decide) ?_
    show Steps p.tables e below (T36.setTop (mkF m 280 #[.val (.long q1), .second, .val (.long q2), .second, .val (.long q3), .second, .val (.long q4), .second, .val (.ref b5), .val (.ref b3_39_14), .val (.int (1 : Int32)), .val (.int (1 : Int32)), .unset] [(.int (1 : Int32))])) _
    refine XS.istore X36.here hx rfl (hb hby at_280) rfl (l' := #[.val (.long q1), .second, .val (.long q2), .second, .val (.long q3), .second, .val (.long q4), .second, .val (.ref b5), .val (.ref b3_39_14), .val (.int (1 : Int32)), .val (.int (1 : Int32)), .val (.int (1 : Int32))]) rfl ?_
    show Steps p.tables e below (T36.setTop (mkF m 282 #[.val (.long q1), .second, .val (.long q2), .second, .val (.long q3), .second, .val (.long q4), .second, .val (.ref b5), .val (.ref b3_39_14), .val (.int (1 : Int32)), .val (.int (1 : Int32)), .val (.int (1 : Int32))] [])) _
    refine XS.iload X36.here hx rfl (hb hby at_282) rfl ?_
    show Steps p.tables e below (T36.setTop (mkF m 284 #[.val (.long q1), .second, .val (.long q2), .second, .val (.long q3), .second, .val (.long q4), .second, .val (.ref b5), .val (.ref b3_39_14), .val (.int (1 : Int32)), .val (.int (1 : Int32)), .val (.int (1 : Int32))] [(.int (1 : Int32))])) _
    refine XS.ifNo X36.here hx rfl (hb hby at_284) rfl ((if0 _ _).trans (feq (by decide : ¬ ((1 : Int32) = (0 : Int32)))).1) ?_
    show Steps p.tables e below (T36.setTop (mkF m 287 #[.val (.long q1), .second, .val (.long q2), .second, .val (.long q3), .second, .val (.long q4), .second, .val (.ref b5), .val (.ref b3_39_14), .val (.int (1 : Int32)), .val (.int (1 : Int32)), .val (.int (1 : Int32))] [])) _
    refine XS.iload X36.here hx rfl (hb hby at_287) rfl ?_
    show Steps p.tables e below (T36.setTop (mkF m 289 #[.val (.long q1), .second, .val (.long q2), .second, .val (.long q3), .second, .val (.long q4), .second, .val (.ref b5), .val (.ref b3_39_14), .val (.int (1 : Int32)), .val (.int (1 : Int32)), .val (.int (1 : Int32))] [(.int (1 : Int32))])) _
    refine XS.ifNo X36.here hx rfl (hb hby at_289) rfl ((if0 _ _).trans (feq (by decide : ¬ ((1 : Int32) = (0 : Int32)))).1) ?_
    show Steps p.tables e below (T36.setTop (mkF m 292 #[.val (.long q1), .second, .val (.long q2), .second, .val (.long q3), .second, .val (.long q4), .second, .val (.ref b5), .val (.ref b3_39_14), .val (.int (1 : Int32)), .val (.int (1 : Int32)), .val (.int (1 : Int32))] [])) _
    refine XS.iload X36.here hx rfl (hb hby at_292) rfl ?_
    show Steps p.tables e below (T36.setTop (mkF m 294 #[.val (.long q1), .second, .val (.long q2), .second, .val (.long q3), .second, .val (.long q4), .second, .val (.ref b5), .val (.ref b3_39_14), .val (.int (1 : Int32)), .val (.int (1 : Int32)), .val (.int (1 : Int32))] [(.int (1 : Int32))])) _
    refine XS.ifNo X36.here hx rfl (hb hby at_294) rfl ((if0 _ _).trans (feq (by decide : ¬ ((1 : Int32) = (0 : Int32)))).1) ?_
    show Steps p.tables e below (T36.setTop (mkF m 297 #[.val (.long q1), .second, .val (.long q2), .second, .val (.long q3), .second, .val (.long q4), .second, .val (.ref b5), .val (.ref b3_39_14), .val (.int (1 : Int32)), .val (.int (1 : Int32)), .val (.int (1 : Int32))] [])) _
    refine XS.iconst X36.here hx rfl (hb hby at_297) ?_
    show Steps p.tables e below (T36.setTop (mkF m 298 #[.val (.long q1), .second, .val (.long q2), .second, .val (.long q3), .second, .val (.long q4), .second, .val (.ref b5), .val (.ref b3_39_14), .val (.int (1 : Int32)), .val (.int (1 : Int32)), .val (.int (1 : Int32))] [(.int (1 : Int32))])) _
    refine XS.goto X36.here hx rfl (pc0 := 298) (pc' := 302) rfl (hb hby at_298) (by decide) (by decide) ?_
    show Steps p.tables e below (T36.setTop (mkF m 302 #[.val (.long q1), .second, .val (.long q2), .second, .val (.long q3), .second, .val (.long q4), .second, .val (.ref b5), .val (.ref b3_39_14), .val (.int (1 : Int32)), .val (.int (1 : Int32)), .val (.int (1 : Int32))] [(.int (1 : Int32))])) _
    exact retN X36 hx (t := .boolean) Bd.returns (by simp) (hb hby at_302) hr
  · exact ⟨rfl, N36⟩
set_option maxRecDepth 65536 in
set_option maxHeartbeats 40000000 in
theorem comes_1 {Post : Tables → Env → Array Value → State → Outcome → State → Prop} (hpost : ∀ tb e args s v u, (limb_1_1.after args s (.returned v) u = true ∧ limb_1_2.after args s (.returned v) u = true ∧ True) → FrameEnd s (.returned v) u (Jvm.fieldLocs frame_1_writes args s ++ Jvm.arrayLocs frame_1_arrays args s ++ Jvm.staticLocs frame_1_statics s) 16 256 → Post tb e args s (.returned v) u) :
    ArmFor flags0 classFile x code maxLocals ret World_1 tables_1 room_1 Calls_1 rest_1 Pre_1 Post := by
  intro l hfl _ _ p e ha hc hk s m args below hf hA hF happ hP
  obtain ⟨hcalls, hrest, hpre⟩ := hP
  obtain ⟨-, -, -, hnamed, -, -, -, hat⟩ := (Spec.applies_iff hf).mp happ
  obtain ⟨hg, hn⟩ := and_e (Cond.before_iff.mp (show (Jvm.Cond.and given_1 narrow_1).before args s = true from hpre))
  obtain ⟨g0, gr0⟩ := and_e hg
  obtain ⟨g1, gr1⟩ := and_e gr0
  obtain ⟨g2, gr2⟩ := and_e gr1
  obtain ⟨g3, gr3⟩ := and_e gr2
  obtain ⟨w0, w1, w2, w3, rfl⟩ : ∃ w0 w1 w2 w3 : Value, args = #[w0, w1, w2, w3] := by
    have hs : args.size = 4 := by simpa [Cond.value, given_1] using g0
    obtain ⟨L⟩ := args
    match L, hs with
    | [w0, w1, w2, w3], _ => exact ⟨w0, w1, w2, w3, rfl⟩
  have hw := fun d (hd : d ∈ tables_1) => atoms_spec (ws := Jvm.Cond.code x code maxLocals ret :: tables_1) hat d (List.mem_cons_of_mem _ hd)
  have hfit : Fit s := fun {y c} hc i hi => by
    obtain ⟨ha, rfl⟩ := Array.getElem?_eq_some_iff.mp hc
    have q := List.all_eq_true.mp ((Array.all_eq_true_iff_forall_mem.mp hF) _ (Array.getElem_mem ha)) i (List.mem_range.mpr hi)
    simpa [Array.getElem?_eq_getElem hi] using q
  obtain ⟨i0, ei0⟩ := isL_v g1
  obtain rfl : w0 = (.long i0) := Option.some.inj ei0
  obtain ⟨i1, ei1⟩ := isL_v g2
  obtain rfl : w1 = (.long i1) := Option.some.inj ei1
  obtain ⟨i2, ei2⟩ := isL_v g3
  obtain rfl : w2 = (.long i2) := Option.some.inj ei2
  obtain ⟨i3, ei3⟩ := isL_v gr3
  obtain rfl : w3 = (.long i3) := Option.some.inj ei3
  obtain ⟨c0, cr0⟩ := and_e hn
  obtain ⟨c1, cr1⟩ := and_e cr0
  obtain ⟨c2, cr2⟩ := and_e cr1
  obtain ⟨c3, cr3⟩ := and_e cr2
  obtain ⟨c4, cr4⟩ := and_e cr3
  obtain ⟨c5, cr5⟩ := and_e cr4
  obtain ⟨c6, cr6⟩ := and_e cr5
  obtain ⟨c7, cr7⟩ := and_e cr6
  obtain ⟨c8, cr8⟩ := and_e cr7
  obtain ⟨c9, cr9⟩ := and_e cr8
  obtain ⟨c10, cr10⟩ := and_e cr9
  obtain ⟨c11, cr11⟩ := and_e cr10
  obtain ⟨c12, cr12⟩ := and_e cr11
  obtain ⟨c13, cr13⟩ := and_e cr12
  obtain ⟨x_SUBJECT_PUBLIC_KEY_INFO_HEAD_0, ev_SUBJECT_PUBLIC_KEY_INFO_HEAD_0⟩ := exa_v c1
  have S_SUBJECT_PUBLIC_KEY_INFO_HEAD_0 := Sta.start ev_SUBJECT_PUBLIC_KEY_INFO_HEAD_0 (Or.inr ⟨(hw _ (List.mem_of_getElem? (i := 7) rfl)), (hw _ (List.mem_of_getElem? (i := 10) rfl))⟩)
  have E_SUBJECT_PUBLIC_KEY_INFO_HEAD_0 := Exa.start ev_SUBJECT_PUBLIC_KEY_INFO_HEAD_0 c1
  obtain ⟨ca_SUBJECT_PUBLIC_KEY_INFO_HEAD_0, Aa_SUBJECT_PUBLIC_KEY_INFO_HEAD_0⟩ := Arr.start ev_SUBJECT_PUBLIC_KEY_INFO_HEAD_0 c0
  obtain ⟨la_SUBJECT_PUBLIC_KEY_INFO_HEAD_0, lb_SUBJECT_PUBLIC_KEY_INFO_HEAD_0⟩ := own_len Aa_SUBJECT_PUBLIC_KEY_INFO_HEAD_0 ev_SUBJECT_PUBLIC_KEY_INFO_HEAD_0 c2
  have el_SUBJECT_PUBLIC_KEY_INFO_HEAD_0_0 := own_elem_int Aa_SUBJECT_PUBLIC_KEY_INFO_HEAD_0 ev_SUBJECT_PUBLIC_KEY_INFO_HEAD_0 c3 0 rfl
  have el_SUBJECT_PUBLIC_KEY_INFO_HEAD_0_1 := own_elem_int Aa_SUBJECT_PUBLIC_KEY_INFO_HEAD_0 ev_SUBJECT_PUBLIC_KEY_INFO_HEAD_0 c4 1 rfl
  have el_SUBJECT_PUBLIC_KEY_INFO_HEAD_0_2 := own_elem_int Aa_SUBJECT_PUBLIC_KEY_INFO_HEAD_0 ev_SUBJECT_PUBLIC_KEY_INFO_HEAD_0 c5 2 rfl
  have el_SUBJECT_PUBLIC_KEY_INFO_HEAD_0_3 := own_elem_int Aa_SUBJECT_PUBLIC_KEY_INFO_HEAD_0 ev_SUBJECT_PUBLIC_KEY_INFO_HEAD_0 c6 3 rfl
  have el_SUBJECT_PUBLIC_KEY_INFO_HEAD_0_4 := own_elem_int Aa_SUBJECT_PUBLIC_KEY_INFO_HEAD_0 ev_SUBJECT_PUBLIC_KEY_INFO_HEAD_0 c7 4 rfl
  have el_SUBJECT_PUBLIC_KEY_INFO_HEAD_0_5 := own_elem_int Aa_SUBJECT_PUBLIC_KEY_INFO_HEAD_0 ev_SUBJECT_PUBLIC_KEY_INFO_HEAD_0 c8 5 rfl
  have el_SUBJECT_PUBLIC_KEY_INFO_HEAD_0_6 := own_elem_int Aa_SUBJECT_PUBLIC_KEY_INFO_HEAD_0 ev_SUBJECT_PUBLIC_KEY_INFO_HEAD_0 c9 6 rfl
  have el_SUBJECT_PUBLIC_KEY_INFO_HEAD_0_7 := own_elem_int Aa_SUBJECT_PUBLIC_KEY_INFO_HEAD_0 ev_SUBJECT_PUBLIC_KEY_INFO_HEAD_0 c10 7 rfl
  have el_SUBJECT_PUBLIC_KEY_INFO_HEAD_0_8 := own_elem_int Aa_SUBJECT_PUBLIC_KEY_INFO_HEAD_0 ev_SUBJECT_PUBLIC_KEY_INFO_HEAD_0 c11 8 rfl
  have el_SUBJECT_PUBLIC_KEY_INFO_HEAD_0_9 := own_elem_int Aa_SUBJECT_PUBLIC_KEY_INFO_HEAD_0 ev_SUBJECT_PUBLIC_KEY_INFO_HEAD_0 c12 9 rfl
  have el_SUBJECT_PUBLIC_KEY_INFO_HEAD_0_10 := own_elem_int Aa_SUBJECT_PUBLIC_KEY_INFO_HEAD_0 ev_SUBJECT_PUBLIC_KEY_INFO_HEAD_0 c13 10 rfl
  have el_SUBJECT_PUBLIC_KEY_INFO_HEAD_0_11 := own_elem_int Aa_SUBJECT_PUBLIC_KEY_INFO_HEAD_0 ev_SUBJECT_PUBLIC_KEY_INFO_HEAD_0 cr13 11 rfl
  have V_SUBJECT_PUBLIC_KEY_INFO_HEAD_0 : Arv s s.heap x_SUBJECT_PUBLIC_KEY_INFO_HEAD_0 ca_SUBJECT_PUBLIC_KEY_INFO_HEAD_0.cls .byte (12 : Int32) [(.int (48 : Int32)), (.int (42 : Int32)), (.int (48 : Int32)), (.int (5 : Int32)), (.int (6 : Int32)), (.int (3 : Int32)), (.int (43 : Int32)), (.int (101 : Int32)), (.int (112 : Int32)), (.int (3 : Int32)), (.int (33 : Int32)), (.int (0 : Int32))] (.int (0 : Int32)) := Arv.start hfit Aa_SUBJECT_PUBLIC_KEY_INFO_HEAD_0 la_SUBJECT_PUBLIC_KEY_INFO_HEAD_0 lb_SUBJECT_PUBLIC_KEY_INFO_HEAD_0 (by decide) rfl ⟨el_SUBJECT_PUBLIC_KEY_INFO_HEAD_0_0, el_SUBJECT_PUBLIC_KEY_INFO_HEAD_0_1, el_SUBJECT_PUBLIC_KEY_INFO_HEAD_0_2, el_SUBJECT_PUBLIC_KEY_INFO_HEAD_0_3, el_SUBJECT_PUBLIC_KEY_INFO_HEAD_0_4, el_SUBJECT_PUBLIC_KEY_INFO_HEAD_0_5, el_SUBJECT_PUBLIC_KEY_INFO_HEAD_0_6, el_SUBJECT_PUBLIC_KEY_INFO_HEAD_0_7, el_SUBJECT_PUBLIC_KEY_INFO_HEAD_0_8, el_SUBJECT_PUBLIC_KEY_INFO_HEAD_0_9, el_SUBJECT_PUBLIC_KEY_INFO_HEAD_0_10, el_SUBJECT_PUBLIC_KEY_INFO_HEAD_0_11, trivial⟩
  have hM : MetFree l x (head1 (Jvm.Cond.code x code maxLocals ret :: tables_1) room_1) (fun a U => a = #[(.long i0), (.long i1), (.long i2), (.long i3)] ∧ s.Warmed39 U.vm ∧ U.heap = s.heap) (fun _ _ _ _ _ => True) (fun _ U o U' => ∃ v L, o = .returned v ∧ own_QT s.heap.size v L ∧ FrameEnd U o U' L room_1.cells room_1.slots) := by
    exact rm0_1 l s _ hw tables_1 i0 i1 i2 i3 x_SUBJECT_PUBLIC_KEY_INFO_HEAD_0 ca_SUBJECT_PUBLIC_KEY_INFO_HEAD_0.cls s.heap s.heap.size (Nat.le_refl _) V_SUBJECT_PUBLIC_KEY_INFO_HEAD_0 S_SUBJECT_PUBLIC_KEY_INFO_HEAD_0
  obtain ⟨n, o, h1, h2, h3, _, L, rfl, ⟨rfl, N⟩, hq⟩ := hM p e ha hc hk s m _ below hf ((Spec.applies_iff_loose hf).mp happ).1 ⟨rfl, State.Warmed39.refl s, rfl⟩ trivial
  refine ⟨n, _, h1, h2, h3, hpost _ _ _ _ _ _ ⟨Cond.after_iff.mpr rfl, Cond.after_iff.mpr (eq_i res_at (Term.int_eval (1)) rfl), trivial⟩ ⟨hq.1, hq.2.1, (hq.2.2.sift fun y hy => Or.inr (N y hy)).mono (by decide) (by decide)⟩⟩
theorem main_1_1 : Claimed_1_1 := comes_1 fun _ _ _ _ _ _ h hF => ⟨h.1, hF⟩
theorem main_1_2 : Claimed_1_2 := comes_1 fun _ _ _ _ _ _ h hF => ⟨h.2.1, hF⟩
end Jvm.Pilot.@@N@@
namespace Jvm.Pilot.@@N@@
open Jvm Jvm.ClassFile Sem Op Lib Jvm.Free Jvm.Stand Jvm.Pilot.@@N@@.Jvm.D
/-! MADE BY PROGRAM (witnessworld.py) out of the Statement's table words and the real class files: 12 classes; the members and pool entries that the words name. The judged class is class 1, her method 3. -/
namespace start1
open Jvm.ClassFile
def u (s : String) : CpInfo := .utf8 (stringToUtf16 s)
/-- a pool by its gaps: so many unusable entries, then the entry; so many at the end -/
def gap : Nat → List CpInfo → List CpInfo
  | 0, r => r
  | n + 1, r => .unusable :: gap n r
def poolList (es : List (Nat × CpInfo)) (last : Nat) : List CpInfo := es.foldr (fun e r => gap e.1 (e.2 :: r)) (gap last [])
def pool (es : List (Nat × CpInfo)) (last : Nat) : Array CpInfo := ⟨poolList es last⟩
def fileOf (pool : Array CpInfo) (this : Nat) (attrs : Array Attribute := #[]) (ms : Array MethodInfo := #[]) (fl : Nat := 33) (sup : Nat := 0) (ifs : Array Nat := #[]) (fds : Array FieldInfo := #[]) : ClassFile where
  minorVersion := 0
  majorVersion := 65
  constantPool := pool
  accessFlags := fl
  thisClass := this
  superClass := sup
  interfaces := ifs
  fields := fds
  methods := ms
  attributes := attrs
def plain (name : String) (sup : Option ClassId) : Class where
  name := name
  kind := .ordinary
  loader := none
  accessFlags := 33
  super := sup
  interfaces := #[]
  cf := none
  fields := #[]
  methods := #[]
  instanceTypes := #[]
  staticTypes := #[]
  resolved := #[]
  callSites := []
  init := .initialized
  statics := none
  mirror := none

def pool0 : Array CpInfo := pool [(5, u "<init>"), (0, u "()V"), (1, .class_ 10), (1, u "java/lang/Object")] 113

def k0m0 : Method := { name := "<init>", desc := "()V", sig := { parameters := [], returnType := none }, accessFlags := 1, code := none }
/-- java/lang/Object -/
def k0 : Class := { plain "java/lang/Object" none with
  accessFlags := 33
  interfaces := #[]
  cf := some (fileOf pool0 8 #[] #[{ accessFlags := 1, nameIndex := 5, descriptorIndex := 6, attributes := #[] }] 33 0 #[] #[])
  fields := #[]
  methods := #[k0m0]
  instanceTypes := #[]
  staticTypes := #[]
  resolved := Array.replicate 124 none
  statics := none }

def pool1 : Array CpInfo := pool [(2, .class_ 4), (1, u "java/lang/Object"), (0, u "<init>"), (0, u "()V"), (0, .methodref 8 9), (0, .class_ 10), (0, .nameAndType 11 12), (0, u "com/example/lasting_names/lastingnames/Ed25519SubjectPublicKeyInfoPinLaw"), (0, u "put"), (0, u "([BIJ)V"), (0, .methodref 14 15), (0, .class_ 16), (0, .nameAndType 17 18), (0, u "com/example/lasting_names/lastingnames/Ed25519"), (0, u "subjectPublicKeyInfo"), (0, u "([B)[B"), (0, .methodref 8 20), (0, .nameAndType 21 22), (0, u "same"), (0, u "([BIJ)Z"), (3, u "law"), (0, u "(JJJJ)Z")] 4

def k1m0 : Method := { name := "<init>", desc := "()V", sig := { parameters := [], returnType := none }, accessFlags := 2, code := none }
def k1c1 : Code := { maxStack := 5, maxLocals := 4, code := method_2_code, exceptionTable := #[], attributes := #[] }
def k1m1 : Method := { name := "put", desc := "([BIJ)V", sig := { parameters := [(.array .byte), .int, .long], returnType := none }, accessFlags := 10, code := some k1c1 }
def k1c2 : Code := { maxStack := 4, maxLocals := 4, code := method_3_code, exceptionTable := #[], attributes := #[] }
def k1m2 : Method := { name := "same", desc := "([BIJ)Z", sig := { parameters := [(.array .byte), .int, .long], returnType := some .boolean }, accessFlags := 10, code := some k1c2 }
def k1c3 : Code := { maxStack := 4, maxLocals := 13, code := code, exceptionTable := #[], attributes := #[] }
def k1m3 : Method := { name := "law", desc := "(JJJJ)Z", sig := { parameters := [.long, .long, .long, .long], returnType := some .boolean }, accessFlags := 9, code := some k1c3 }
/-- com/example/lasting_names/lastingnames/Ed25519SubjectPublicKeyInfoPinLaw -/
def k1 : Class := { plain "com/example/lasting_names/lastingnames/Ed25519SubjectPublicKeyInfoPinLaw" (some 0) with
  accessFlags := 49
  interfaces := #[]
  cf := some (fileOf pool1 8 #[] #[{ accessFlags := 2, nameIndex := 5, descriptorIndex := 6, attributes := #[] }, { accessFlags := 10, nameIndex := 11, descriptorIndex := 12, attributes := #[] }, { accessFlags := 10, nameIndex := 21, descriptorIndex := 22, attributes := #[] }, { accessFlags := 9, nameIndex := 26, descriptorIndex := 27, attributes := #[] }] 49 2 #[] #[])
  fields := #[]
  methods := #[k1m0, k1m1, k1m2, k1m3]
  instanceTypes := #[]
  staticTypes := #[]
  resolved := Array.replicate 32 none
  statics := none }

def pool2 : Array CpInfo := pool [(2, .class_ 4), (1, u "java/lang/Object"), (0, u "<init>"), (0, u "()V"), (0, .class_ 8), (0, u "com/example/lasting_names/lastingnames/Ed25519"), (28, .fieldref 7 38), (0, .nameAndType 39 40), (0, u "SUBJECT_PUBLIC_KEY_INFO_HEAD"), (0, u "[B"), (0, .methodref 42 43), (0, .class_ 44), (0, .nameAndType 45 46), (0, u "java/util/Arrays"), (0, u "copyOf"), (0, u "([BI)[B"), (0, .methodref 48 49), (0, .class_ 50), (0, .nameAndType 51 52), (0, u "java/lang/System"), (0, u "arraycopy"), (0, u "(Ljava/lang/Object;ILjava/lang/Object;II)V"), (21, u "ALGORITHM"), (0, u "Ljava/lang/String;"), (1, u "PUBLIC_KEY_BYTES"), (0, u "I"), (8, u "subjectPublicKeyInfo"), (0, u "([B)[B")] 4

def k2m0 : Method := { name := "<init>", desc := "()V", sig := { parameters := [], returnType := none }, accessFlags := 2, code := none }
def k2c1 : Code := { maxStack := 5, maxLocals := 2, code := prog_12_method_5_code, exceptionTable := #[], attributes := #[] }
def k2m1 : Method := { name := "subjectPublicKeyInfo", desc := "([B)[B", sig := { parameters := [(.array .byte)], returnType := some (.array .byte) }, accessFlags := 8, code := some k2c1 }
/-- com/example/lasting_names/lastingnames/Ed25519 -/
def k2 : Class := { plain "com/example/lasting_names/lastingnames/Ed25519" (some 0) with
  accessFlags := 32
  interfaces := #[]
  cf := some (fileOf pool2 7 #[] #[{ accessFlags := 2, nameIndex := 5, descriptorIndex := 6, attributes := #[] }, { accessFlags := 8, nameIndex := 87, descriptorIndex := 88, attributes := #[] }] 32 2 #[] #[{ accessFlags := 26, nameIndex := 74, descriptorIndex := 75, attributes := #[] }, { accessFlags := 24, nameIndex := 77, descriptorIndex := 78, attributes := #[] }, { accessFlags := 26, nameIndex := 39, descriptorIndex := 40, attributes := #[] }])
  fields := #[{ name := "ALGORITHM", type := (.object "java/lang/String"), accessFlags := 26, slot := 0, constantValue := 0 }, { name := "PUBLIC_KEY_BYTES", type := .int, accessFlags := 24, slot := 1, constantValue := 0 }, { name := "SUBJECT_PUBLIC_KEY_INFO_HEAD", type := (.array .byte), accessFlags := 26, slot := 2, constantValue := 0 }]
  methods := #[k2m0, k2m1]
  instanceTypes := #[]
  staticTypes := #[(.object "java/lang/String"), .int, (.array .byte)]
  resolved := Array.replicate 93 none
  statics := some 0 }

def pool3 : Array CpInfo := pool [(2, .class_ 4), (1, u "java/lang/Object"), (0, u "<init>"), (0, u "()V"), (7, .class_ 16), (1, u "java/util/Arrays"), (57, .class_ 76), (1, u "java/util/Arrays$NaturalOrder"), (36, .class_ 115), (1, u "java/util/Arrays$LegacyMergeSort"), (1, u "Z"), (32, .methodref 151 152), (0, .class_ 153), (0, .nameAndType 154 155), (0, u "java/lang/System"), (0, u "arraycopy"), (0, u "(Ljava/lang/Object;ILjava/lang/Object;II)V"), (146, u "copyOf"), (1, .methodref 305 306), (0, .class_ 307), (0, .nameAndType 308 309), (0, u "java/lang/Math"), (0, u "min"), (0, u "(II)I"), (65, .class_ 376), (0, u "java/util/Arrays$ArrayList"), (68, u "$assertionsDisabled"), (269, u "MIN_ARRAY_SORT_GRAN"), (0, u "I"), (2, u "INSERTIONSORT_THRESHOLD"), (149, u "([BI)[B"), (105, .class_ 976), (0, u "java/util/Arrays$ArrayItr")] 52

def k3m0 : Method := { name := "<init>", desc := "()V", sig := { parameters := [], returnType := none }, accessFlags := 2, code := none }
def k3c1 : Code := { maxStack := 6, maxLocals := 3, code := jdk_65_method_121_code, exceptionTable := #[], attributes := #[] }
def k3m1 : Method := { name := "copyOf", desc := "([BI)[B", sig := { parameters := [(.array .byte), .int], returnType := some (.array .byte) }, accessFlags := 9, code := some k3c1 }
/-- java/util/Arrays -/
def k3 : Class := { plain "java/util/Arrays" (some 0) with
  accessFlags := 49
  interfaces := #[]
  cf := some (fileOf pool3 14 #[.nestMembers #[975, 375, 113, 74]] #[{ accessFlags := 2, nameIndex := 5, descriptorIndex := 6, attributes := #[] }, { accessFlags := 9, nameIndex := 302, descriptorIndex := 869, attributes := #[] }] 49 2 #[] #[{ accessFlags := 26, nameIndex := 715, descriptorIndex := 716, attributes := #[] }, { accessFlags := 26, nameIndex := 719, descriptorIndex := 716, attributes := #[] }, { accessFlags := 4120, nameIndex := 445, descriptorIndex := 117, attributes := #[] }])
  fields := #[{ name := "MIN_ARRAY_SORT_GRAN", type := .int, accessFlags := 26, slot := 0, constantValue := 0 }, { name := "INSERTIONSORT_THRESHOLD", type := .int, accessFlags := 26, slot := 1, constantValue := 0 }, { name := "$assertionsDisabled", type := .boolean, accessFlags := 4120, slot := 2, constantValue := 0 }]
  methods := #[k3m0, k3m1]
  instanceTypes := #[]
  staticTypes := #[.int, .int, .boolean]
  resolved := Array.replicate 1029 none
  statics := none }

def pool4 : Array CpInfo := pool [(1, .class_ 2), (0, u "java/lang/Math"), (1, .class_ 6), (1, u "java/lang/Object"), (0, u "<init>"), (0, u "()V"), (89, .class_ 100), (1, u "java/lang/Math$RandomNumberGeneratorHolder"), (71, u "negativeZeroFloatBits"), (0, u "J"), (2, u "negativeZeroDoubleBits"), (24, u "min"), (43, u "$assertionsDisabled"), (0, u "Z"), (88, u "(II)I"), (2, u "twoToTheDoubleScaleDown"), (0, u "D"), (4, u "twoToTheDoubleScaleUp"), (9, u "E"), (3, u "PI"), (2, u "TAU"), (2, u "DEGREES_TO_RADIANS"), (0, u "RADIANS_TO_DEGREES")] 94

def k4m0 : Method := { name := "<init>", desc := "()V", sig := { parameters := [], returnType := none }, accessFlags := 2, code := none }
def k4c1 : Code := { maxStack := 2, maxLocals := 2, code := jdk_29_method_69_code, exceptionTable := #[], attributes := #[] }
def k4m1 : Method := { name := "min", desc := "(II)I", sig := { parameters := [.int, .int], returnType := some .int }, accessFlags := 9, code := some k4c1 }
/-- java/lang/Math -/
def k4 : Class := { plain "java/lang/Math" (some 0) with
  accessFlags := 49
  interfaces := #[]
  cf := some (fileOf pool4 1 #[.nestMembers #[98]] #[{ accessFlags := 2, nameIndex := 7, descriptorIndex := 8, attributes := #[] }, { accessFlags := 9, nameIndex := 201, descriptorIndex := 335, attributes := #[] }] 49 4 #[] #[{ accessFlags := 25, nameIndex := 354, descriptorIndex := 339, attributes := #[] }, { accessFlags := 25, nameIndex := 358, descriptorIndex := 339, attributes := #[] }, { accessFlags := 25, nameIndex := 361, descriptorIndex := 339, attributes := #[] }, { accessFlags := 26, nameIndex := 364, descriptorIndex := 339, attributes := #[] }, { accessFlags := 26, nameIndex := 365, descriptorIndex := 339, attributes := #[] }, { accessFlags := 26, nameIndex := 172, descriptorIndex := 173, attributes := #[] }, { accessFlags := 26, nameIndex := 176, descriptorIndex := 173, attributes := #[] }, { accessFlags := 8, nameIndex := 344, descriptorIndex := 339, attributes := #[] }, { accessFlags := 8, nameIndex := 338, descriptorIndex := 339, attributes := #[] }, { accessFlags := 4120, nameIndex := 245, descriptorIndex := 246, attributes := #[] }])
  fields := #[{ name := "E", type := .double, accessFlags := 25, slot := 0, constantValue := 0 }, { name := "PI", type := .double, accessFlags := 25, slot := 1, constantValue := 0 }, { name := "TAU", type := .double, accessFlags := 25, slot := 2, constantValue := 0 }, { name := "DEGREES_TO_RADIANS", type := .double, accessFlags := 26, slot := 3, constantValue := 0 }, { name := "RADIANS_TO_DEGREES", type := .double, accessFlags := 26, slot := 4, constantValue := 0 }, { name := "negativeZeroFloatBits", type := .long, accessFlags := 26, slot := 5, constantValue := 0 }, { name := "negativeZeroDoubleBits", type := .long, accessFlags := 26, slot := 6, constantValue := 0 }, { name := "twoToTheDoubleScaleUp", type := .double, accessFlags := 8, slot := 7, constantValue := 0 }, { name := "twoToTheDoubleScaleDown", type := .double, accessFlags := 8, slot := 8, constantValue := 0 }, { name := "$assertionsDisabled", type := .boolean, accessFlags := 4120, slot := 9, constantValue := 0 }]
  methods := #[k4m0, k4m1]
  instanceTypes := #[]
  staticTypes := #[.double, .double, .double, .double, .double, .long, .long, .double, .double, .boolean]
  resolved := Array.replicate 460 none
  statics := none }

def pool5 : Array CpInfo := pool [(2, .class_ 4), (1, u "java/lang/Object"), (0, u "<init>"), (0, u "()V"), (1, .class_ 10), (1, u "java/lang/System"), (0, u "allowSecurityManager"), (0, u "I"), (16, u "cons"), (0, u "Ljava/io/Console;"), (77, .class_ 110), (1, u "java/lang/System$CallersHolder"), (43, u "initialErrStream"), (0, u "Ljava/io/PrintStream;"), (19, u "security"), (0, u "Ljava/lang/SecurityManager;"), (31, .class_ 209), (0, u "java/lang/System$1"), (7, u "props"), (0, u "Ljava/util/Properties;"), (2, u "lineSeparator"), (0, u "Ljava/lang/String;"), (96, .class_ 321), (1, u "java/lang/System$LoggerFinder"), (5, .class_ 328), (0, u "java/lang/System$Logger"), (67, u "err"), (2, u "out"), (91, u "notSupportedJnuEncoding"), (15, u "in"), (17, u "initialIn"), (0, u "Ljava/io/InputStream;"), (35, u "bootLayer"), (0, u "Ljava/lang/ModuleLayer;"), (99, .class_ 664), (0, u "java/lang/System$2"), (9, u "NEVER"), (2, u "MAYBE"), (49, u "arraycopy"), (0, u "(Ljava/lang/Object;ILjava/lang/Object;II)V"), (72, .class_ 802), (0, u "java/lang/System$Logger$Level")] 31

def k5m0 : Method := { name := "<init>", desc := "()V", sig := { parameters := [], returnType := none }, accessFlags := 2, code := none }
def k5m1 : Method := { name := "arraycopy", desc := "(Ljava/lang/Object;ILjava/lang/Object;II)V", sig := { parameters := [(.object "java/lang/Object"), .int, (.object "java/lang/Object"), .int, .int], returnType := none }, accessFlags := 265, code := none }
/-- java/lang/System -/
def k5 : Class := { plain "java/lang/System" (some 0) with
  accessFlags := 49
  interfaces := #[]
  cf := some (fileOf pool5 8 #[.nestMembers #[319, 327, 801, 108, 663, 208]] #[{ accessFlags := 2, nameIndex := 5, descriptorIndex := 6, attributes := #[] }, { accessFlags := 265, nameIndex := 727, descriptorIndex := 728, attributes := #[] }] 49 2 #[] #[{ accessFlags := 25, nameIndex := 507, descriptorIndex := 526, attributes := #[] }, { accessFlags := 25, nameIndex := 399, descriptorIndex := 155, attributes := #[] }, { accessFlags := 25, nameIndex := 396, descriptorIndex := 155, attributes := #[] }, { accessFlags := 10, nameIndex := 525, descriptorIndex := 526, attributes := #[] }, { accessFlags := 26, nameIndex := 674, descriptorIndex := 12, attributes := #[] }, { accessFlags := 26, nameIndex := 677, descriptorIndex := 12, attributes := #[] }, { accessFlags := 10, nameIndex := 11, descriptorIndex := 12, attributes := #[] }, { accessFlags := 74, nameIndex := 175, descriptorIndex := 176, attributes := #[] }, { accessFlags := 10, nameIndex := 491, descriptorIndex := 222, attributes := #[] }, { accessFlags := 74, nameIndex := 29, descriptorIndex := 30, attributes := #[] }, { accessFlags := 74, nameIndex := 154, descriptorIndex := 155, attributes := #[] }, { accessFlags := 10, nameIndex := 217, descriptorIndex := 218, attributes := #[] }, { accessFlags := 10, nameIndex := 221, descriptorIndex := 222, attributes := #[] }, { accessFlags := 8, nameIndex := 562, descriptorIndex := 563, attributes := #[] }])
  fields := #[{ name := "in", type := (.object "java/io/InputStream"), accessFlags := 25, slot := 0, constantValue := 0 }, { name := "out", type := (.object "java/io/PrintStream"), accessFlags := 25, slot := 1, constantValue := 0 }, { name := "err", type := (.object "java/io/PrintStream"), accessFlags := 25, slot := 2, constantValue := 0 }, { name := "initialIn", type := (.object "java/io/InputStream"), accessFlags := 10, slot := 3, constantValue := 0 }, { name := "NEVER", type := .int, accessFlags := 26, slot := 4, constantValue := 0 }, { name := "MAYBE", type := .int, accessFlags := 26, slot := 5, constantValue := 0 }, { name := "allowSecurityManager", type := .int, accessFlags := 10, slot := 6, constantValue := 0 }, { name := "security", type := (.object "java/lang/SecurityManager"), accessFlags := 74, slot := 7, constantValue := 0 }, { name := "notSupportedJnuEncoding", type := (.object "java/lang/String"), accessFlags := 10, slot := 8, constantValue := 0 }, { name := "cons", type := (.object "java/io/Console"), accessFlags := 74, slot := 9, constantValue := 0 }, { name := "initialErrStream", type := (.object "java/io/PrintStream"), accessFlags := 74, slot := 10, constantValue := 0 }, { name := "props", type := (.object "java/util/Properties"), accessFlags := 10, slot := 11, constantValue := 0 }, { name := "lineSeparator", type := (.object "java/lang/String"), accessFlags := 10, slot := 12, constantValue := 0 }, { name := "bootLayer", type := (.object "java/lang/ModuleLayer"), accessFlags := 8, slot := 13, constantValue := 0 }]
  methods := #[k5m0, k5m1]
  instanceTypes := #[]
  staticTypes := #[(.object "java/io/InputStream"), (.object "java/io/PrintStream"), (.object "java/io/PrintStream"), (.object "java/io/InputStream"), .int, .int, .int, (.object "java/lang/SecurityManager"), (.object "java/lang/String"), (.object "java/io/Console"), (.object "java/io/PrintStream"), (.object "java/util/Properties"), (.object "java/lang/String"), (.object "java/lang/ModuleLayer")]
  resolved := Array.replicate 834 none
  statics := none }

def pool6 : Array CpInfo := pool [(1, u "java/lang/Cloneable"), (0, .class_ 1), (0, u "java/lang/Object"), (0, .class_ 3)] 3

/-- java/lang/Cloneable -/
def k6 : Class := { plain "java/lang/Cloneable" (some 0) with
  accessFlags := 1537
  interfaces := #[]
  cf := some (fileOf pool6 2 #[] #[] 1537 4 #[] #[])
  fields := #[]
  methods := #[]
  instanceTypes := #[]
  staticTypes := #[]
  resolved := Array.replicate 8 none
  statics := none }

def pool7 : Array CpInfo := pool [(1, u "java/io/Serializable"), (0, .class_ 1), (0, u "java/lang/Object"), (0, .class_ 3)] 3

/-- java/io/Serializable -/
def k7 : Class := { plain "java/io/Serializable" (some 0) with
  accessFlags := 1537
  interfaces := #[]
  cf := some (fileOf pool7 2 #[] #[] 1537 4 #[] #[])
  fields := #[]
  methods := #[]
  instanceTypes := #[]
  staticTypes := #[]
  resolved := Array.replicate 8 none
  statics := none }

/-- the primitive byte -/
def k8 : Class := { plain "byte" none with kind := .primitive 'B', accessFlags := 0x411 }
/-- [B -/
def k9 : Class := { plain "[B" (some 0) with kind := .array 8 .byte, interfaces := #[6, 7], accessFlags := 1041 }

/-- the primitive int -/
def k10 : Class := { plain "int" none with kind := .primitive 'I', accessFlags := 0x411 }
/-- [I -/
def k11 : Class := { plain "[I" (some 0) with kind := .array 10 .int, interfaces := #[6, 7], accessFlags := 1041 }

def heap : Heap := #[{ cls := 2, slots := #[.null, .int 0, .ref 1], vm := .statics 2 },
  { cls := 9, slots := #[.int 48, .int 42, .int 48, .int 5, .int 6, .int 3, .int 43, .int 101, .int 112, .int 3, .int 33, .int 0], vm := .none }]
def classes : Array Class := #[k0, k1, k2, k3, k4, k5, k6, k7, k8, k9, k10, k11]
def interned : List (Array UInt16 × Addr) := []
def slotsUsed : Nat := 15
def theMethod : MethodId := ⟨1, 3⟩
def args0 : Array Value := #[.long 1, .long 2, .long 3, .long 4]
def aboutOver (below : List Frame) : State where
  vm := { classes := classes, interned := interned.toArray }
  heap := heap
  slotsUsed := slotsUsed
  threads := #[{ frames := .invoking theMethod args0 :: below }]
def below0 : List Frame := [.native { method := ⟨0, 0⟩, args := #[] }]
def about1 : State := aboutOver below0
def p0 : Program := .bare "" "" ""
def e0 : Env := launch0.env 0 0 0
theorem w_frames : about1.frames = Frame.invoking theMethod args0 :: below0 := rfl
set_option maxRecDepth 65536 in
theorem w_args : argsFit about1.vm theMethod args0 = true := by decide +kernel
set_option maxRecDepth 65536 in
theorem w_heap : heapFits about1 = true := by decide +kernel
set_option maxRecDepth 65536 in
theorem w_runnable : about1.curStatus? = some .runnable := by decide +kernel
set_option maxRecDepth 65536 in
theorem w_alone : about1.alone = true := by decide +kernel
set_option maxRecDepth 65536 in
theorem w_named : about1.methodNamed? x = some theMethod := by decide +kernel
set_option maxRecDepth 65536 in
theorem w_hears : about1.hears theMethod below0 = true := by decide +kernel
set_option maxRecDepth 65536 in
theorem w_ripe : about1.ripe theMethod args0 below0 = true := by decide +kernel
theorem w_running : about1.status = .running := rfl
set_option maxRecDepth 65536 in
theorem w_room : about1.hasRoom e0.platform room_1 = true :=
  launch0.hasRoom_least _ room_1 (by decide +kernel) (by decide +kernel) (by decide +kernel) (by decide +kernel) (by decide +kernel) (by decide +kernel)
theorem allAtoms_all (ts : List Jvm.Cond) (a : Array Jvm.Value) (st : Jvm.State) : (allAtoms ts).before a st = ts.all (fun c => c.before a st) := by
  induction ts with
  | nil => rfl
  | cons c t ih =>
    show (Jvm.Cond.and c (allAtoms t)).before a st = _
    rw [Jvm.Cond.before_and, ih, List.all_cons]
def words1 : List Jvm.Cond := Jvm.Cond.code x code maxLocals ret :: tables_1
/-- a 'code' word, met by the world's own term for the bytes: nothing is compared byte by byte -/
theorem code_word {y : MethodName} {bytes : ByteArray} {mx : Nat} {rt : Option FieldType} {a : Array Value} {s : State} {m : MethodId} {meth : Method} {c : Code} (h1 : s.methodNamed? y = some m) (h2 : s.vm.method? m = some meth) (h3 : meth.code = some c) (h4 : c.code = bytes)
    (h5 : (c.maxLocals == mx && c.exceptionTable.isEmpty && decide (c.maxStack ≤ mostOperands) && decide (meth.sig.returnType = rt) && !meth.locks && decide (parseMethodDescriptor y.desc = some meth.sig)) = true) : (Jvm.Cond.code y bytes mx rt).before a s = true := by
  simp only [Bool.and_eq_true, beq_iff_eq, Bool.not_eq_true', decide_eq_true_eq] at h5
  obtain ⟨⟨⟨⟨⟨g1, g2⟩, g3⟩, g4⟩, g5⟩, g6⟩ := h5
  simp [Cond.before, Cond.holds, Cond.value, h1, h2, h3, h4, g1, g2, g3, g4, g5, g6]
def isCode : Jvm.Cond → Bool
  | .code _ _ _ _ => true
  | _ => false
theorem all_split {L : List Jvm.Cond} {P : Jvm.Cond → Bool} (h1 : L.all (fun c => isCode c || P c) = true) (h2 : ∀ c ∈ L.filter isCode, P c = true) : L.all P = true := by
  refine List.all_eq_true.mpr fun c hc => ?_
  have h := List.all_eq_true.mp h1 c hc
  rcases Bool.eq_false_or_eq_true (isCode c) with hi | hi
  · exact h2 c (List.mem_filter.mpr ⟨hc, hi⟩)
  · simpa [hi] using h
set_option maxRecDepth 65536 in
theorem w_c0 : (Jvm.Cond.code x code maxLocals ret).before args0 about1 = true := code_word (m := ⟨1, 3⟩) (meth := k1m3) (c := k1c3) (by decide +kernel) rfl rfl rfl (by decide +kernel)
set_option maxRecDepth 65536 in
theorem w_c1 : (Jvm.Cond.code ({ cls := "com/example/lasting_names/lastingnames/Ed25519SubjectPublicKeyInfoPinLaw", name := "put", desc := "([BIJ)V" } : Jvm.MethodName) method_2_code (4 : Nat) (Option.none : Option Jvm.ClassFile.FieldType)).before args0 about1 = true := code_word (m := ⟨1, 1⟩) (meth := k1m1) (c := k1c1) (by decide +kernel) rfl rfl rfl (by decide +kernel)
set_option maxRecDepth 65536 in
theorem w_c2 : (Jvm.Cond.code ({ cls := "com/example/lasting_names/lastingnames/Ed25519", name := "subjectPublicKeyInfo", desc := "([B)[B" } : Jvm.MethodName) prog_12_method_5_code (2 : Nat) (Option.some (Jvm.ClassFile.FieldType.array Jvm.ClassFile.FieldType.byte))).before args0 about1 = true := code_word (m := ⟨2, 1⟩) (meth := k2m1) (c := k2c1) (by decide +kernel) rfl rfl rfl (by decide +kernel)
set_option maxRecDepth 65536 in
theorem w_c3 : (Jvm.Cond.code ({ cls := "java/util/Arrays", name := "copyOf", desc := "([BI)[B" } : Jvm.MethodName) jdk_65_method_121_code (3 : Nat) (Option.some (Jvm.ClassFile.FieldType.array Jvm.ClassFile.FieldType.byte))).before args0 about1 = true := code_word (m := ⟨3, 1⟩) (meth := k3m1) (c := k3c1) (by decide +kernel) rfl rfl rfl (by decide +kernel)
set_option maxRecDepth 65536 in
theorem w_c4 : (Jvm.Cond.code ({ cls := "java/lang/Math", name := "min", desc := "(II)I" } : Jvm.MethodName) jdk_29_method_69_code (2 : Nat) (Option.some Jvm.ClassFile.FieldType.int)).before args0 about1 = true := code_word (m := ⟨4, 1⟩) (meth := k4m1) (c := k4c1) (by decide +kernel) rfl rfl rfl (by decide +kernel)
set_option maxRecDepth 65536 in
theorem w_c5 : (Jvm.Cond.code ({ cls := "com/example/lasting_names/lastingnames/Ed25519SubjectPublicKeyInfoPinLaw", name := "same", desc := "([BIJ)Z" } : Jvm.MethodName) method_3_code (4 : Nat) (Option.some Jvm.ClassFile.FieldType.boolean)).before args0 about1 = true := code_word (m := ⟨1, 2⟩) (meth := k1m2) (c := k1c2) (by decide +kernel) rfl rfl rfl (by decide +kernel)
def codes1 : List Jvm.Cond := [Jvm.Cond.code x code maxLocals ret, Jvm.Cond.code ({ cls := "com/example/lasting_names/lastingnames/Ed25519SubjectPublicKeyInfoPinLaw", name := "put", desc := "([BIJ)V" } : Jvm.MethodName) method_2_code (4 : Nat) (Option.none : Option Jvm.ClassFile.FieldType), Jvm.Cond.code ({ cls := "com/example/lasting_names/lastingnames/Ed25519", name := "subjectPublicKeyInfo", desc := "([B)[B" } : Jvm.MethodName) prog_12_method_5_code (2 : Nat) (Option.some (Jvm.ClassFile.FieldType.array Jvm.ClassFile.FieldType.byte)), Jvm.Cond.code ({ cls := "java/util/Arrays", name := "copyOf", desc := "([BI)[B" } : Jvm.MethodName) jdk_65_method_121_code (3 : Nat) (Option.some (Jvm.ClassFile.FieldType.array Jvm.ClassFile.FieldType.byte)), Jvm.Cond.code ({ cls := "java/lang/Math", name := "min", desc := "(II)I" } : Jvm.MethodName) jdk_29_method_69_code (2 : Nat) (Option.some Jvm.ClassFile.FieldType.int), Jvm.Cond.code ({ cls := "com/example/lasting_names/lastingnames/Ed25519SubjectPublicKeyInfoPinLaw", name := "same", desc := "([BIJ)Z" } : Jvm.MethodName) method_3_code (4 : Nat) (Option.some Jvm.ClassFile.FieldType.boolean)]
set_option maxRecDepth 65536 in
theorem codes_eq : words1.filter isCode = codes1 := rfl
theorem w_codes : ∀ c ∈ words1.filter isCode, c.before args0 about1 = true := by
  rw [codes_eq]
  intro c hc
  simp only [codes1, List.mem_cons, List.not_mem_nil, or_false] at hc
  rcases hc with rfl | rfl | rfl | rfl | rfl | rfl
  · exact w_c0
  · exact w_c1
  · exact w_c2
  · exact w_c3
  · exact w_c4
  · exact w_c5
set_option maxRecDepth 65536 in
theorem w_t1 : (words1.take 24).all (fun c => isCode c || c.before args0 about1) = true := by decide +kernel
set_option maxRecDepth 65536 in
theorem w_t2 : (words1.drop 24).all (fun c => isCode c || c.before args0 about1) = true := by decide +kernel
theorem w_tables : (allAtoms (Jvm.Cond.code x code maxLocals ret :: tables_1)).before args0 about1 = true := by
  rw [allAtoms_all]
  show words1.all (fun c => c.before args0 about1) = true
  refine all_split ?_ w_codes
  rw [← List.take_append_drop 24 words1, List.all_append, w_t1, w_t2]
  rfl
set_option maxRecDepth 65536 in
theorem w_case : (Jvm.Cond.and given_1 narrow_1).before args0 about1 = true := by decide +kernel
theorem w_applies : (headSpec (Jvm.Cond.code x code maxLocals ret :: tables_1) room_1).applies x e0.platform about1 = true :=
  (Spec.applies_iff w_frames).mpr ⟨w_running, w_runnable, w_alone, w_named, w_hears, w_ripe, w_room, w_tables⟩
theorem atStart : AtStart classFile x code maxLocals ret World_1 tables_1 room_1 Calls_1 rest_1 Pre_1 launch0 p0 e0 about1 theMethod args0 below0 :=
  ⟨lists_1, trivial, launch0.admits_env _ _ _, launch0.least_env, fairChoices_fair.cas, fairChoices_fair.clock, w_frames, w_args, w_heap, w_applies, trivial, trivial, w_case⟩
end start1
theorem witness_1 : WitnessClaimed_1 := ⟨start1.p0, start1.e0, start1.about1, start1.theMethod, start1.args0, start1.below0, start1.atStart⟩
end Jvm.Pilot.@@N@@
