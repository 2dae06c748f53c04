import JvmDerived
import JvmDerived.Pilot.@@N@@Statement
import JvmDerived.Pilot.@@N@@Code
set_option linter.unusedVariables false
set_option linter.unusedSimpArgs false
namespace Jvm.RoadKit
open Sem ClassFile Op Lib Jvm.Stand Jvm.Free Jvm.LawKit
section New
variable {p : Program} {l : Launch} {e : Env} {R : Room} {s : State} {m : MethodId} {args : Array Value} {below : List Frame} {meth : Method} {c : Code} {T : State} {locs : List Loc} {cells slots : Nat}
theorem retI (X : Stand p l e R s m args below meth c T locs cells slots) (hx : p.tables.exec = Jvm.exec) {pc : Nat} {Ls : Array Slot} {z : Int32} {rest : List Value} (hret : meth.sig.returnType = some .int) (hd : decode c.code pc = .ok (.ireturn, 1)) {fs : List Frame}
    (hl : ∀ (f : JFrame) (acts : List Action), f.method = m → f.locked = none → f.entered = [] → (doReturn e (T.setTop f) acts (some (.int z))).1 = T.setFrames fs) : Steps p.tables e below (T.setTop (mkF m pc Ls (.int z :: rest))) (T.setFrames fs) := by
  have hm' : T.vm.method? m = some meth := X.method'
  have hn : narrow .int (.int z) = .int z := rfl
  show Steps p.tables e below (T.setTop { method := m, pc := pc, locals := Ls, stack := _ :: rest, locked := none }) _
  jvm_step X.here [X.here.top, hx, hd, hm', hret, hn]
  first | (intro acts; rw [hl _ acts rfl rfl rfl]) | rw [hl _ _ rfl rfl rfl]
  exact Steps.refl _
theorem own_retD (X : Stand p l e R s m args below meth c T locs cells slots) (hx : p.tables.exec = Jvm.exec) {pc : Nat} {Ls : Array Slot} {z : UInt64} {rest : List Value} (hret : meth.sig.returnType = some .double) (hd : decode c.code pc = .ok (.dreturn, 1)) {fs : List Frame}
    (hl : ∀ (f : JFrame) (acts : List Action), f.method = m → f.locked = none → f.entered = [] → (doReturn e (T.setTop f) acts (some (.double z))).1 = T.setFrames fs) : Steps p.tables e below (T.setTop (mkF m pc Ls (.double z :: rest))) (T.setFrames fs) := by
  have hm' : T.vm.method? m = some meth := X.method'
  show Steps p.tables e below (T.setTop { method := m, pc := pc, locals := Ls, stack := _ :: rest, locked := none }) _
  jvm_step X.here [X.here.top, hx, hd, hm', hret, narrow]
  first | (intro acts; rw [hl _ acts rfl rfl rfl]) | rw [hl _ _ rfl rfl rfl]
  exact Steps.refl _
end New
end Jvm.RoadKit
namespace Jvm.Pilot.@@N@@
open Jvm Jvm.ClassFile Sem Op Lib Jvm.Free Jvm.Stand Jvm.LawKit Jvm.RoadKit Bundle Jvm.Pilot.@@N@@.Jvm.D
def QV (Z : State) (u : Value) (h0 : Heap) (n0 : Nat) (v : Option Value) (h : Heap) (L : List Loc) : Prop := v = some u ∧ Fr n0 L ∧ h = h0
theorem own_pos {z n : Int32} (h : ¬ z < 0) (h2 : z < n) : ¬ n < (0 : Int32) := by
  rw [Int32.lt_iff_toInt_lt] at *
  have e0 : (0 : Int32).toInt = 0 := by decide
  omega
theorem own_sub1 {z : Int32} (h : (0 : Int32) < z) : (z - (1 : Int32)).toInt = z.toInt - 1 := by
  rw [Int32.lt_iff_toInt_lt] at h
  have e0 : (0 : Int32).toInt = 0 := by decide
  have e1 : (1 : Int32).toInt = 1 := by decide
  have h2 := Int32.toInt_lt z
  rw [Int32.toInt_sub, e1, Int.bmod_def]; split <;> omega
theorem own_last {z : Int32} (h : (0 : Int32) < z) : ¬ (z - (1 : Int32)) < (0 : Int32) ∧ (z - (1 : Int32)) < z := by
  have h1 := own_sub1 h
  rw [Int32.lt_iff_toInt_lt] at h
  rw [Int32.lt_iff_toInt_lt, Int32.lt_iff_toInt_lt]
  have e0 : (0 : Int32).toInt = 0 := by decide
  omega
theorem own_lastn {z : Int32} (h : (0 : Int32) < z) : (z - (1 : Int32)).toNatClampNeg < z.toNatClampNeg := by
  have h1 := own_sub1 h
  rw [Int32.lt_iff_toInt_lt] at h
  have e0 : (0 : Int32).toInt = 0 := by decide
  show (z - (1 : Int32)).toInt.toNat < z.toInt.toNat
  omega
theorem own_lenrep {z : Int32} (h : (0 : Int32) < z) (d : Value) : (z - (1 : Int32)).toNatClampNeg < (([] : List Value) ++ List.replicate z.toNatClampNeg d).length := by
  simpa using own_lastn h
theorem own_get {z : Int32} (h : (0 : Int32) < z) (d x : Value) : ((([] : List Value) ++ List.replicate z.toNatClampNeg d).set (z - (1 : Int32)).toNatClampNeg x).getD (z - (1 : Int32)).toNatClampNeg d = x := by
  have h1 := own_lenrep h d
  rw [List.getD_eq_getElem?_getD, List.getElem?_set_self h1]; rfl
theorem own_mod (x : Int32) : (x % (64 : Int32)).toNatClampNeg ≤ 63 := by
  show (x % (64 : Int32)).toInt.toNat ≤ 63
  have h := c_irem x 64 64 (by decide)
  by_cases q : 0 ≤ x.toInt
  · rw [h.1 q]; omega
  · rw [h.2 (by omega)]; omega
theorem d1_0 : decode prog_48_method_1_code 0 = .ok (.aload_n 0, 1) := by decide +kernel
theorem d1_1 : decode prog_48_method_1_code 1 = .ok (.invokespecial 1, 3) := by decide +kernel
theorem d1_4 : decode prog_48_method_1_code 4 = .ok (.aload_n 0, 1) := by decide +kernel
theorem d1_5 : decode prog_48_method_1_code 5 = .ok (.iconst 0, 1) := by decide +kernel
theorem d1_6 : decode prog_48_method_1_code 6 = .ok (.newarray .double, 2) := by decide +kernel
theorem d1_8 : decode prog_48_method_1_code 8 = .ok (.putfield 7, 3) := by decide +kernel
theorem d1_11 : decode prog_48_method_1_code 11 = .ok (.return_, 1) := by decide +kernel
theorem pn_1 : plainName "com/example/understory/understory/sim/ColumnEvaluator$Buffer" = true := by first | (simp [plainName, overriddenIn]; done) | decide +kernel
theorem ef_1 (m : MethodId) (x0 : Addr) : entryFrame m #[(.ref x0)] 1 = mkF m 0 #[.val (.ref x0)] [] := by first | (simp [entryFrame, mkF, argsToLocals, Value.category]; done) | rfl
def Q1 (Z : State) (a1 : Addr) (u_values_a1 : Value) (nb : Addr) (h0 : Heap) (n0 : Nat) (v : Option Value) (h : Heap) (L : List Loc) : Prop := v = none ∧ Fr n0 L ∧ Keep h0 h [a1] ∧ Exa Z h a1 "com/example/understory/understory/sim/ColumnEvaluator$Buffer" ∧ Fld Z h a1 "com/example/understory/understory/sim/ColumnEvaluator$Buffer" "values" "[D" (.ref nb) ∧ ∃ k : ClassId, Arv Z h nb k .double (0 : Int32) [] (.double 0)
set_option maxRecDepth 65536 in
set_option maxHeartbeats 40000000 in
theorem rm1 (l : Launch) (Z : State) (a0 : Array Value) (hw : ∀ d ∈ tables_1, d.before a0 Z = true) (ws : List Jvm.Cond) (a1 : Addr) (u_values_a1 : Value) (nb : Addr) (h0 : Heap) (n0 : Nat) (Z0 : n0 ≤ h0.size) (E_a1 : Exa Z h0 a1 "com/example/understory/understory/sim/ColumnEvaluator$Buffer") (F_values_a1 : Fld Z h0 a1 "com/example/understory/understory/sim/ColumnEvaluator$Buffer" "values" "[D" u_values_a1) (g_a1 : n0 ≤ a1) (gnb : nb = h0.size) :
    MetFree l (⟨"com/example/understory/understory/sim/ColumnEvaluator$Buffer", "<init>", "()V"⟩ : MethodName) (head1 (Jvm.Cond.code (⟨"com/example/understory/understory/sim/ColumnEvaluator$Buffer", "<init>", "()V"⟩ : MethodName) prog_48_method_1_code 1 none :: ws) ({ frames := 1, cells := 1, slots := 0, locals := 12 } : Room)) (fun a U => a = #[(.ref a1)] ∧ Z.Warmed39 U.vm ∧ U.heap = h0) (fun _ _ _ _ _ => True) (fun _ U o U' => ∃ v L, o = .returned v ∧ Q1 Z a1 u_values_a1 nb h0 n0 v U'.heap L ∧ FrameEnd U o U' L ({ frames := 1, cells := 1, slots := 0, locals := 12 } : Room).cells ({ frames := 1, cells := 1, slots := 0, locals := 12 } : Room).slots) := by
  refine MetFree.of_bodySF (plainFor_of_name pn_1) hisR ?_
  intro p e s m args below meth c s₁ Bd hml0 hP hK
  obtain ⟨rfl, hZ, hh⟩ := hP
  have hx := Bd.exec
  have hby := Bd.bytes
  have hml : c.maxLocals = 1 := hml0
  have hown : s.vm.findClass "com/example/understory/understory/sim/ColumnEvaluator$Buffer" = some m.cls := findClass_of_methodNamed Bd.named
  have hnm := (name_of_methodNamed Bd.named Bd.method).1
  have X0 : Stand p l e ({ frames := 1, cells := 1, slots := 0, locals := 12 } : Room) s m #[(.ref a1)] below meth c s₁ [] 0 0 := Stand.of_body Bd
  have e0 : s₁.heap = h0 := by rw [← hh, Bd.state]; rfl
  have N0 := Fr.nil n0
  have pre0 : ∀ t, Steps p.tables e below (s₁.setTop (mkF m 0 #[.val (.ref a1)] [])) t → Steps p.tables e below (s₁.setTop (entryFrame m #[(.ref a1)] 1)) t := fun t k => castTop (ef_1 m a1) k
  obtain ⟨T2, X2, e2, st2⟩ := initO X0 hx hZ hown (hw _ (List.mem_of_getElem? (i := 6) rfl)) (hw _ (List.mem_of_getElem? (i := 7) rfl)) (hw _ (List.mem_of_getElem? (i := 8) rfl)) e0 (g := (mkF m 1 #[.val (.ref a1)] [(.ref a1)])) rfl (by rw [hml]; rfl) rfl (hb hby d1_1) (by decide) (W := 0) (by show 2 * 0 + _ ≤ _; exact Nat.le_of_eq rfl) (by decide)
  obtain ⟨T3, h3, k3, X3, e3, E3, A3, st3⟩ := newP X2 hx hZ (hw _ (List.mem_of_getElem? (i := 9) rfl)) e2 (g := (mkF m 6 #[.val (.ref a1)] [(.int (0 : Int32)), (.ref a1)])) rfl (hb hby d1_6) rfl (by decide) (cap := 0) (by decide) (by decide) (by decide) (by decide)
  have g3 := gnb
  rw [← g3] at A3 st3
  have V_nb := Arv.new A3 (by decide)
  have g_b3 : n0 ≤ nb := Nat.le_trans Z0 (Nat.le_of_eq g3.symm)
  have sz_b3 : h0.size ≤ nb := (Nat.le_trans (Keep.refl h0 [a1]).1 (Nat.le_of_eq g3.symm))
  have K3 : Keep h0 h3 [a1] := (Keep.refl h0 [a1]).ext E3
  obtain ⟨T4, h4, X4, e4, W4, st4⟩ := putF X3 hx hZ hown (host := "") (Or.inl (hw _ (List.mem_of_getElem? (i := 10) rfl))) Via.refl e3 (F_values_a1.ext E3) (E_a1.ext E3) (Or.inl (hw _ (List.mem_of_getElem? (i := 11) rfl))) (hw _ (List.mem_of_getElem? (i := 1) rfl)) (ty := (.array .double)) (by decide) rfl rfl (g := (mkF m 8 #[.val (.ref a1)] [(.ref nb), (.ref a1)])) rfl rfl (hb hby d1_8)
  have Fw4 := (F_values_a1.ext E3).same W4
  have K4 : Keep h0 h4 [a1] := K3.wr W4 (Or.inl (List.mem_of_getElem? (i := 0) rfl))
  have N4 := Fr.snoc X4 N0 g_a1
  obtain ⟨fs, hr, hrun, hended, hW, hsame⟩ := X4.leave (v := none) (fun _ => rfl)
  refine ⟨_, _, pre0 _ ?_, hrun, hended, _, _, rfl, ?_, ⟨_, rfl⟩, hW, hsame.mono (by decide) (by decide)⟩
  · show Steps p.tables e below (s₁.setTop (mkF m 0 #[.val (.ref a1)] [])) _
    refine XS.aloadN X0.here hx rfl (hb hby d1_0) rfl rfl ?_
    show Steps p.tables e below (s₁.setTop (mkF m 1 #[.val (.ref a1)] [(.ref a1)])) _
    refine st2 _ ?_
    show Steps p.tables e below (T2.setTop (mkF m 4 #[.val (.ref a1)] [])) _
    refine XS.aloadN X2.here hx rfl (hb hby d1_4) rfl rfl ?_
    show Steps p.tables e below (T2.setTop (mkF m 5 #[.val (.ref a1)] [(.ref a1)])) _
    refine XS.iconst X2.here hx rfl (hb hby d1_5) ?_
    show Steps p.tables e below (T2.setTop (mkF m 6 #[.val (.ref a1)] [(.int (0 : Int32)), (.ref a1)])) _
    refine st3 _ ?_
    show Steps p.tables e below (T3.setTop (mkF m 8 #[.val (.ref a1)] [(.ref nb), (.ref a1)])) _
    refine st4 _ ?_
    show Steps p.tables e below (T4.setTop (mkF m 11 #[.val (.ref a1)] [])) _
    exact X4.returnOut hx Bd.returns (hb hby d1_11) hr
  · show Q1 Z a1 u_values_a1 nb h0 n0 _ T4.heap _
    rw [e4]
    exact ⟨rfl, N4, K4, ((E_a1.ext E3).wr W4), Fw4, k3, V_nb.other W4 (Nat.ne_of_gt (Nat.lt_of_lt_of_le E_a1.lt (Nat.le_of_eq gnb.symm)))⟩
theorem d3_0 : decode prog_48_method_2_code 0 = .ok (.aload_n 0, 1) := by decide +kernel
theorem d3_1 : decode prog_48_method_2_code 1 = .ok (.getfield 7, 3) := by decide +kernel
theorem d3_4 : decode prog_48_method_2_code 4 = .ok (.arraylength, 1) := by decide +kernel
theorem d3_5 : decode prog_48_method_2_code 5 = .ok (.iload_n 1, 1) := by decide +kernel
theorem d3_6 : decode prog_48_method_2_code 6 = .ok (.if_icmp .ge 10, 3) := by decide +kernel
theorem d3_16 : decode prog_48_method_2_code 16 = .ok (.aload_n 0, 1) := by decide +kernel
theorem d3_17 : decode prog_48_method_2_code 17 = .ok (.getfield 7, 3) := by decide +kernel
theorem d3_20 : decode prog_48_method_2_code 20 = .ok (.areturn, 1) := by decide +kernel
theorem pn_3 : plainName "com/example/understory/understory/sim/ColumnEvaluator$Buffer" = true := by first | (simp [plainName, overriddenIn]; done) | decide +kernel
theorem ef_3 (m : MethodId) (x0 : Addr) (x1 : Int32) : entryFrame m #[(.ref x0), (.int x1)] 2 = mkF m 0 #[.val (.ref x0), .val (.int x1)] [] := by first | (simp [entryFrame, mkF, argsToLocals, Value.category]; done) | rfl
set_option maxRecDepth 65536 in
set_option maxHeartbeats 40000000 in
theorem rm3T (l : Launch) (Z : State) (a0 : Array Value) (hw : ∀ d ∈ tables_1, d.before a0 Z = true) (ws : List Jvm.Cond) (a1 : Addr) (p2 : Int32) (w3 : Addr) (kA : ClassId) (z_w3 : Int32) (vsA : List Value) (dA : Value) (h0 : Heap) (n0 : Nat) (Z0 : n0 ≤ h0.size) (F_values_a1 : Fld Z h0 a1 "com/example/understory/understory/sim/ColumnEvaluator$Buffer" "values" "[D" (.ref w3)) (V_w3 : Arv Z h0 w3 kA .double z_w3 vsA dA) (hc6 : ¬ (z_w3 < p2)) :
    MetFree l (⟨"com/example/understory/understory/sim/ColumnEvaluator$Buffer", "of", "(I)[D"⟩ : MethodName) (head1 (Jvm.Cond.code (⟨"com/example/understory/understory/sim/ColumnEvaluator$Buffer", "of", "(I)[D"⟩ : MethodName) prog_48_method_2_code 2 (some (.array .double)) :: ws) ({ frames := 0, cells := 0, slots := 0, locals := 0 } : Room)) (fun a U => a = #[(.ref a1), (.int p2)] ∧ Z.Warmed39 U.vm ∧ U.heap = h0) (fun _ _ _ _ _ => True) (fun _ U o U' => ∃ v L, o = .returned v ∧ QV Z (.ref w3) h0 n0 v U'.heap L ∧ FrameEnd U o U' L ({ frames := 0, cells := 0, slots := 0, locals := 0 } : Room).cells ({ frames := 0, cells := 0, slots := 0, locals := 0 } : Room).slots) := by
  refine MetFree.of_bodySF (plainFor_of_name pn_3) hisR ?_
  intro p e s m args below meth c s₁ Bd hml0 hP hK
  obtain ⟨rfl, hZ, hh⟩ := hP
  have hx := Bd.exec
  have hby := Bd.bytes
  have hml : c.maxLocals = 2 := hml0
  have hown : s.vm.findClass "com/example/understory/understory/sim/ColumnEvaluator$Buffer" = some m.cls := findClass_of_methodNamed Bd.named
  have hnm := (name_of_methodNamed Bd.named Bd.method).1
  have X0 : Stand p l e ({ frames := 0, cells := 0, slots := 0, locals := 0 } : Room) s m #[(.ref a1), (.int p2)] below meth c s₁ [] 0 0 := Stand.of_body Bd
  have e0 : s₁.heap = h0 := by rw [← hh, Bd.state]; rfl
  have N0 := Fr.nil n0
  have pre0 : ∀ t, Steps p.tables e below (s₁.setTop (mkF m 0 #[.val (.ref a1), .val (.int p2)] [])) t → Steps p.tables e below (s₁.setTop (entryFrame m #[(.ref a1), (.int p2)] 2)) t := fun t k => castTop (ef_3 m a1 p2) k
  obtain ⟨cl_w3, Ar_w3, -, S_w3, N_w3, -, -⟩ := V_w3
  obtain ⟨T4, X4, e4, st4⟩ := getF X0 hx hZ hown (host := "") (Or.inl (hw _ (List.mem_of_getElem? (i := 10) rfl))) Via.refl e0 F_values_a1 (g := (mkF m 1 #[.val (.ref a1), .val (.int p2)] [(.ref a1)])) rfl rfl (hb hby d3_1)
  obtain ⟨T5, X5, e5, st5⟩ := getF X4 hx hZ hown (host := "") (Or.inl (hw _ (List.mem_of_getElem? (i := 10) rfl))) Via.refl e4 F_values_a1 (g := (mkF m 17 #[.val (.ref a1), .val (.int p2)] [(.ref a1)])) rfl rfl (hb hby d3_17)
  obtain ⟨fs, hr, hrun, hended, hW, hsame⟩ := X5.leave (v := some (.ref w3)) (fun h => by rw [Bd.returns] at h; cases h)
  refine ⟨_, _, pre0 _ ?_, hrun, hended, _, _, rfl, ?_, ⟨_, rfl⟩, hW, hsame.mono (by decide) (by decide)⟩
  · show Steps p.tables e below (s₁.setTop (mkF m 0 #[.val (.ref a1), .val (.int p2)] [])) _
    refine XS.aloadN X0.here hx rfl (hb hby d3_0) rfl rfl ?_
    show Steps p.tables e below (s₁.setTop (mkF m 1 #[.val (.ref a1), .val (.int p2)] [(.ref a1)])) _
    refine st4 _ ?_
    show Steps p.tables e below (T4.setTop (mkF m 4 #[.val (.ref a1), .val (.int p2)] [(.ref w3)])) _
    refine X4.arraylength hx (by rw [e4]; exact Ar_w3.1) (State.isArrayOf_alike hZ.alike Ar_w3.2.1) (g := (mkF m 4 #[.val (.ref a1), .val (.int p2)] [(.ref w3)])) rfl rfl (hb hby d3_4) _ ?_
    rw [len_of S_w3 N_w3]
    show Steps p.tables e below (T4.setTop (mkF m 5 #[.val (.ref a1), .val (.int p2)] [(.int z_w3)])) _
    refine XS.iloadN X4.here hx rfl (hb hby d3_5) rfl ?_
    show Steps p.tables e below (T4.setTop (mkF m 6 #[.val (.ref a1), .val (.int p2)] [(.int p2), (.int z_w3)])) _
    refine XS.icmpYes X4.here hx rfl (pc0 := 6) (pc' := 16) rfl (hb hby d3_6) rfl (flt hc6).2.1 (by decide) (by decide) ?_
    show Steps p.tables e below (T4.setTop (mkF m 16 #[.val (.ref a1), .val (.int p2)] [])) _
    refine XS.aloadN X4.here hx rfl (hb hby d3_16) rfl rfl ?_
    show Steps p.tables e below (T4.setTop (mkF m 17 #[.val (.ref a1), .val (.int p2)] [(.ref a1)])) _
    refine st5 _ ?_
    show Steps p.tables e below (T5.setTop (mkF m 20 #[.val (.ref a1), .val (.int p2)] [(.ref w3)])) _
    jvm_step X5.here [X5.here.top, hx, (hb hby d3_20), X5.method', Bd.returns, Value.isRef, FieldType.isReference]
    first | (intro acts; rw [hr _ acts rfl rfl rfl]) | rw [hr _ _ rfl rfl rfl]
    exact Steps.refl _
  · show QV Z (.ref w3) h0 n0 _ T5.heap _
    rw [e5]
    exact ⟨rfl, N0, rfl⟩
def Q3F (Z : State) (a1 : Addr) (p2 : Int32) (nb : Addr) (h0 : Heap) (n0 : Nat) (v : Option Value) (h : Heap) (L : List Loc) : Prop := v = some (.ref nb) ∧ Fr n0 L ∧ Keep h0 h [a1] ∧ Exa Z h a1 "com/example/understory/understory/sim/ColumnEvaluator$Buffer" ∧ Fld Z h a1 "com/example/understory/understory/sim/ColumnEvaluator$Buffer" "values" "[D" (.ref nb) ∧ ∃ k : ClassId, Arv Z h nb k .double p2 [] (.double 0)
theorem d3_9 : decode prog_48_method_2_code 9 = .ok (.aload_n 0, 1) := by decide +kernel
theorem d3_10 : decode prog_48_method_2_code 10 = .ok (.iload_n 1, 1) := by decide +kernel
theorem d3_11 : decode prog_48_method_2_code 11 = .ok (.newarray .double, 2) := by decide +kernel
theorem d3_13 : decode prog_48_method_2_code 13 = .ok (.putfield 7, 3) := by decide +kernel
set_option maxRecDepth 65536 in
set_option maxHeartbeats 40000000 in
theorem rm3F (l : Launch) (Z : State) (a0 : Array Value) (hw : ∀ d ∈ tables_1, d.before a0 Z = true) (ws : List Jvm.Cond) (a1 : Addr) (p2 : Int32) (w3 : Addr) (kA : ClassId) (z_w3 : Int32) (vsA : List Value) (dA : Value) (nb : Addr) (h0 : Heap) (n0 : Nat) (Z0 : n0 ≤ h0.size) (F_values_a1 : Fld Z h0 a1 "com/example/understory/understory/sim/ColumnEvaluator$Buffer" "values" "[D" (.ref w3)) (V_w3 : Arv Z h0 w3 kA .double z_w3 vsA dA) (E_a1 : Exa Z h0 a1 "com/example/understory/understory/sim/ColumnEvaluator$Buffer") (g_a1 : n0 ≤ a1) (hc6 : z_w3 < p2) (gnb : nb = h0.size) (hcap : p2.toNatClampNeg ≤ 63) :
    MetFree l (⟨"com/example/understory/understory/sim/ColumnEvaluator$Buffer", "of", "(I)[D"⟩ : MethodName) (head1 (Jvm.Cond.code (⟨"com/example/understory/understory/sim/ColumnEvaluator$Buffer", "of", "(I)[D"⟩ : MethodName) prog_48_method_2_code 2 (some (.array .double)) :: ws) ({ frames := 0, cells := 1, slots := 63, locals := 0 } : Room)) (fun a U => a = #[(.ref a1), (.int p2)] ∧ Z.Warmed39 U.vm ∧ U.heap = h0) (fun _ _ _ _ _ => True) (fun _ U o U' => ∃ v L, o = .returned v ∧ Q3F Z a1 p2 nb h0 n0 v U'.heap L ∧ FrameEnd U o U' L ({ frames := 0, cells := 1, slots := 63, locals := 0 } : Room).cells ({ frames := 0, cells := 1, slots := 63, locals := 0 } : Room).slots) := by
  refine MetFree.of_bodySF (plainFor_of_name pn_3) hisR ?_
  intro p e s m args below meth c s₁ Bd hml0 hP hK
  obtain ⟨rfl, hZ, hh⟩ := hP
  have hx := Bd.exec
  have hby := Bd.bytes
  have hml : c.maxLocals = 2 := hml0
  have hown : s.vm.findClass "com/example/understory/understory/sim/ColumnEvaluator$Buffer" = some m.cls := findClass_of_methodNamed Bd.named
  have hnm := (name_of_methodNamed Bd.named Bd.method).1
  have X0 : Stand p l e ({ frames := 0, cells := 1, slots := 63, locals := 0 } : Room) s m #[(.ref a1), (.int p2)] below meth c s₁ [] 0 0 := Stand.of_body Bd
  have e0 : s₁.heap = h0 := by rw [← hh, Bd.state]; rfl
  have N0 := Fr.nil n0
  have pre0 : ∀ t, Steps p.tables e below (s₁.setTop (mkF m 0 #[.val (.ref a1), .val (.int p2)] [])) t → Steps p.tables e below (s₁.setTop (entryFrame m #[(.ref a1), (.int p2)] 2)) t := fun t k => castTop (ef_3 m a1 p2) k
  obtain ⟨cl_w3, Ar_w3, -, S_w3, N_w3, -, -⟩ := V_w3
  obtain ⟨T4, X4, e4, st4⟩ := getF X0 hx hZ hown (host := "") (Or.inl (hw _ (List.mem_of_getElem? (i := 10) rfl))) Via.refl e0 F_values_a1 (g := (mkF m 1 #[.val (.ref a1), .val (.int p2)] [(.ref a1)])) rfl rfl (hb hby d3_1)
  obtain ⟨T5, h5, k5, X5, e5, E5, A5, st5⟩ := newP X4 hx hZ (hw _ (List.mem_of_getElem? (i := 9) rfl)) e4 (g := (mkF m 11 #[.val (.ref a1), .val (.int p2)] [(.int p2), (.ref a1)])) rfl (hb hby d3_11) rfl (own_pos N_w3 hc6) (cap := 63) hcap (by decide) (by decide) (by decide)
  have g5 := gnb
  rw [← g5] at A5 st5
  have V_nb := Arv.new A5 (own_pos N_w3 hc6)
  have g_nb : n0 ≤ nb := Nat.le_trans Z0 (Nat.le_of_eq g5.symm)
  have sz_b5 : h0.size ≤ nb := (Nat.le_trans (Keep.refl h0 [a1]).1 (Nat.le_of_eq g5.symm))
  have K5 : Keep h0 h5 [a1] := (Keep.refl h0 [a1]).ext E5
  obtain ⟨T6, h6, X6, e6, W6, st6⟩ := putF X5 hx hZ hown (host := "") (Or.inl (hw _ (List.mem_of_getElem? (i := 10) rfl))) Via.refl e5 (F_values_a1.ext E5) (E_a1.ext E5) (Or.inl (hw _ (List.mem_of_getElem? (i := 11) rfl))) (hw _ (List.mem_of_getElem? (i := 1) rfl)) (ty := (.array .double)) (by decide) rfl rfl (g := (mkF m 13 #[.val (.ref a1), .val (.int p2)] [(.ref nb), (.ref a1)])) rfl rfl (hb hby d3_13)
  have Fw6 := (F_values_a1.ext E5).same W6
  have K6 : Keep h0 h6 [a1] := K5.wr W6 (Or.inl (List.mem_of_getElem? (i := 0) rfl))
  have N6 := Fr.snoc X6 N0 g_a1
  obtain ⟨T7, X7, e7, st7⟩ := getF X6 hx hZ hown (host := "") (Or.inl (hw _ (List.mem_of_getElem? (i := 10) rfl))) Via.refl e6 Fw6 (g := (mkF m 17 #[.val (.ref a1), .val (.int p2)] [(.ref a1)])) rfl rfl (hb hby d3_17)
  obtain ⟨fs, hr, hrun, hended, hW, hsame⟩ := X7.leave (v := some (.ref nb)) (fun h => by rw [Bd.returns] at h; cases h)
  refine ⟨_, _, pre0 _ ?_, hrun, hended, _, _, rfl, ?_, ⟨_, rfl⟩, hW, hsame.mono (by decide) (by decide)⟩
  · show Steps p.tables e below (s₁.setTop (mkF m 0 #[.val (.ref a1), .val (.int p2)] [])) _
    refine XS.aloadN X0.here hx rfl (hb hby d3_0) rfl rfl ?_
    show Steps p.tables e below (s₁.setTop (mkF m 1 #[.val (.ref a1), .val (.int p2)] [(.ref a1)])) _
    refine st4 _ ?_
    show Steps p.tables e below (T4.setTop (mkF m 4 #[.val (.ref a1), .val (.int p2)] [(.ref w3)])) _
    refine X4.arraylength hx (by rw [e4]; exact Ar_w3.1) (State.isArrayOf_alike hZ.alike Ar_w3.2.1) (g := (mkF m 4 #[.val (.ref a1), .val (.int p2)] [(.ref w3)])) rfl rfl (hb hby d3_4) _ ?_
    rw [len_of S_w3 N_w3]
    show Steps p.tables e below (T4.setTop (mkF m 5 #[.val (.ref a1), .val (.int p2)] [(.int z_w3)])) _
    refine XS.iloadN X4.here hx rfl (hb hby d3_5) rfl ?_
    show Steps p.tables e below (T4.setTop (mkF m 6 #[.val (.ref a1), .val (.int p2)] [(.int p2), (.int z_w3)])) _
    refine XS.icmpNo X4.here hx rfl (hb hby d3_6) rfl (tlt hc6).2.1 ?_
    show Steps p.tables e below (T4.setTop (mkF m 9 #[.val (.ref a1), .val (.int p2)] [])) _
    refine XS.aloadN X4.here hx rfl (hb hby d3_9) rfl rfl ?_
    show Steps p.tables e below (T4.setTop (mkF m 10 #[.val (.ref a1), .val (.int p2)] [(.ref a1)])) _
    refine XS.iloadN X4.here hx rfl (hb hby d3_10) rfl ?_
    show Steps p.tables e below (T4.setTop (mkF m 11 #[.val (.ref a1), .val (.int p2)] [(.int p2), (.ref a1)])) _
    refine st5 _ ?_
    show Steps p.tables e below (T5.setTop (mkF m 13 #[.val (.ref a1), .val (.int p2)] [(.ref nb), (.ref a1)])) _
    refine st6 _ ?_
    show Steps p.tables e below (T6.setTop (mkF m 16 #[.val (.ref a1), .val (.int p2)] [])) _
    refine XS.aloadN X6.here hx rfl (hb hby d3_16) rfl rfl ?_
    show Steps p.tables e below (T6.setTop (mkF m 17 #[.val (.ref a1), .val (.int p2)] [(.ref a1)])) _
    refine st7 _ ?_
    show Steps p.tables e below (T7.setTop (mkF m 20 #[.val (.ref a1), .val (.int p2)] [(.ref nb)])) _
    jvm_step X7.here [X7.here.top, hx, (hb hby d3_20), X7.method', Bd.returns, Value.isRef, FieldType.isReference]
    first | (intro acts; rw [hr _ acts rfl rfl rfl]) | rw [hr _ _ rfl rfl rfl]
    exact Steps.refl _
  · show Q3F Z a1 p2 nb h0 n0 _ T7.heap _
    rw [e7]
    exact ⟨rfl, N6, K6, ((E_a1.ext E5).wr W6), Fw6, k5, V_nb.other W6 (Nat.ne_of_gt (Nat.lt_of_lt_of_le E_a1.lt (Nat.le_of_eq gnb.symm)))⟩
theorem pn_0 : plainName "com/example/understory/understory/sim/BufferOfPinLaw" = true := by first | (simp [plainName, overriddenIn]; done) | decide +kernel
theorem pd_0_0 : parseMethodDescriptor "()V" = some ⟨[], none⟩ := by decide +kernel
theorem pd_0_1 : parseMethodDescriptor "(I)[D" = some ⟨[.int], some (.array .double)⟩ := by decide +kernel
theorem ef_0 (m : MethodId) (x0 : Int32) (x1 : Int32) (x2 : Int32) (x3 : Int32) : entryFrame m #[(.int x0), (.int x1), (.int x2), (.int x3)] maxLocals = mkF m 0 #[.val (.int x0), .val (.int x1), .val (.int x2), .val (.int x3), .unset, .unset, .unset, .unset, .unset, .unset, .unset, .unset, .unset, .unset] [] := by first | (simp [entryFrame, mkF, argsToLocals, Value.category, maxLocals]; done) | rfl
def Q0 (Z : State) (p1 : Int32) (p2 : Int32) (p3 : Int32) (p4 : Int32) (h0 : Heap) (n0 : Nat) (v : Option Value) (h : Heap) (L : List Loc) : Prop := v = some (.int (1 : Int32)) ∧ Fr n0 L
set_option maxRecDepth 65536 in
set_option maxHeartbeats 40000000 in
theorem rm0_111 (l : Launch) (Z : State) (a0 : Array Value) (hw : ∀ d ∈ tables_1, d.before a0 Z = true) (ws : List Jvm.Cond) (p1 : Int32) (p2 : Int32) (p3 : Int32) (p4 : Int32) (h0 : Heap) (n0 : Nat) (Z0 : n0 ≤ h0.size) (ho39 : (0 : Int32) < (p1 % (64 : Int32))) (ho86 : (p1 % (64 : Int32)) < (p2 % (64 : Int32))) (ho169 : (p2 % (64 : Int32)) < (p3 % (64 : Int32))) (hc56 : ¬ ((p1 % (64 : Int32)) < (p1 % (64 : Int32)))) (hc69 : (0 : Int32) < (p1 % (64 : Int32))) (hc100 : ¬ ((1 : Int32) = (0 : Int32))) (hc108 : ¬ ((p2 % (64 : Int32)) < (p2 % (64 : Int32)))) (hc123 : (p1 % (64 : Int32)) < (p2 % (64 : Int32))) (hc183 : ¬ ((1 : Int32) = (0 : Int32))) (hc191 : ¬ ((p3 % (64 : Int32)) < (p3 % (64 : Int32)))) (hc206 : (p2 % (64 : Int32)) < (p3 % (64 : Int32))) :
    MetFree l x (head1 (Jvm.Cond.code x code maxLocals ret :: ws) room_1) (fun a U => a = #[(.int p1), (.int p2), (.int p3), (.int p4)] ∧ Z.Warmed39 U.vm ∧ U.heap = h0) (fun _ _ _ _ _ => True) (fun _ U o U' => ∃ v L, o = .returned v ∧ Q0 Z p1 p2 p3 p4 h0 n0 v U'.heap L ∧ FrameEnd U o U' L room_1.cells room_1.slots) := by
  refine MetFree.of_bodySF (plainFor_of_name pn_0) hisR ?_
  intro p e s m args below meth c s₁ Bd hml0 hP hK
  obtain ⟨rfl, hZ, hh⟩ := hP
  have hx := Bd.exec
  have hby := Bd.bytes
  have hml : c.maxLocals = 14 := hml0
  have hown : s.vm.findClass "com/example/understory/understory/sim/BufferOfPinLaw" = some m.cls := findClass_of_methodNamed Bd.named
  have hnm := (name_of_methodNamed Bd.named Bd.method).1
  have X0 : Stand p l e room_1 s m #[(.int p1), (.int p2), (.int p3), (.int p4)] below meth c s₁ [] 0 0 := Stand.of_body Bd
  have e0 : s₁.heap = h0 := by rw [← hh, Bd.state]; rfl
  have N0 := Fr.nil n0
  have pre0 : ∀ t, Steps p.tables e below (s₁.setTop (mkF m 0 #[.val (.int p1), .val (.int p2), .val (.int p3), .val (.int p4), .unset, .unset, .unset, .unset, .unset, .unset, .unset, .unset, .unset, .unset] [])) t → Steps p.tables e below (s₁.setTop (entryFrame m #[(.int p1), (.int p2), (.int p3), (.int p4)] maxLocals)) t := fun t k => castTop (ef_0 m p1 p2 p3 p4) k
  obtain ⟨T5, h5, X5, e5, E5, A5, D5, -, st5⟩ := newO X0 hx hZ hown (hw _ (List.mem_of_getElem? (i := 0) rfl)) (hw _ (List.mem_of_getElem? (i := 1) rfl)) (hw _ (List.mem_of_getElem? (i := 2) rfl)) e0 (g := (mkF m 0 #[.val (.int p1), .val (.int p2), .val (.int p3), .val (.int p4), .unset, .unset, .unset, .unset, .unset, .unset, .unset, .unset, .unset, .unset] [])) rfl (hb hby at_0) (by decide) (by decide)
  obtain ⟨b5, g5⟩ : ∃ z, z = h0.size := ⟨_, rfl⟩
  rw [← g5] at A5 D5 st5
  have F_values_b5 : Fld Z h5 b5 "com/example/understory/understory/sim/ColumnEvaluator$Buffer" "values" "[D" .null := D5 (Or.inl (hw _ (List.mem_of_getElem? (i := 11) rfl))) (ty := (.array .double)) (by decide)
  have E_b5 := A5
  have g_b5 : n0 ≤ b5 := Nat.le_trans Z0 (Nat.le_of_eq g5.symm)
  obtain ⟨b6, g6⟩ : ∃ z, z = h5.size := ⟨_, rfl⟩
  have g_b6 : n0 ≤ b6 := Nat.le_trans (Nat.le_trans Z0 E5.1) (Nat.le_of_eq g6.symm)
  have ne_b5_b6 : b5 ≠ b6 := Nat.ne_of_lt (Nat.lt_of_lt_of_le E_b5.lt (Nat.le_of_eq g6.symm))
  obtain ⟨_, _, ⟨T6, L6, k6, n6⟩, -, X6, ⟨Lc6, hQ6, l6, y6, z6⟩, st6⟩ := X5.specialBack hx (y := (⟨"com/example/understory/understory/sim/ColumnEvaluator$Buffer", "<init>", "()V"⟩ : MethodName)) rfl hown (mvT hZ (hw _ (List.mem_of_getElem? (i := 3) rfl))) (mvT hZ (hw _ (List.mem_of_getElem? (i := 4) rfl))) (mvT hZ (hw _ (List.mem_of_getElem? (i := 5) rfl))) (by decide) (backOf (W := 1) (rm1 l Z a0 hw [] b5 .null b6 h5 n0 (Nat.le_trans Z0 E5.1) E_b5 F_values_b5 g_b5 g6) hZ (hw _ (List.mem_of_getElem? (i := 5) rfl)) (hw _ (List.mem_of_getElem? (i := 2) rfl)) (by decide) (by decide)) (g := (mkF m 4 #[.val (.int p1), .val (.int p2), .val (.int p3), .val (.int p4), .unset, .unset, .unset, .unset, .unset, .unset, .unset, .unset, .unset, .unset] [(.ref b5), (.ref b5)])) rfl (by rw [hml]; rfl) (Steps.refl _) (a := b5) (argsL := []) (rest := [(.ref b5)]) (lenOf pd_0_0 rfl) rfl (by show 2 * 0 + _ ≤ _; exact Nat.le_of_eq rfl) (hb hby at_4) (fun _ _ => ⟨rfl, e5, (by decide : 1 + 1 ≤ _), (by decide : 1 + 0 ≤ _)⟩)
  dsimp only [Pt.U, Pt.locs, Pt.cells, Pt.slots] at X6 l6 y6 z6 st6 hQ6
  subst l6 y6 z6
  obtain ⟨rfl, N6q, K6, gE6, gF6, kk6, gV6⟩ := hQ6
  have N6 := Fr.app N0 N6q
  obtain ⟨cq7, kq7, q7a, q7b, q7c⟩ := isOf hZ rfl gE6
  obtain ⟨b7, g7⟩ : ∃ z, z = T6.heap.size := ⟨_, rfl⟩
  have g_b7 : n0 ≤ b7 := Nat.le_trans (Nat.le_trans (Nat.le_trans Z0 E5.1) K6.1) (Nat.le_of_eq g7.symm)
  have ne_b5_b7 : b5 ≠ b7 := Nat.ne_of_lt (Nat.lt_of_lt_of_le gE6.lt (Nat.le_of_eq g7.symm))
  have ne_b6_b7 : b6 ≠ b7 := Nat.ne_of_lt (Nat.lt_of_lt_of_le gV6.lt (Nat.le_of_eq g7.symm))
  obtain ⟨_, _, ⟨T7, L7, k7, n7⟩, -, X7, ⟨Lc7, hQ7, l7, y7, z7⟩, st7⟩ := X6.virtualBack hx (y := (⟨"com/example/understory/understory/sim/ColumnEvaluator$Buffer", "of", "(I)[D"⟩ : MethodName)) (z := (⟨"com/example/understory/understory/sim/ColumnEvaluator$Buffer", "of", "(I)[D"⟩ : MethodName)) hown (mvT hZ (hw _ (List.mem_of_getElem? (i := 12) rfl))) (mvT hZ (hw _ (List.mem_of_getElem? (i := 13) rfl))) (notFace_of_selects (args := #[]) (mvT hZ (hw _ (List.mem_of_getElem? (i := 15) rfl)))) (mvT hZ (hw _ (List.mem_of_getElem? (i := 15) rfl))) (mvT hZ (hw _ (List.mem_of_getElem? (i := 14) rfl))) (by decide) (backOf (W := 0) (rm3F l Z a0 hw [] b5 (p1 % (64 : Int32)) b6 _ (0 : Int32) _ _ b7 T6.heap n0 (Nat.le_trans (Nat.le_trans Z0 E5.1) K6.1) gF6 gV6 gE6 g_b5 ho39 g7 (own_mod _)) hZ (hw _ (List.mem_of_getElem? (i := 16) rfl)) (hw _ (List.mem_of_getElem? (i := 2) rfl)) (by decide) (by decide)) q7a q7c (g := (mkF m 39 #[.val (.int p1), .val (.int p2), .val (.int p3), .val (.int p4), .val (.ref b5), .val (.int (p1 % (64 : Int32))), .val (.int (p2 % (64 : Int32))), .val (.int (p3 % (64 : Int32))), .val (.double (FP.i2d (p4 % (1000 : Int32)))), .second, .unset, .unset, .unset, .unset] [(.int (p1 % (64 : Int32))), (.ref b5)])) rfl (by rw [hml]; rfl) (Steps.refl _) (argsL := [(.int (p1 % (64 : Int32)))]) (rest := []) (lenOf pd_0_1 rfl) rfl (by show 2 * 0 + _ ≤ _; exact Nat.le_of_eq rfl) (hb hby at_39) (fun _ _ => ⟨rfl, rfl, (by decide : 2 + 1 ≤ _), (by decide : 1 + 63 ≤ _)⟩)
  dsimp only [Pt.U, Pt.locs, Pt.cells, Pt.slots] at X7 l7 y7 z7 st7 hQ7
  subst l7 y7 z7
  obtain ⟨rfl, N7q, K7, gE7, gF7, kk7, gV7⟩ := hQ7
  have N7 := Fr.app N6 N7q
  obtain ⟨cl_b7_53, Ar_b7_53, -, S_b7_53, N_b7_53, -, -⟩ := id (gV7)
  obtain ⟨cl_b7_68, Ar_b7_68, -, S_b7_68, N_b7_68, -, -⟩ := id (gV7)
  obtain ⟨cl_b7_76, Ar_b7_76, -, S_b7_76, N_b7_76, -, -⟩ := id (gV7)
  obtain ⟨cl_b7_81, Ar_b7, q_b7, S_b7, N_b7, H_b7, G_b7⟩ := (gV7.pad (pad_rep [] (.double 0) ((p1 % (64 : Int32))).toNatClampNeg))
  have hin81 : ¬ (((p1 % (64 : Int32)) - (1 : Int32)) < 0 ∨ cl_b7_81.slots.size ≤ (((p1 % (64 : Int32)) - (1 : Int32))).toNatClampNeg) := inb_of S_b7 (own_last hc69)
  obtain ⟨T8, h8, X8, e8, W8, st8⟩ := stD X7 hx hZ rfl Ar_b7 (j := ((p1 % (64 : Int32)) - (1 : Int32))) hin81 (g := (mkF m 81 #[.val (.int p1), .val (.int p2), .val (.int p3), .val (.int p4), .val (.ref b5), .val (.int (p1 % (64 : Int32))), .val (.int (p2 % (64 : Int32))), .val (.int (p3 % (64 : Int32))), .val (.double (FP.i2d (p4 % (1000 : Int32)))), .second, .val (.ref b7), .val (.int (1 : Int32)), .unset, .unset] [(.double (FP.i2d (p4 % (1000 : Int32)))), (.int ((p1 % (64 : Int32)) - (1 : Int32))), (.ref b7)])) rfl rfl (hb hby at_81)
  have V_b7_8 := Arv.set Ar_b7 q_b7 S_b7 N_b7 H_b7 G_b7 rfl W8 (((p1 % (64 : Int32)) - (1 : Int32))).toNatClampNeg rfl (own_lenrep hc69 _)
  have N8 := Fr.snoc X8 N7 g_b7
  obtain ⟨cq9, kq9, q9a, q9b, q9c⟩ := isOf hZ e8 (gE7.wr W8)
  obtain ⟨b9, g9⟩ : ∃ z, z = h8.size := ⟨_, rfl⟩
  have g_b9 : n0 ≤ b9 := Nat.le_trans (Nat.le_trans (Nat.le_trans (Nat.le_trans (Nat.le_trans Z0 E5.1) K6.1) K7.1) (Keep.of_wr W8).1) (Nat.le_of_eq g9.symm)
  have ne_b5_b9 : b5 ≠ b9 := Nat.ne_of_lt (Nat.lt_of_lt_of_le (gE7.wr W8).lt (Nat.le_of_eq g9.symm))
  have ne_b6_b9 : b6 ≠ b9 := Nat.ne_of_lt (Nat.lt_of_lt_of_le ((gV6.keep K7 (fun q => (Ne.symm ne_b5_b6) (List.mem_singleton.mp q))).other W8 ne_b6_b7).lt (Nat.le_of_eq g9.symm))
  have ne_b7_b9 : b7 ≠ b9 := Nat.ne_of_lt (Nat.lt_of_lt_of_le V_b7_8.lt (Nat.le_of_eq g9.symm))
  obtain ⟨_, _, ⟨T9, L9, k9, n9⟩, -, X9, ⟨Lc9, hQ9, l9, y9, z9⟩, st9⟩ := X8.virtualBack hx (y := (⟨"com/example/understory/understory/sim/ColumnEvaluator$Buffer", "of", "(I)[D"⟩ : MethodName)) (z := (⟨"com/example/understory/understory/sim/ColumnEvaluator$Buffer", "of", "(I)[D"⟩ : MethodName)) hown (mvT hZ (hw _ (List.mem_of_getElem? (i := 12) rfl))) (mvT hZ (hw _ (List.mem_of_getElem? (i := 13) rfl))) (notFace_of_selects (args := #[]) (mvT hZ (hw _ (List.mem_of_getElem? (i := 15) rfl)))) (mvT hZ (hw _ (List.mem_of_getElem? (i := 15) rfl))) (mvT hZ (hw _ (List.mem_of_getElem? (i := 14) rfl))) (by decide) (backOf (W := 0) (rm3F l Z a0 hw [] b5 (p2 % (64 : Int32)) b7 _ (p1 % (64 : Int32)) _ _ b9 h8 n0 (Nat.le_trans (Nat.le_trans (Nat.le_trans (Nat.le_trans Z0 E5.1) K6.1) K7.1) (Keep.of_wr W8).1) (gF7.other W8 (Or.inl ne_b5_b7)) V_b7_8 (gE7.wr W8) g_b5 ho86 g9 (own_mod _)) hZ (hw _ (List.mem_of_getElem? (i := 16) rfl)) (hw _ (List.mem_of_getElem? (i := 2) rfl)) (by decide) (by decide)) q9a q9c (g := (mkF m 86 #[.val (.int p1), .val (.int p2), .val (.int p3), .val (.int p4), .val (.ref b5), .val (.int (p1 % (64 : Int32))), .val (.int (p2 % (64 : Int32))), .val (.int (p3 % (64 : Int32))), .val (.double (FP.i2d (p4 % (1000 : Int32)))), .second, .val (.ref b7), .val (.int (1 : Int32)), .unset, .unset] [(.int (p2 % (64 : Int32))), (.ref b5)])) rfl (by rw [hml]; rfl) (Steps.refl _) (argsL := [(.int (p2 % (64 : Int32)))]) (rest := []) (lenOf pd_0_1 rfl) rfl (by show 2 * 0 + _ ≤ _; exact Nat.le_of_eq rfl) (hb hby at_86) (fun _ _ => ⟨rfl, e8, (by decide : 3 + 1 ≤ _), (by decide : 64 + 63 ≤ _)⟩)
  dsimp only [Pt.U, Pt.locs, Pt.cells, Pt.slots] at X9 l9 y9 z9 st9 hQ9
  subst l9 y9 z9
  obtain ⟨rfl, N9q, K9, gE9, gF9, kk9, gV9⟩ := hQ9
  have N9 := Fr.app N8 N9q
  obtain ⟨cl_b9_105, Ar_b9_105, -, S_b9_105, N_b9_105, -, -⟩ := id (gV9)
  obtain ⟨cl_b7_122, Ar_b7_122, -, S_b7_122, N_b7_122, -, -⟩ := id ((V_b7_8.keep K9 (fun q => (Ne.symm ne_b5_b7) (List.mem_singleton.mp q))))
  obtain ⟨cq10, kq10, q10a, q10b, q10c⟩ := isOf hZ rfl gE9
  obtain ⟨b10, g10⟩ : ∃ z, z = T9.heap.size := ⟨_, rfl⟩
  have g_b10 : n0 ≤ b10 := Nat.le_trans (Nat.le_trans (Nat.le_trans (Nat.le_trans (Nat.le_trans (Nat.le_trans Z0 E5.1) K6.1) K7.1) (Keep.of_wr W8).1) K9.1) (Nat.le_of_eq g10.symm)
  have ne_b5_b10 : b5 ≠ b10 := Nat.ne_of_lt (Nat.lt_of_lt_of_le gE9.lt (Nat.le_of_eq g10.symm))
  have ne_b6_b10 : b6 ≠ b10 := Nat.ne_of_lt (Nat.lt_of_lt_of_le (((gV6.keep K7 (fun q => (Ne.symm ne_b5_b6) (List.mem_singleton.mp q))).other W8 ne_b6_b7).keep K9 (fun q => (Ne.symm ne_b5_b6) (List.mem_singleton.mp q))).lt (Nat.le_of_eq g10.symm))
  have ne_b7_b10 : b7 ≠ b10 := Nat.ne_of_lt (Nat.lt_of_lt_of_le (V_b7_8.keep K9 (fun q => (Ne.symm ne_b5_b7) (List.mem_singleton.mp q))).lt (Nat.le_of_eq g10.symm))
  have ne_b9_b10 : b9 ≠ b10 := Nat.ne_of_lt (Nat.lt_of_lt_of_le gV9.lt (Nat.le_of_eq g10.symm))
  obtain ⟨_, _, ⟨T10, L10, k10, n10⟩, -, X10, ⟨Lc10, hQ10, l10, y10, z10⟩, st10⟩ := X9.virtualBack hx (y := (⟨"com/example/understory/understory/sim/ColumnEvaluator$Buffer", "of", "(I)[D"⟩ : MethodName)) (z := (⟨"com/example/understory/understory/sim/ColumnEvaluator$Buffer", "of", "(I)[D"⟩ : MethodName)) hown (mvT hZ (hw _ (List.mem_of_getElem? (i := 12) rfl))) (mvT hZ (hw _ (List.mem_of_getElem? (i := 13) rfl))) (notFace_of_selects (args := #[]) (mvT hZ (hw _ (List.mem_of_getElem? (i := 15) rfl)))) (mvT hZ (hw _ (List.mem_of_getElem? (i := 15) rfl))) (mvT hZ (hw _ (List.mem_of_getElem? (i := 14) rfl))) (by decide) (backOf (W := 0) (rm3F l Z a0 hw [] b5 (p3 % (64 : Int32)) b9 _ (p2 % (64 : Int32)) _ _ b10 T9.heap n0 (Nat.le_trans (Nat.le_trans (Nat.le_trans (Nat.le_trans (Nat.le_trans Z0 E5.1) K6.1) K7.1) (Keep.of_wr W8).1) K9.1) gF9 gV9 gE9 g_b5 ho169 g10 (own_mod _)) hZ (hw _ (List.mem_of_getElem? (i := 16) rfl)) (hw _ (List.mem_of_getElem? (i := 2) rfl)) (by decide) (by decide)) q10a q10c (g := (mkF m 169 #[.val (.int p1), .val (.int p2), .val (.int p3), .val (.int p4), .val (.ref b5), .val (.int (p1 % (64 : Int32))), .val (.int (p2 % (64 : Int32))), .val (.int (p3 % (64 : Int32))), .val (.double (FP.i2d (p4 % (1000 : Int32)))), .second, .val (.ref b7), .val (.int (1 : Int32)), .val (.ref b9), .unset] [(.int (p3 % (64 : Int32))), (.ref b5)])) rfl (by rw [hml]; rfl) (Steps.refl _) (argsL := [(.int (p3 % (64 : Int32)))]) (rest := []) (lenOf pd_0_1 rfl) rfl (by show 2 * 0 + _ ≤ _; exact Nat.le_of_eq rfl) (hb hby at_169) (fun _ _ => ⟨rfl, rfl, (by decide : 4 + 1 ≤ _), (by decide : 127 + 63 ≤ _)⟩)
  dsimp only [Pt.U, Pt.locs, Pt.cells, Pt.slots] at X10 l10 y10 z10 st10 hQ10
  subst l10 y10 z10
  obtain ⟨rfl, N10q, K10, gE10, gF10, kk10, gV10⟩ := hQ10
  have N10 := Fr.app N9 N10q
  obtain ⟨cl_b10_188, Ar_b10_188, -, S_b10_188, N_b10_188, -, -⟩ := id (gV10)
  obtain ⟨cl_b9_205, Ar_b9_205, -, S_b9_205, N_b9_205, -, -⟩ := id ((gV9.keep K10 (fun q => (Ne.symm ne_b5_b9) (List.mem_singleton.mp q))))
  obtain ⟨fs, hr, hrun, hended, hW, hsame⟩ := X10.leave (v := some (.int (1 : Int32))) (fun h => by rw [Bd.returns] at h; cases h)
  refine ⟨_, _, pre0 _ ?_, hrun, hended, _, _, rfl, ?_, ⟨_, rfl⟩, hW, hsame.mono (by decide) (by decide)⟩
  · show Steps p.tables e below (s₁.setTop (mkF m 0 #[.val (.int p1), .val (.int p2), .val (.int p3), .val (.int p4), .unset, .unset, .unset, .unset, .unset, .unset, .unset, .unset, .unset, .unset] [])) _
    refine st5 _ ?_
    show Steps p.tables e below (T5.setTop (mkF m 3 #[.val (.int p1), .val (.int p2), .val (.int p3), .val (.int p4), .unset, .unset, .unset, .unset, .unset, .unset, .unset, .unset, .unset, .unset] [(.ref b5)])) _
    refine XS.dup X5.here hx rfl (hb hby at_3) rfl rfl ?_
    show Steps p.tables e below (T5.setTop (mkF m 4 #[.val (.int p1), .val (.int p2), .val (.int p3), .val (.int p4), .unset, .unset, .unset, .unset, .unset, .unset, .unset, .unset, .unset, .unset] [(.ref b5), (.ref b5)])) _
    refine st6.trans ?_
    show Steps p.tables e below (T6.setTop (mkF m 7 #[.val (.int p1), .val (.int p2), .val (.int p3), .val (.int p4), .unset, .unset, .unset, .unset, .unset, .unset, .unset, .unset, .unset, .unset] [(.ref b5)])) _
    refine XS.astore X6.here hx rfl (hb hby at_7) rfl rfl (l' := #[.val (.int p1), .val (.int p2), .val (.int p3), .val (.int p4), .val (.ref b5), .unset, .unset, .unset, .unset, .unset, .unset, .unset, .unset, .unset]) rfl ?_
    show Steps p.tables e below (T6.setTop (mkF m 9 #[.val (.int p1), .val (.int p2), .val (.int p3), .val (.int p4), .val (.ref b5), .unset, .unset, .unset, .unset, .unset, .unset, .unset, .unset, .unset] [])) _
    refine XS.iloadN X6.here hx rfl (hb hby at_9) rfl ?_
    show Steps p.tables e below (T6.setTop (mkF m 10 #[.val (.int p1), .val (.int p2), .val (.int p3), .val (.int p4), .val (.ref b5), .unset, .unset, .unset, .unset, .unset, .unset, .unset, .unset, .unset] [(.int p1)])) _
    refine XS.bipush X6.here hx rfl (hb hby at_10) ?_
    show Steps p.tables e below (T6.setTop (mkF m 12 #[.val (.int p1), .val (.int p2), .val (.int p3), .val (.int p4), .val (.ref b5), .unset, .unset, .unset, .unset, .unset, .unset, .unset, .unset, .unset] [(.int (64 : Int32)), (.int p1)])) _
    refine iremM X6 hx rfl (hb hby at_12) rfl (by decide) ?_
    show Steps p.tables e below (T6.setTop (mkF m 13 #[.val (.int p1), .val (.int p2), .val (.int p3), .val (.int p4), .val (.ref b5), .unset, .unset, .unset, .unset, .unset, .unset, .unset, .unset, .unset] [(.int (p1 % (64 : Int32)))])) _
    refine XS.istore X6.here hx rfl (hb hby at_13) rfl (l' := #[.val (.int p1), .val (.int p2), .val (.int p3), .val (.int p4), .val (.ref b5), .val (.int (p1 % (64 : Int32))), .unset, .unset, .unset, .unset, .unset, .unset, .unset, .unset]) rfl ?_
    show Steps p.tables e below (T6.setTop (mkF m 15 #[.val (.int p1), .val (.int p2), .val (.int p3), .val (.int p4), .val (.ref b5), .val (.int (p1 % (64 : Int32))), .unset, .unset, .unset, .unset, .unset, .unset, .unset, .unset] [])) _
    refine XS.iloadN X6.here hx rfl (hb hby at_15) rfl ?_
    show Steps p.tables e below (T6.setTop (mkF m 16 #[.val (.int p1), .val (.int p2), .val (.int p3), .val (.int p4), .val (.ref b5), .val (.int (p1 % (64 : Int32))), .unset, .unset, .unset, .unset, .unset, .unset, .unset, .unset] [(.int p2)])) _
    refine XS.bipush X6.here hx rfl (hb hby at_16) ?_
    show Steps p.tables e below (T6.setTop (mkF m 18 #[.val (.int p1), .val (.int p2), .val (.int p3), .val (.int p4), .val (.ref b5), .val (.int (p1 % (64 : Int32))), .unset, .unset, .unset, .unset, .unset, .unset, .unset, .unset] [(.int (64 : Int32)), (.int p2)])) _
    refine iremM X6 hx rfl (hb hby at_18) rfl (by decide) ?_
    show Steps p.tables e below (T6.setTop (mkF m 19 #[.val (.int p1), .val (.int p2), .val (.int p3), .val (.int p4), .val (.ref b5), .val (.int (p1 % (64 : Int32))), .unset, .unset, .unset, .unset, .unset, .unset, .unset, .unset] [(.int (p2 % (64 : Int32)))])) _
    refine XS.istore X6.here hx rfl (hb hby at_19) rfl (l' := #[.val (.int p1), .val (.int p2), .val (.int p3), .val (.int p4), .val (.ref b5), .val (.int (p1 % (64 : Int32))), .val (.int (p2 % (64 : Int32))), .unset, .unset, .unset, .unset, .unset, .unset, .unset]) rfl ?_
    show Steps p.tables e below (T6.setTop (mkF m 21 #[.val (.int p1), .val (.int p2), .val (.int p3), .val (.int p4), .val (.ref b5), .val (.int (p1 % (64 : Int32))), .val (.int (p2 % (64 : Int32))), .unset, .unset, .unset, .unset, .unset, .unset, .unset] [])) _
    refine XS.iloadN X6.here hx rfl (hb hby at_21) rfl ?_
    show Steps p.tables e below (T6.setTop (mkF m 22 #[.val (.int p1), .val (.int p2), .val (.int p3), .val (.int p4), .val (.ref b5), .val (.int (p1 % (64 : Int32))), .val (.int (p2 % (64 : Int32))), .unset, .unset, .unset, .unset, .unset, .unset, .unset] [(.int p3)])) _
    refine XS.bipush X6.here hx rfl (hb hby at_22) ?_
    show Steps p.tables e below (T6.setTop (mkF m 24 #[.val (.int p1), .val (.int p2), .val (.int p3), .val (.int p4), .val (.ref b5), .val (.int (p1 % (64 : Int32))), .val (.int (p2 % (64 : Int32))), .unset, .unset, .unset, .unset, .unset, .unset, .unset] [(.int (64 : Int32)), (.int p3)])) _
    refine iremM X6 hx rfl (hb hby at_24) rfl (by decide) ?_
    show Steps p.tables e below (T6.setTop (mkF m 25 #[.val (.int p1), .val (.int p2), .val (.int p3), .val (.int p4), .val (.ref b5), .val (.int (p1 % (64 : Int32))), .val (.int (p2 % (64 : Int32))), .unset, .unset, .unset, .unset, .unset, .unset, .unset] [(.int (p3 % (64 : Int32)))])) _
    refine XS.istore X6.here hx rfl (hb hby at_25) rfl (l' := #[.val (.int p1), .val (.int p2), .val (.int p3), .val (.int p4), .val (.ref b5), .val (.int (p1 % (64 : Int32))), .val (.int (p2 % (64 : Int32))), .val (.int (p3 % (64 : Int32))), .unset, .unset, .unset, .unset, .unset, .unset]) rfl ?_
    show Steps p.tables e below (T6.setTop (mkF m 27 #[.val (.int p1), .val (.int p2), .val (.int p3), .val (.int p4), .val (.ref b5), .val (.int (p1 % (64 : Int32))), .val (.int (p2 % (64 : Int32))), .val (.int (p3 % (64 : Int32))), .unset, .unset, .unset, .unset, .unset, .unset] [])) _
    refine XS.iloadN X6.here hx rfl (hb hby at_27) rfl ?_
    show Steps p.tables e below (T6.setTop (mkF m 28 #[.val (.int p1), .val (.int p2), .val (.int p3), .val (.int p4), .val (.ref b5), .val (.int (p1 % (64 : Int32))), .val (.int (p2 % (64 : Int32))), .val (.int (p3 % (64 : Int32))), .unset, .unset, .unset, .unset, .unset, .unset] [(.int p4)])) _
    refine XS.sipush X6.here hx rfl (hb hby at_28) ?_
    show Steps p.tables e below (T6.setTop (mkF m 31 #[.val (.int p1), .val (.int p2), .val (.int p3), .val (.int p4), .val (.ref b5), .val (.int (p1 % (64 : Int32))), .val (.int (p2 % (64 : Int32))), .val (.int (p3 % (64 : Int32))), .unset, .unset, .unset, .unset, .unset, .unset] [(.int (1000 : Int32)), (.int p4)])) _
    refine iremM X6 hx rfl (hb hby at_31) rfl (by decide) ?_
    show Steps p.tables e below (T6.setTop (mkF m 32 #[.val (.int p1), .val (.int p2), .val (.int p3), .val (.int p4), .val (.ref b5), .val (.int (p1 % (64 : Int32))), .val (.int (p2 % (64 : Int32))), .val (.int (p3 % (64 : Int32))), .unset, .unset, .unset, .unset, .unset, .unset] [(.int (p4 % (1000 : Int32)))])) _
    refine XS.i2dS X6.here hx rfl (hb hby at_32) rfl rfl ?_
    show Steps p.tables e below (T6.setTop (mkF m 33 #[.val (.int p1), .val (.int p2), .val (.int p3), .val (.int p4), .val (.ref b5), .val (.int (p1 % (64 : Int32))), .val (.int (p2 % (64 : Int32))), .val (.int (p3 % (64 : Int32))), .unset, .unset, .unset, .unset, .unset, .unset] [(.double (FP.i2d (p4 % (1000 : Int32))))])) _
    refine XS.dstore X6.here hx rfl (hb hby at_33) rfl (l' := #[.val (.int p1), .val (.int p2), .val (.int p3), .val (.int p4), .val (.ref b5), .val (.int (p1 % (64 : Int32))), .val (.int (p2 % (64 : Int32))), .val (.int (p3 % (64 : Int32))), .val (.double (FP.i2d (p4 % (1000 : Int32)))), .second, .unset, .unset, .unset, .unset]) rfl ?_
    show Steps p.tables e below (T6.setTop (mkF m 35 #[.val (.int p1), .val (.int p2), .val (.int p3), .val (.int p4), .val (.ref b5), .val (.int (p1 % (64 : Int32))), .val (.int (p2 % (64 : Int32))), .val (.int (p3 % (64 : Int32))), .val (.double (FP.i2d (p4 % (1000 : Int32)))), .second, .unset, .unset, .unset, .unset] [])) _
    refine XS.aload X6.here hx rfl (hb hby at_35) rfl rfl ?_
    show Steps p.tables e below (T6.setTop (mkF m 37 #[.val (.int p1), .val (.int p2), .val (.int p3), .val (.int p4), .val (.ref b5), .val (.int (p1 % (64 : Int32))), .val (.int (p2 % (64 : Int32))), .val (.int (p3 % (64 : Int32))), .val (.double (FP.i2d (p4 % (1000 : Int32)))), .second, .unset, .unset, .unset, .unset] [(.ref b5)])) _
    refine XS.iload X6.here hx rfl (hb hby at_37) rfl ?_
    show Steps p.tables e below (T6.setTop (mkF m 39 #[.val (.int p1), .val (.int p2), .val (.int p3), .val (.int p4), .val (.ref b5), .val (.int (p1 % (64 : Int32))), .val (.int (p2 % (64 : Int32))), .val (.int (p3 % (64 : Int32))), .val (.double (FP.i2d (p4 % (1000 : Int32)))), .second, .unset, .unset, .unset, .unset] [(.int (p1 % (64 : Int32))), (.ref b5)])) _
    refine st7.trans ?_
    show Steps p.tables e below (T7.setTop (mkF m 42 #[.val (.int p1), .val (.int p2), .val (.int p3), .val (.int p4), .val (.ref b5), .val (.int (p1 % (64 : Int32))), .val (.int (p2 % (64 : Int32))), .val (.int (p3 % (64 : Int32))), .val (.double (FP.i2d (p4 % (1000 : Int32)))), .second, .unset, .unset, .unset, .unset] [(.ref b7)])) _
    refine XS.astore X7.here hx rfl (hb hby at_42) rfl rfl (l' := #[.val (.int p1), .val (.int p2), .val (.int p3), .val (.int p4), .val (.ref b5), .val (.int (p1 % (64 : Int32))), .val (.int (p2 % (64 : Int32))), .val (.int (p3 % (64 : Int32))), .val (.double (FP.i2d (p4 % (1000 : Int32)))), .second, .val (.ref b7), .unset, .unset, .unset]) rfl ?_
    show Steps p.tables e below (T7.setTop (mkF m 44 #[.val (.int p1), .val (.int p2), .val (.int p3), .val (.int p4), .val (.ref b5), .val (.int (p1 % (64 : Int32))), .val (.int (p2 % (64 : Int32))), .val (.int (p3 % (64 : Int32))), .val (.double (FP.i2d (p4 % (1000 : Int32)))), .second, .val (.ref b7), .unset, .unset, .unset] [])) _
    refine XS.aload X7.here hx rfl (hb hby at_44) rfl rfl ?_
    show Steps p.tables e below (T7.setTop (mkF m 46 #[.val (.int p1), .val (.int p2), .val (.int p3), .val (.int p4), .val (.ref b5), .val (.int (p1 % (64 : Int32))), .val (.int (p2 % (64 : Int32))), .val (.int (p3 % (64 : Int32))), .val (.double (FP.i2d (p4 % (1000 : Int32)))), .second, .val (.ref b7), .unset, .unset, .unset] [(.ref b7)])) _
    refine XS.ifnonnullYes X7.here hx rfl (pc0 := 46) (pc' := 51) rfl (hb hby at_46) rfl (by decide) (by decide) ?_
    show Steps p.tables e below (T7.setTop (mkF m 51 #[.val (.int p1), .val (.int p2), .val (.int p3), .val (.int p4), .val (.ref b5), .val (.int (p1 % (64 : Int32))), .val (.int (p2 % (64 : Int32))), .val (.int (p3 % (64 : Int32))), .val (.double (FP.i2d (p4 % (1000 : Int32)))), .second, .val (.ref b7), .unset, .unset, .unset] [])) _
    refine XS.aload X7.here hx rfl (hb hby at_51) rfl rfl ?_
    show Steps p.tables e below (T7.setTop (mkF m 53 #[.val (.int p1), .val (.int p2), .val (.int p3), .val (.int p4), .val (.ref b5), .val (.int (p1 % (64 : Int32))), .val (.int (p2 % (64 : Int32))), .val (.int (p3 % (64 : Int32))), .val (.double (FP.i2d (p4 % (1000 : Int32)))), .second, .val (.ref b7), .unset, .unset, .unset] [(.ref b7)])) _
    refine X7.arraylength hx (by exact Ar_b7_53.1) (State.isArrayOf_alike hZ.alike Ar_b7_53.2.1) (g := (mkF m 53 #[.val (.int p1), .val (.int p2), .val (.int p3), .val (.int p4), .val (.ref b5), .val (.int (p1 % (64 : Int32))), .val (.int (p2 % (64 : Int32))), .val (.int (p3 % (64 : Int32))), .val (.double (FP.i2d (p4 % (1000 : Int32)))), .second, .val (.ref b7), .unset, .unset, .unset] [(.ref b7)])) rfl rfl (hb hby at_53) _ ?_
    rw [len_of S_b7_53 N_b7_53]
    show Steps p.tables e below (T7.setTop (mkF m 54 #[.val (.int p1), .val (.int p2), .val (.int p3), .val (.int p4), .val (.ref b5), .val (.int (p1 % (64 : Int32))), .val (.int (p2 % (64 : Int32))), .val (.int (p3 % (64 : Int32))), .val (.double (FP.i2d (p4 % (1000 : Int32)))), .second, .val (.ref b7), .unset, .unset, .unset] [(.int (p1 % (64 : Int32)))])) _
    refine XS.iload X7.here hx rfl (hb hby at_54) rfl ?_
    show Steps p.tables e below (T7.setTop (mkF m 56 #[.val (.int p1), .val (.int p2), .val (.int p3), .val (.int p4), .val (.ref b5), .val (.int (p1 % (64 : Int32))), .val (.int (p2 % (64 : Int32))), .val (.int (p3 % (64 : Int32))), .val (.double (FP.i2d (p4 % (1000 : Int32)))), .second, .val (.ref b7), .unset, .unset, .unset] [(.int (p1 % (64 : Int32))), (.int (p1 % (64 : Int32)))])) _
    refine XS.icmpNo X7.here hx rfl (hb hby at_56) rfl (flt hc56).1 ?_
    show Steps p.tables e below (T7.setTop (mkF m 59 #[.val (.int p1), .val (.int p2), .val (.int p3), .val (.int p4), .val (.ref b5), .val (.int (p1 % (64 : Int32))), .val (.int (p2 % (64 : Int32))), .val (.int (p3 % (64 : Int32))), .val (.double (FP.i2d (p4 % (1000 : Int32)))), .second, .val (.ref b7), .unset, .unset, .unset] [])) _
    refine XS.iconst X7.here hx rfl (hb hby at_59) ?_
    show Steps p.tables e below (T7.setTop (mkF m 60 #[.val (.int p1), .val (.int p2), .val (.int p3), .val (.int p4), .val (.ref b5), .val (.int (p1 % (64 : Int32))), .val (.int (p2 % (64 : Int32))), .val (.int (p3 % (64 : Int32))), .val (.double (FP.i2d (p4 % (1000 : Int32)))), .second, .val (.ref b7), .unset, .unset, .unset] [(.int (1 : Int32))])) _
    refine XS.goto X7.here hx rfl (pc0 := 60) (pc' := 64) rfl (hb hby at_60) (by decide) (by decide) ?_
    show Steps p.tables e below (T7.setTop (mkF m 64 #[.val (.int p1), .val (.int p2), .val (.int p3), .val (.int p4), .val (.ref b5), .val (.int (p1 % (64 : Int32))), .val (.int (p2 % (64 : Int32))), .val (.int (p3 % (64 : Int32))), .val (.double (FP.i2d (p4 % (1000 : Int32)))), .second, .val (.ref b7), .unset, .unset, .unset] [(.int (1 : Int32))])) _
    refine XS.istore X7.here hx rfl (hb hby at_64) rfl (l' := #[.val (.int p1), .val (.int p2), .val (.int p3), .val (.int p4), .val (.ref b5), .val (.int (p1 % (64 : Int32))), .val (.int (p2 % (64 : Int32))), .val (.int (p3 % (64 : Int32))), .val (.double (FP.i2d (p4 % (1000 : Int32)))), .second, .val (.ref b7), .val (.int (1 : Int32)), .unset, .unset]) rfl ?_
    show Steps p.tables e below (T7.setTop (mkF m 66 #[.val (.int p1), .val (.int p2), .val (.int p3), .val (.int p4), .val (.ref b5), .val (.int (p1 % (64 : Int32))), .val (.int (p2 % (64 : Int32))), .val (.int (p3 % (64 : Int32))), .val (.double (FP.i2d (p4 % (1000 : Int32)))), .second, .val (.ref b7), .val (.int (1 : Int32)), .unset, .unset] [])) _
    refine XS.aload X7.here hx rfl (hb hby at_66) rfl rfl ?_
    show Steps p.tables e below (T7.setTop (mkF m 68 #[.val (.int p1), .val (.int p2), .val (.int p3), .val (.int p4), .val (.ref b5), .val (.int (p1 % (64 : Int32))), .val (.int (p2 % (64 : Int32))), .val (.int (p3 % (64 : Int32))), .val (.double (FP.i2d (p4 % (1000 : Int32)))), .second, .val (.ref b7), .val (.int (1 : Int32)), .unset, .unset] [(.ref b7)])) _
    refine X7.arraylength hx (by exact Ar_b7_68.1) (State.isArrayOf_alike hZ.alike Ar_b7_68.2.1) (g := (mkF m 68 #[.val (.int p1), .val (.int p2), .val (.int p3), .val (.int p4), .val (.ref b5), .val (.int (p1 % (64 : Int32))), .val (.int (p2 % (64 : Int32))), .val (.int (p3 % (64 : Int32))), .val (.double (FP.i2d (p4 % (1000 : Int32)))), .second, .val (.ref b7), .val (.int (1 : Int32)), .unset, .unset] [(.ref b7)])) rfl rfl (hb hby at_68) _ ?_
    rw [len_of S_b7_68 N_b7_68]
    show Steps p.tables e below (T7.setTop (mkF m 69 #[.val (.int p1), .val (.int p2), .val (.int p3), .val (.int p4), .val (.ref b5), .val (.int (p1 % (64 : Int32))), .val (.int (p2 % (64 : Int32))), .val (.int (p3 % (64 : Int32))), .val (.double (FP.i2d (p4 % (1000 : Int32)))), .second, .val (.ref b7), .val (.int (1 : Int32)), .unset, .unset] [(.int (p1 % (64 : Int32)))])) _
    refine XS.ifNo X7.here hx rfl (hb hby at_69) rfl ((if0 _ _).trans (tlt hc69).2.2.2) ?_
    show Steps p.tables e below (T7.setTop (mkF m 72 #[.val (.int p1), .val (.int p2), .val (.int p3), .val (.int p4), .val (.ref b5), .val (.int (p1 % (64 : Int32))), .val (.int (p2 % (64 : Int32))), .val (.int (p3 % (64 : Int32))), .val (.double (FP.i2d (p4 % (1000 : Int32)))), .second, .val (.ref b7), .val (.int (1 : Int32)), .unset, .unset] [])) _
    refine XS.aload X7.here hx rfl (hb hby at_72) rfl rfl ?_
    show Steps p.tables e below (T7.setTop (mkF m 74 #[.val (.int p1), .val (.int p2), .val (.int p3), .val (.int p4), .val (.ref b5), .val (.int (p1 % (64 : Int32))), .val (.int (p2 % (64 : Int32))), .val (.int (p3 % (64 : Int32))), .val (.double (FP.i2d (p4 % (1000 : Int32)))), .second, .val (.ref b7), .val (.int (1 : Int32)), .unset, .unset] [(.ref b7)])) _
    refine XS.aload X7.here hx rfl (hb hby at_74) rfl rfl ?_
    show Steps p.tables e below (T7.setTop (mkF m 76 #[.val (.int p1), .val (.int p2), .val (.int p3), .val (.int p4), .val (.ref b5), .val (.int (p1 % (64 : Int32))), .val (.int (p2 % (64 : Int32))), .val (.int (p3 % (64 : Int32))), .val (.double (FP.i2d (p4 % (1000 : Int32)))), .second, .val (.ref b7), .val (.int (1 : Int32)), .unset, .unset] [(.ref b7), (.ref b7)])) _
    refine X7.arraylength hx (by exact Ar_b7_76.1) (State.isArrayOf_alike hZ.alike Ar_b7_76.2.1) (g := (mkF m 76 #[.val (.int p1), .val (.int p2), .val (.int p3), .val (.int p4), .val (.ref b5), .val (.int (p1 % (64 : Int32))), .val (.int (p2 % (64 : Int32))), .val (.int (p3 % (64 : Int32))), .val (.double (FP.i2d (p4 % (1000 : Int32)))), .second, .val (.ref b7), .val (.int (1 : Int32)), .unset, .unset] [(.ref b7), (.ref b7)])) rfl rfl (hb hby at_76) _ ?_
    rw [len_of S_b7_76 N_b7_76]
    show Steps p.tables e below (T7.setTop (mkF m 77 #[.val (.int p1), .val (.int p2), .val (.int p3), .val (.int p4), .val (.ref b5), .val (.int (p1 % (64 : Int32))), .val (.int (p2 % (64 : Int32))), .val (.int (p3 % (64 : Int32))), .val (.double (FP.i2d (p4 % (1000 : Int32)))), .second, .val (.ref b7), .val (.int (1 : Int32)), .unset, .unset] [(.int (p1 % (64 : Int32))), (.ref b7)])) _
    refine XS.iconst X7.here hx rfl (hb hby at_77) ?_
    show Steps p.tables e below (T7.setTop (mkF m 78 #[.val (.int p1), .val (.int p2), .val (.int p3), .val (.int p4), .val (.ref b5), .val (.int (p1 % (64 : Int32))), .val (.int (p2 % (64 : Int32))), .val (.int (p3 % (64 : Int32))), .val (.double (FP.i2d (p4 % (1000 : Int32)))), .second, .val (.ref b7), .val (.int (1 : Int32)), .unset, .unset] [(.int (1 : Int32)), (.int (p1 % (64 : Int32))), (.ref b7)])) _
    refine XS.isub X7.here hx rfl (hb hby at_78) rfl ?_
    show Steps p.tables e below (T7.setTop (mkF m 79 #[.val (.int p1), .val (.int p2), .val (.int p3), .val (.int p4), .val (.ref b5), .val (.int (p1 % (64 : Int32))), .val (.int (p2 % (64 : Int32))), .val (.int (p3 % (64 : Int32))), .val (.double (FP.i2d (p4 % (1000 : Int32)))), .second, .val (.ref b7), .val (.int (1 : Int32)), .unset, .unset] [(.int ((p1 % (64 : Int32)) - (1 : Int32))), (.ref b7)])) _
    refine XS.dload X7.here hx rfl (hb hby at_79) rfl ?_
    show Steps p.tables e below (T7.setTop (mkF m 81 #[.val (.int p1), .val (.int p2), .val (.int p3), .val (.int p4), .val (.ref b5), .val (.int (p1 % (64 : Int32))), .val (.int (p2 % (64 : Int32))), .val (.int (p3 % (64 : Int32))), .val (.double (FP.i2d (p4 % (1000 : Int32)))), .second, .val (.ref b7), .val (.int (1 : Int32)), .unset, .unset] [(.double (FP.i2d (p4 % (1000 : Int32)))), (.int ((p1 % (64 : Int32)) - (1 : Int32))), (.ref b7)])) _
    refine st8 _ ?_
    show Steps p.tables e below (T8.setTop (mkF m 82 #[.val (.int p1), .val (.int p2), .val (.int p3), .val (.int p4), .val (.ref b5), .val (.int (p1 % (64 : Int32))), .val (.int (p2 % (64 : Int32))), .val (.int (p3 % (64 : Int32))), .val (.double (FP.i2d (p4 % (1000 : Int32)))), .second, .val (.ref b7), .val (.int (1 : Int32)), .unset, .unset] [])) _
    refine XS.aload X8.here hx rfl (hb hby at_82) rfl rfl ?_
    show Steps p.tables e below (T8.setTop (mkF m 84 #[.val (.int p1), .val (.int p2), .val (.int p3), .val (.int p4), .val (.ref b5), .val (.int (p1 % (64 : Int32))), .val (.int (p2 % (64 : Int32))), .val (.int (p3 % (64 : Int32))), .val (.double (FP.i2d (p4 % (1000 : Int32)))), .second, .val (.ref b7), .val (.int (1 : Int32)), .unset, .unset] [(.ref b5)])) _
    refine XS.iload X8.here hx rfl (hb hby at_84) rfl ?_
    show Steps p.tables e below (T8.setTop (mkF m 86 #[.val (.int p1), .val (.int p2), .val (.int p3), .val (.int p4), .val (.ref b5), .val (.int (p1 % (64 : Int32))), .val (.int (p2 % (64 : Int32))), .val (.int (p3 % (64 : Int32))), .val (.double (FP.i2d (p4 % (1000 : Int32)))), .second, .val (.ref b7), .val (.int (1 : Int32)), .unset, .unset] [(.int (p2 % (64 : Int32))), (.ref b5)])) _
    refine st9.trans ?_
    show Steps p.tables e below (T9.setTop (mkF m 89 #[.val (.int p1), .val (.int p2), .val (.int p3), .val (.int p4), .val (.ref b5), .val (.int (p1 % (64 : Int32))), .val (.int (p2 % (64 : Int32))), .val (.int (p3 % (64 : Int32))), .val (.double (FP.i2d (p4 % (1000 : Int32)))), .second, .val (.ref b7), .val (.int (1 : Int32)), .unset, .unset] [(.ref b9)])) _
    refine XS.astore X9.here hx rfl (hb hby at_89) rfl rfl (l' := #[.val (.int p1), .val (.int p2), .val (.int p3), .val (.int p4), .val (.ref b5), .val (.int (p1 % (64 : Int32))), .val (.int (p2 % (64 : Int32))), .val (.int (p3 % (64 : Int32))), .val (.double (FP.i2d (p4 % (1000 : Int32)))), .second, .val (.ref b7), .val (.int (1 : Int32)), .val (.ref b9), .unset]) rfl ?_
    show Steps p.tables e below (T9.setTop (mkF m 91 #[.val (.int p1), .val (.int p2), .val (.int p3), .val (.int p4), .val (.ref b5), .val (.int (p1 % (64 : Int32))), .val (.int (p2 % (64 : Int32))), .val (.int (p3 % (64 : Int32))), .val (.double (FP.i2d (p4 % (1000 : Int32)))), .second, .val (.ref b7), .val (.int (1 : Int32)), .val (.ref b9), .unset] [])) _
    refine XS.aload X9.here hx rfl (hb hby at_91) rfl rfl ?_
    show Steps p.tables e below (T9.setTop (mkF m 93 #[.val (.int p1), .val (.int p2), .val (.int p3), .val (.int p4), .val (.ref b5), .val (.int (p1 % (64 : Int32))), .val (.int (p2 % (64 : Int32))), .val (.int (p3 % (64 : Int32))), .val (.double (FP.i2d (p4 % (1000 : Int32)))), .second, .val (.ref b7), .val (.int (1 : Int32)), .val (.ref b9), .unset] [(.ref b9)])) _
    refine XS.ifnonnullYes X9.here hx rfl (pc0 := 93) (pc' := 98) rfl (hb hby at_93) rfl (by decide) (by decide) ?_
    show Steps p.tables e below (T9.setTop (mkF m 98 #[.val (.int p1), .val (.int p2), .val (.int p3), .val (.int p4), .val (.ref b5), .val (.int (p1 % (64 : Int32))), .val (.int (p2 % (64 : Int32))), .val (.int (p3 % (64 : Int32))), .val (.double (FP.i2d (p4 % (1000 : Int32)))), .second, .val (.ref b7), .val (.int (1 : Int32)), .val (.ref b9), .unset] [])) _
    refine XS.iload X9.here hx rfl (hb hby at_98) rfl ?_
    show Steps p.tables e below (T9.setTop (mkF m 100 #[.val (.int p1), .val (.int p2), .val (.int p3), .val (.int p4), .val (.ref b5), .val (.int (p1 % (64 : Int32))), .val (.int (p2 % (64 : Int32))), .val (.int (p3 % (64 : Int32))), .val (.double (FP.i2d (p4 % (1000 : Int32)))), .second, .val (.ref b7), .val (.int (1 : Int32)), .val (.ref b9), .unset] [(.int (1 : Int32))])) _
    refine XS.ifNo X9.here hx rfl (hb hby at_100) rfl ((if0 _ _).trans (feq hc100).1) ?_
    show Steps p.tables e below (T9.setTop (mkF m 103 #[.val (.int p1), .val (.int p2), .val (.int p3), .val (.int p4), .val (.ref b5), .val (.int (p1 % (64 : Int32))), .val (.int (p2 % (64 : Int32))), .val (.int (p3 % (64 : Int32))), .val (.double (FP.i2d (p4 % (1000 : Int32)))), .second, .val (.ref b7), .val (.int (1 : Int32)), .val (.ref b9), .unset] [])) _
    refine XS.aload X9.here hx rfl (hb hby at_103) rfl rfl ?_
    show Steps p.tables e below (T9.setTop (mkF m 105 #[.val (.int p1), .val (.int p2), .val (.int p3), .val (.int p4), .val (.ref b5), .val (.int (p1 % (64 : Int32))), .val (.int (p2 % (64 : Int32))), .val (.int (p3 % (64 : Int32))), .val (.double (FP.i2d (p4 % (1000 : Int32)))), .second, .val (.ref b7), .val (.int (1 : Int32)), .val (.ref b9), .unset] [(.ref b9)])) _
    refine X9.arraylength hx (by exact Ar_b9_105.1) (State.isArrayOf_alike hZ.alike Ar_b9_105.2.1) (g := (mkF m 105 #[.val (.int p1), .val (.int p2), .val (.int p3), .val (.int p4), .val (.ref b5), .val (.int (p1 % (64 : Int32))), .val (.int (p2 % (64 : Int32))), .val (.int (p3 % (64 : Int32))), .val (.double (FP.i2d (p4 % (1000 : Int32)))), .second, .val (.ref b7), .val (.int (1 : Int32)), .val (.ref b9), .unset] [(.ref b9)])) rfl rfl (hb hby at_105) _ ?_
    rw [len_of S_b9_105 N_b9_105]
    show Steps p.tables e below (T9.setTop (mkF m 106 #[.val (.int p1), .val (.int p2), .val (.int p3), .val (.int p4), .val (.ref b5), .val (.int (p1 % (64 : Int32))), .val (.int (p2 % (64 : Int32))), .val (.int (p3 % (64 : Int32))), .val (.double (FP.i2d (p4 % (1000 : Int32)))), .second, .val (.ref b7), .val (.int (1 : Int32)), .val (.ref b9), .unset] [(.int (p2 % (64 : Int32)))])) _
    refine XS.iload X9.here hx rfl (hb hby at_106) rfl ?_
    show Steps p.tables e below (T9.setTop (mkF m 108 #[.val (.int p1), .val (.int p2), .val (.int p3), .val (.int p4), .val (.ref b5), .val (.int (p1 % (64 : Int32))), .val (.int (p2 % (64 : Int32))), .val (.int (p3 % (64 : Int32))), .val (.double (FP.i2d (p4 % (1000 : Int32)))), .second, .val (.ref b7), .val (.int (1 : Int32)), .val (.ref b9), .unset] [(.int (p2 % (64 : Int32))), (.int (p2 % (64 : Int32)))])) _
    refine XS.icmpNo X9.here hx rfl (hb hby at_108) rfl (flt hc108).1 ?_
    show Steps p.tables e below (T9.setTop (mkF m 111 #[.val (.int p1), .val (.int p2), .val (.int p3), .val (.int p4), .val (.ref b5), .val (.int (p1 % (64 : Int32))), .val (.int (p2 % (64 : Int32))), .val (.int (p3 % (64 : Int32))), .val (.double (FP.i2d (p4 % (1000 : Int32)))), .second, .val (.ref b7), .val (.int (1 : Int32)), .val (.ref b9), .unset] [])) _
    refine XS.iconst X9.here hx rfl (hb hby at_111) ?_
    show Steps p.tables e below (T9.setTop (mkF m 112 #[.val (.int p1), .val (.int p2), .val (.int p3), .val (.int p4), .val (.ref b5), .val (.int (p1 % (64 : Int32))), .val (.int (p2 % (64 : Int32))), .val (.int (p3 % (64 : Int32))), .val (.double (FP.i2d (p4 % (1000 : Int32)))), .second, .val (.ref b7), .val (.int (1 : Int32)), .val (.ref b9), .unset] [(.int (1 : Int32))])) _
    refine XS.goto X9.here hx rfl (pc0 := 112) (pc' := 116) rfl (hb hby at_112) (by decide) (by decide) ?_
    show Steps p.tables e below (T9.setTop (mkF m 116 #[.val (.int p1), .val (.int p2), .val (.int p3), .val (.int p4), .val (.ref b5), .val (.int (p1 % (64 : Int32))), .val (.int (p2 % (64 : Int32))), .val (.int (p3 % (64 : Int32))), .val (.double (FP.i2d (p4 % (1000 : Int32)))), .second, .val (.ref b7), .val (.int (1 : Int32)), .val (.ref b9), .unset] [(.int (1 : Int32))])) _
    refine XS.istore X9.here hx rfl (hb hby at_116) rfl (l' := #[.val (.int p1), .val (.int p2), .val (.int p3), .val (.int p4), .val (.ref b5), .val (.int (p1 % (64 : Int32))), .val (.int (p2 % (64 : Int32))), .val (.int (p3 % (64 : Int32))), .val (.double (FP.i2d (p4 % (1000 : Int32)))), .second, .val (.ref b7), .val (.int (1 : Int32)), .val (.ref b9), .unset]) rfl ?_
    show Steps p.tables e below (T9.setTop (mkF m 118 #[.val (.int p1), .val (.int p2), .val (.int p3), .val (.int p4), .val (.ref b5), .val (.int (p1 % (64 : Int32))), .val (.int (p2 % (64 : Int32))), .val (.int (p3 % (64 : Int32))), .val (.double (FP.i2d (p4 % (1000 : Int32)))), .second, .val (.ref b7), .val (.int (1 : Int32)), .val (.ref b9), .unset] [])) _
    refine XS.iload X9.here hx rfl (hb hby at_118) rfl ?_
    show Steps p.tables e below (T9.setTop (mkF m 120 #[.val (.int p1), .val (.int p2), .val (.int p3), .val (.int p4), .val (.ref b5), .val (.int (p1 % (64 : Int32))), .val (.int (p2 % (64 : Int32))), .val (.int (p3 % (64 : Int32))), .val (.double (FP.i2d (p4 % (1000 : Int32)))), .second, .val (.ref b7), .val (.int (1 : Int32)), .val (.ref b9), .unset] [(.int (p2 % (64 : Int32)))])) _
    refine XS.aload X9.here hx rfl (hb hby at_120) rfl rfl ?_
    show Steps p.tables e below (T9.setTop (mkF m 122 #[.val (.int p1), .val (.int p2), .val (.int p3), .val (.int p4), .val (.ref b5), .val (.int (p1 % (64 : Int32))), .val (.int (p2 % (64 : Int32))), .val (.int (p3 % (64 : Int32))), .val (.double (FP.i2d (p4 % (1000 : Int32)))), .second, .val (.ref b7), .val (.int (1 : Int32)), .val (.ref b9), .unset] [(.ref b7), (.int (p2 % (64 : Int32)))])) _
    refine X9.arraylength hx (by exact Ar_b7_122.1) (State.isArrayOf_alike hZ.alike Ar_b7_122.2.1) (g := (mkF m 122 #[.val (.int p1), .val (.int p2), .val (.int p3), .val (.int p4), .val (.ref b5), .val (.int (p1 % (64 : Int32))), .val (.int (p2 % (64 : Int32))), .val (.int (p3 % (64 : Int32))), .val (.double (FP.i2d (p4 % (1000 : Int32)))), .second, .val (.ref b7), .val (.int (1 : Int32)), .val (.ref b9), .unset] [(.ref b7), (.int (p2 % (64 : Int32)))])) rfl rfl (hb hby at_122) _ ?_
    rw [len_of S_b7_122 N_b7_122]
    show Steps p.tables e below (T9.setTop (mkF m 123 #[.val (.int p1), .val (.int p2), .val (.int p3), .val (.int p4), .val (.ref b5), .val (.int (p1 % (64 : Int32))), .val (.int (p2 % (64 : Int32))), .val (.int (p3 % (64 : Int32))), .val (.double (FP.i2d (p4 % (1000 : Int32)))), .second, .val (.ref b7), .val (.int (1 : Int32)), .val (.ref b9), .unset] [(.int (p1 % (64 : Int32))), (.int (p2 % (64 : Int32)))])) _
    refine XS.icmpYes X9.here hx rfl (pc0 := 123) (pc' := 165) rfl (hb hby at_123) rfl (tlt hc123).2.2.1 (by decide) (by decide) ?_
    show Steps p.tables e below (T9.setTop (mkF m 165 #[.val (.int p1), .val (.int p2), .val (.int p3), .val (.int p4), .val (.ref b5), .val (.int (p1 % (64 : Int32))), .val (.int (p2 % (64 : Int32))), .val (.int (p3 % (64 : Int32))), .val (.double (FP.i2d (p4 % (1000 : Int32)))), .second, .val (.ref b7), .val (.int (1 : Int32)), .val (.ref b9), .unset] [])) _
    refine XS.aload X9.here hx rfl (hb hby at_165) rfl rfl ?_
    show Steps p.tables e below (T9.setTop (mkF m 167 #[.val (.int p1), .val (.int p2), .val (.int p3), .val (.int p4), .val (.ref b5), .val (.int (p1 % (64 : Int32))), .val (.int (p2 % (64 : Int32))), .val (.int (p3 % (64 : Int32))), .val (.double (FP.i2d (p4 % (1000 : Int32)))), .second, .val (.ref b7), .val (.int (1 : Int32)), .val (.ref b9), .unset] [(.ref b5)])) _
    refine XS.iload X9.here hx rfl (hb hby at_167) rfl ?_
    show Steps p.tables e below (T9.setTop (mkF m 169 #[.val (.int p1), .val (.int p2), .val (.int p3), .val (.int p4), .val (.ref b5), .val (.int (p1 % (64 : Int32))), .val (.int (p2 % (64 : Int32))), .val (.int (p3 % (64 : Int32))), .val (.double (FP.i2d (p4 % (1000 : Int32)))), .second, .val (.ref b7), .val (.int (1 : Int32)), .val (.ref b9), .unset] [(.int (p3 % (64 : Int32))), (.ref b5)])) _
    refine st10.trans ?_
    show Steps p.tables e below (T10.setTop (mkF m 172 #[.val (.int p1), .val (.int p2), .val (.int p3), .val (.int p4), .val (.ref b5), .val (.int (p1 % (64 : Int32))), .val (.int (p2 % (64 : Int32))), .val (.int (p3 % (64 : Int32))), .val (.double (FP.i2d (p4 % (1000 : Int32)))), .second, .val (.ref b7), .val (.int (1 : Int32)), .val (.ref b9), .unset] [(.ref b10)])) _
    refine XS.astore X10.here hx rfl (hb hby at_172) rfl rfl (l' := #[.val (.int p1), .val (.int p2), .val (.int p3), .val (.int p4), .val (.ref b5), .val (.int (p1 % (64 : Int32))), .val (.int (p2 % (64 : Int32))), .val (.int (p3 % (64 : Int32))), .val (.double (FP.i2d (p4 % (1000 : Int32)))), .second, .val (.ref b7), .val (.int (1 : Int32)), .val (.ref b9), .val (.ref b10)]) rfl ?_
    show Steps p.tables e below (T10.setTop (mkF m 174 #[.val (.int p1), .val (.int p2), .val (.int p3), .val (.int p4), .val (.ref b5), .val (.int (p1 % (64 : Int32))), .val (.int (p2 % (64 : Int32))), .val (.int (p3 % (64 : Int32))), .val (.double (FP.i2d (p4 % (1000 : Int32)))), .second, .val (.ref b7), .val (.int (1 : Int32)), .val (.ref b9), .val (.ref b10)] [])) _
    refine XS.aload X10.here hx rfl (hb hby at_174) rfl rfl ?_
    show Steps p.tables e below (T10.setTop (mkF m 176 #[.val (.int p1), .val (.int p2), .val (.int p3), .val (.int p4), .val (.ref b5), .val (.int (p1 % (64 : Int32))), .val (.int (p2 % (64 : Int32))), .val (.int (p3 % (64 : Int32))), .val (.double (FP.i2d (p4 % (1000 : Int32)))), .second, .val (.ref b7), .val (.int (1 : Int32)), .val (.ref b9), .val (.ref b10)] [(.ref b10)])) _
    refine XS.ifnonnullYes X10.here hx rfl (pc0 := 176) (pc' := 181) rfl (hb hby at_176) rfl (by decide) (by decide) ?_
    show Steps p.tables e below (T10.setTop (mkF m 181 #[.val (.int p1), .val (.int p2), .val (.int p3), .val (.int p4), .val (.ref b5), .val (.int (p1 % (64 : Int32))), .val (.int (p2 % (64 : Int32))), .val (.int (p3 % (64 : Int32))), .val (.double (FP.i2d (p4 % (1000 : Int32)))), .second, .val (.ref b7), .val (.int (1 : Int32)), .val (.ref b9), .val (.ref b10)] [])) _
    refine XS.iload X10.here hx rfl (hb hby at_181) rfl ?_
    show Steps p.tables e below (T10.setTop (mkF m 183 #[.val (.int p1), .val (.int p2), .val (.int p3), .val (.int p4), .val (.ref b5), .val (.int (p1 % (64 : Int32))), .val (.int (p2 % (64 : Int32))), .val (.int (p3 % (64 : Int32))), .val (.double (FP.i2d (p4 % (1000 : Int32)))), .second, .val (.ref b7), .val (.int (1 : Int32)), .val (.ref b9), .val (.ref b10)] [(.int (1 : Int32))])) _
    refine XS.ifNo X10.here hx rfl (hb hby at_183) rfl ((if0 _ _).trans (feq hc183).1) ?_
    show Steps p.tables e below (T10.setTop (mkF m 186 #[.val (.int p1), .val (.int p2), .val (.int p3), .val (.int p4), .val (.ref b5), .val (.int (p1 % (64 : Int32))), .val (.int (p2 % (64 : Int32))), .val (.int (p3 % (64 : Int32))), .val (.double (FP.i2d (p4 % (1000 : Int32)))), .second, .val (.ref b7), .val (.int (1 : Int32)), .val (.ref b9), .val (.ref b10)] [])) _
    refine XS.aload X10.here hx rfl (hb hby at_186) rfl rfl ?_
    show Steps p.tables e below (T10.setTop (mkF m 188 #[.val (.int p1), .val (.int p2), .val (.int p3), .val (.int p4), .val (.ref b5), .val (.int (p1 % (64 : Int32))), .val (.int (p2 % (64 : Int32))), .val (.int (p3 % (64 : Int32))), .val (.double (FP.i2d (p4 % (1000 : Int32)))), .second, .val (.ref b7), .val (.int (1 : Int32)), .val (.ref b9), .val (.ref b10)] [(.ref b10)])) _
    refine X10.arraylength hx (by exact Ar_b10_188.1) (State.isArrayOf_alike hZ.alike Ar_b10_188.2.1) (g := (mkF m 188 #[.val (.int p1), .val (.int p2), .val (.int p3), .val (.int p4), .val (.ref b5), .val (.int (p1 % (64 : Int32))), .val (.int (p2 % (64 : Int32))), .val (.int (p3 % (64 : Int32))), .val (.double (FP.i2d (p4 % (1000 : Int32)))), .second, .val (.ref b7), .val (.int (1 : Int32)), .val (.ref b9), .val (.ref b10)] [(.ref b10)])) rfl rfl (hb hby at_188) _ ?_
    rw [len_of S_b10_188 N_b10_188]
    show Steps p.tables e below (T10.setTop (mkF m 189 #[.val (.int p1), .val (.int p2), .val (.int p3), .val (.int p4), .val (.ref b5), .val (.int (p1 % (64 : Int32))), .val (.int (p2 % (64 : Int32))), .val (.int (p3 % (64 : Int32))), .val (.double (FP.i2d (p4 % (1000 : Int32)))), .second, .val (.ref b7), .val (.int (1 : Int32)), .val (.ref b9), .val (.ref b10)] [(.int (p3 % (64 : Int32)))])) _
    refine XS.iload X10.here hx rfl (hb hby at_189) rfl ?_
    show Steps p.tables e below (T10.setTop (mkF m 191 #[.val (.int p1), .val (.int p2), .val (.int p3), .val (.int p4), .val (.ref b5), .val (.int (p1 % (64 : Int32))), .val (.int (p2 % (64 : Int32))), .val (.int (p3 % (64 : Int32))), .val (.double (FP.i2d (p4 % (1000 : Int32)))), .second, .val (.ref b7), .val (.int (1 : Int32)), .val (.ref b9), .val (.ref b10)] [(.int (p3 % (64 : Int32))), (.int (p3 % (64 : Int32)))])) _
    refine XS.icmpNo X10.here hx rfl (hb hby at_191) rfl (flt hc191).1 ?_
    show Steps p.tables e below (T10.setTop (mkF m 194 #[.val (.int p1), .val (.int p2), .val (.int p3), .val (.int p4), .val (.ref b5), .val (.int (p1 % (64 : Int32))), .val (.int (p2 % (64 : Int32))), .val (.int (p3 % (64 : Int32))), .val (.double (FP.i2d (p4 % (1000 : Int32)))), .second, .val (.ref b7), .val (.int (1 : Int32)), .val (.ref b9), .val (.ref b10)] [])) _
    refine XS.iconst X10.here hx rfl (hb hby at_194) ?_
    show Steps p.tables e below (T10.setTop (mkF m 195 #[.val (.int p1), .val (.int p2), .val (.int p3), .val (.int p4), .val (.ref b5), .val (.int (p1 % (64 : Int32))), .val (.int (p2 % (64 : Int32))), .val (.int (p3 % (64 : Int32))), .val (.double (FP.i2d (p4 % (1000 : Int32)))), .second, .val (.ref b7), .val (.int (1 : Int32)), .val (.ref b9), .val (.ref b10)] [(.int (1 : Int32))])) _
    refine XS.goto X10.here hx rfl (pc0 := 195) (pc' := 199) rfl (hb hby at_195) (by decide) (by decide) ?_
    show Steps p.tables e below (T10.setTop (mkF m 199 #[.val (.int p1), .val (.int p2), .val (.int p3), .val (.int p4), .val (.ref b5), .val (.int (p1 % (64 : Int32))), .val (.int (p2 % (64 : Int32))), .val (.int (p3 % (64 : Int32))), .val (.double (FP.i2d (p4 % (1000 : Int32)))), .second, .val (.ref b7), .val (.int (1 : Int32)), .val (.ref b9), .val (.ref b10)] [(.int (1 : Int32))])) _
    refine XS.istore X10.here hx rfl (hb hby at_199) rfl (l' := #[.val (.int p1), .val (.int p2), .val (.int p3), .val (.int p4), .val (.ref b5), .val (.int (p1 % (64 : Int32))), .val (.int (p2 % (64 : Int32))), .val (.int (p3 % (64 : Int32))), .val (.double (FP.i2d (p4 % (1000 : Int32)))), .second, .val (.ref b7), .val (.int (1 : Int32)), .val (.ref b9), .val (.ref b10)]) rfl ?_
    show Steps p.tables e below (T10.setTop (mkF m 201 #[.val (.int p1), .val (.int p2), .val (.int p3), .val (.int p4), .val (.ref b5), .val (.int (p1 % (64 : Int32))), .val (.int (p2 % (64 : Int32))), .val (.int (p3 % (64 : Int32))), .val (.double (FP.i2d (p4 % (1000 : Int32)))), .second, .val (.ref b7), .val (.int (1 : Int32)), .val (.ref b9), .val (.ref b10)] [])) _
    refine XS.iload X10.here hx rfl (hb hby at_201) rfl ?_
    show Steps p.tables e below (T10.setTop (mkF m 203 #[.val (.int p1), .val (.int p2), .val (.int p3), .val (.int p4), .val (.ref b5), .val (.int (p1 % (64 : Int32))), .val (.int (p2 % (64 : Int32))), .val (.int (p3 % (64 : Int32))), .val (.double (FP.i2d (p4 % (1000 : Int32)))), .second, .val (.ref b7), .val (.int (1 : Int32)), .val (.ref b9), .val (.ref b10)] [(.int (p3 % (64 : Int32)))])) _
    refine XS.aload X10.here hx rfl (hb hby at_203) rfl rfl ?_
    show Steps p.tables e below (T10.setTop (mkF m 205 #[.val (.int p1), .val (.int p2), .val (.int p3), .val (.int p4), .val (.ref b5), .val (.int (p1 % (64 : Int32))), .val (.int (p2 % (64 : Int32))), .val (.int (p3 % (64 : Int32))), .val (.double (FP.i2d (p4 % (1000 : Int32)))), .second, .val (.ref b7), .val (.int (1 : Int32)), .val (.ref b9), .val (.ref b10)] [(.ref b9), (.int (p3 % (64 : Int32)))])) _
    refine X10.arraylength hx (by exact Ar_b9_205.1) (State.isArrayOf_alike hZ.alike Ar_b9_205.2.1) (g := (mkF m 205 #[.val (.int p1), .val (.int p2), .val (.int p3), .val (.int p4), .val (.ref b5), .val (.int (p1 % (64 : Int32))), .val (.int (p2 % (64 : Int32))), .val (.int (p3 % (64 : Int32))), .val (.double (FP.i2d (p4 % (1000 : Int32)))), .second, .val (.ref b7), .val (.int (1 : Int32)), .val (.ref b9), .val (.ref b10)] [(.ref b9), (.int (p3 % (64 : Int32)))])) rfl rfl (hb hby at_205) _ ?_
    rw [len_of S_b9_205 N_b9_205]
    show Steps p.tables e below (T10.setTop (mkF m 206 #[.val (.int p1), .val (.int p2), .val (.int p3), .val (.int p4), .val (.ref b5), .val (.int (p1 % (64 : Int32))), .val (.int (p2 % (64 : Int32))), .val (.int (p3 % (64 : Int32))), .val (.double (FP.i2d (p4 % (1000 : Int32)))), .second, .val (.ref b7), .val (.int (1 : Int32)), .val (.ref b9), .val (.ref b10)] [(.int (p2 % (64 : Int32))), (.int (p3 % (64 : Int32)))])) _
    refine XS.icmpYes X10.here hx rfl (pc0 := 206) (pc' := 228) rfl (hb hby at_206) rfl (tlt hc206).2.2.1 (by decide) (by decide) ?_
    show Steps p.tables e below (T10.setTop (mkF m 228 #[.val (.int p1), .val (.int p2), .val (.int p3), .val (.int p4), .val (.ref b5), .val (.int (p1 % (64 : Int32))), .val (.int (p2 % (64 : Int32))), .val (.int (p3 % (64 : Int32))), .val (.double (FP.i2d (p4 % (1000 : Int32)))), .second, .val (.ref b7), .val (.int (1 : Int32)), .val (.ref b9), .val (.ref b10)] [])) _
    refine XS.iload X10.here hx rfl (hb hby at_228) rfl ?_
    show Steps p.tables e below (T10.setTop (mkF m 230 #[.val (.int p1), .val (.int p2), .val (.int p3), .val (.int p4), .val (.ref b5), .val (.int (p1 % (64 : Int32))), .val (.int (p2 % (64 : Int32))), .val (.int (p3 % (64 : Int32))), .val (.double (FP.i2d (p4 % (1000 : Int32)))), .second, .val (.ref b7), .val (.int (1 : Int32)), .val (.ref b9), .val (.ref b10)] [(.int (1 : Int32))])) _
    exact retN X10 hx (t := .boolean) Bd.returns (by simp) (hb hby at_230) hr
  · show Q0 Z p1 p2 p3 p4 h0 n0 _ T10.heap _
    exact ⟨rfl, N10⟩
set_option maxRecDepth 65536 in
set_option maxHeartbeats 40000000 in
theorem rm0_110 (l : Launch) (Z : State) (a0 : Array Value) (hw : ∀ d ∈ tables_1, d.before a0 Z = true) (ws : List Jvm.Cond) (p1 : Int32) (p2 : Int32) (p3 : Int32) (p4 : Int32) (h0 : Heap) (n0 : Nat) (Z0 : n0 ≤ h0.size) (ho39 : (0 : Int32) < (p1 % (64 : Int32))) (ho86 : (p1 % (64 : Int32)) < (p2 % (64 : Int32))) (ho169 : ¬ ((p2 % (64 : Int32)) < (p3 % (64 : Int32)))) (hc56 : ¬ ((p1 % (64 : Int32)) < (p1 % (64 : Int32)))) (hc69 : (0 : Int32) < (p1 % (64 : Int32))) (hc100 : ¬ ((1 : Int32) = (0 : Int32))) (hc108 : ¬ ((p2 % (64 : Int32)) < (p2 % (64 : Int32)))) (hc123 : (p1 % (64 : Int32)) < (p2 % (64 : Int32))) (hc183 : ¬ ((1 : Int32) = (0 : Int32))) (hc191 : ¬ ((p2 % (64 : Int32)) < (p3 % (64 : Int32)))) (hc206 : ¬ ((p2 % (64 : Int32)) < (p3 % (64 : Int32)))) (hc211 : ¬ ((1 : Int32) = (0 : Int32))) :
    MetFree l x (head1 (Jvm.Cond.code x code maxLocals ret :: ws) room_1) (fun a U => a = #[(.int p1), (.int p2), (.int p3), (.int p4)] ∧ Z.Warmed39 U.vm ∧ U.heap = h0) (fun _ _ _ _ _ => True) (fun _ U o U' => ∃ v L, o = .returned v ∧ Q0 Z p1 p2 p3 p4 h0 n0 v U'.heap L ∧ FrameEnd U o U' L room_1.cells room_1.slots) := by
  refine MetFree.of_bodySF (plainFor_of_name pn_0) hisR ?_
  intro p e s m args below meth c s₁ Bd hml0 hP hK
  obtain ⟨rfl, hZ, hh⟩ := hP
  have hx := Bd.exec
  have hby := Bd.bytes
  have hml : c.maxLocals = 14 := hml0
  have hown : s.vm.findClass "com/example/understory/understory/sim/BufferOfPinLaw" = some m.cls := findClass_of_methodNamed Bd.named
  have hnm := (name_of_methodNamed Bd.named Bd.method).1
  have X0 : Stand p l e room_1 s m #[(.int p1), (.int p2), (.int p3), (.int p4)] below meth c s₁ [] 0 0 := Stand.of_body Bd
  have e0 : s₁.heap = h0 := by rw [← hh, Bd.state]; rfl
  have N0 := Fr.nil n0
  have pre0 : ∀ t, Steps p.tables e below (s₁.setTop (mkF m 0 #[.val (.int p1), .val (.int p2), .val (.int p3), .val (.int p4), .unset, .unset, .unset, .unset, .unset, .unset, .unset, .unset, .unset, .unset] [])) t → Steps p.tables e below (s₁.setTop (entryFrame m #[(.int p1), (.int p2), (.int p3), (.int p4)] maxLocals)) t := fun t k => castTop (ef_0 m p1 p2 p3 p4) k
  obtain ⟨T5, h5, X5, e5, E5, A5, D5, -, st5⟩ := newO X0 hx hZ hown (hw _ (List.mem_of_getElem? (i := 0) rfl)) (hw _ (List.mem_of_getElem? (i := 1) rfl)) (hw _ (List.mem_of_getElem? (i := 2) rfl)) e0 (g := (mkF m 0 #[.val (.int p1), .val (.int p2), .val (.int p3), .val (.int p4), .unset, .unset, .unset, .unset, .unset, .unset, .unset, .unset, .unset, .unset] [])) rfl (hb hby at_0) (by decide) (by decide)
  obtain ⟨b5, g5⟩ : ∃ z, z = h0.size := ⟨_, rfl⟩
  rw [← g5] at A5 D5 st5
  have F_values_b5 : Fld Z h5 b5 "com/example/understory/understory/sim/ColumnEvaluator$Buffer" "values" "[D" .null := D5 (Or.inl (hw _ (List.mem_of_getElem? (i := 11) rfl))) (ty := (.array .double)) (by decide)
  have E_b5 := A5
  have g_b5 : n0 ≤ b5 := Nat.le_trans Z0 (Nat.le_of_eq g5.symm)
  obtain ⟨b6, g6⟩ : ∃ z, z = h5.size := ⟨_, rfl⟩
  have g_b6 : n0 ≤ b6 := Nat.le_trans (Nat.le_trans Z0 E5.1) (Nat.le_of_eq g6.symm)
  have ne_b5_b6 : b5 ≠ b6 := Nat.ne_of_lt (Nat.lt_of_lt_of_le E_b5.lt (Nat.le_of_eq g6.symm))
  obtain ⟨_, _, ⟨T6, L6, k6, n6⟩, -, X6, ⟨Lc6, hQ6, l6, y6, z6⟩, st6⟩ := X5.specialBack hx (y := (⟨"com/example/understory/understory/sim/ColumnEvaluator$Buffer", "<init>", "()V"⟩ : MethodName)) rfl hown (mvT hZ (hw _ (List.mem_of_getElem? (i := 3) rfl))) (mvT hZ (hw _ (List.mem_of_getElem? (i := 4) rfl))) (mvT hZ (hw _ (List.mem_of_getElem? (i := 5) rfl))) (by decide) (backOf (W := 1) (rm1 l Z a0 hw [] b5 .null b6 h5 n0 (Nat.le_trans Z0 E5.1) E_b5 F_values_b5 g_b5 g6) hZ (hw _ (List.mem_of_getElem? (i := 5) rfl)) (hw _ (List.mem_of_getElem? (i := 2) rfl)) (by decide) (by decide)) (g := (mkF m 4 #[.val (.int p1), .val (.int p2), .val (.int p3), .val (.int p4), .unset, .unset, .unset, .unset, .unset, .unset, .unset, .unset, .unset, .unset] [(.ref b5), (.ref b5)])) rfl (by rw [hml]; rfl) (Steps.refl _) (a := b5) (argsL := []) (rest := [(.ref b5)]) (lenOf pd_0_0 rfl) rfl (by show 2 * 0 + _ ≤ _; exact Nat.le_of_eq rfl) (hb hby at_4) (fun _ _ => ⟨rfl, e5, (by decide : 1 + 1 ≤ _), (by decide : 1 + 0 ≤ _)⟩)
  dsimp only [Pt.U, Pt.locs, Pt.cells, Pt.slots] at X6 l6 y6 z6 st6 hQ6
  subst l6 y6 z6
  obtain ⟨rfl, N6q, K6, gE6, gF6, kk6, gV6⟩ := hQ6
  have N6 := Fr.app N0 N6q
  obtain ⟨cq7, kq7, q7a, q7b, q7c⟩ := isOf hZ rfl gE6
  obtain ⟨b7, g7⟩ : ∃ z, z = T6.heap.size := ⟨_, rfl⟩
  have g_b7 : n0 ≤ b7 := Nat.le_trans (Nat.le_trans (Nat.le_trans Z0 E5.1) K6.1) (Nat.le_of_eq g7.symm)
  have ne_b5_b7 : b5 ≠ b7 := Nat.ne_of_lt (Nat.lt_of_lt_of_le gE6.lt (Nat.le_of_eq g7.symm))
  have ne_b6_b7 : b6 ≠ b7 := Nat.ne_of_lt (Nat.lt_of_lt_of_le gV6.lt (Nat.le_of_eq g7.symm))
  obtain ⟨_, _, ⟨T7, L7, k7, n7⟩, -, X7, ⟨Lc7, hQ7, l7, y7, z7⟩, st7⟩ := X6.virtualBack hx (y := (⟨"com/example/understory/understory/sim/ColumnEvaluator$Buffer", "of", "(I)[D"⟩ : MethodName)) (z := (⟨"com/example/understory/understory/sim/ColumnEvaluator$Buffer", "of", "(I)[D"⟩ : MethodName)) hown (mvT hZ (hw _ (List.mem_of_getElem? (i := 12) rfl))) (mvT hZ (hw _ (List.mem_of_getElem? (i := 13) rfl))) (notFace_of_selects (args := #[]) (mvT hZ (hw _ (List.mem_of_getElem? (i := 15) rfl)))) (mvT hZ (hw _ (List.mem_of_getElem? (i := 15) rfl))) (mvT hZ (hw _ (List.mem_of_getElem? (i := 14) rfl))) (by decide) (backOf (W := 0) (rm3F l Z a0 hw [] b5 (p1 % (64 : Int32)) b6 _ (0 : Int32) _ _ b7 T6.heap n0 (Nat.le_trans (Nat.le_trans Z0 E5.1) K6.1) gF6 gV6 gE6 g_b5 ho39 g7 (own_mod _)) hZ (hw _ (List.mem_of_getElem? (i := 16) rfl)) (hw _ (List.mem_of_getElem? (i := 2) rfl)) (by decide) (by decide)) q7a q7c (g := (mkF m 39 #[.val (.int p1), .val (.int p2), .val (.int p3), .val (.int p4), .val (.ref b5), .val (.int (p1 % (64 : Int32))), .val (.int (p2 % (64 : Int32))), .val (.int (p3 % (64 : Int32))), .val (.double (FP.i2d (p4 % (1000 : Int32)))), .second, .unset, .unset, .unset, .unset] [(.int (p1 % (64 : Int32))), (.ref b5)])) rfl (by rw [hml]; rfl) (Steps.refl _) (argsL := [(.int (p1 % (64 : Int32)))]) (rest := []) (lenOf pd_0_1 rfl) rfl (by show 2 * 0 + _ ≤ _; exact Nat.le_of_eq rfl) (hb hby at_39) (fun _ _ => ⟨rfl, rfl, (by decide : 2 + 1 ≤ _), (by decide : 1 + 63 ≤ _)⟩)
  dsimp only [Pt.U, Pt.locs, Pt.cells, Pt.slots] at X7 l7 y7 z7 st7 hQ7
  subst l7 y7 z7
  obtain ⟨rfl, N7q, K7, gE7, gF7, kk7, gV7⟩ := hQ7
  have N7 := Fr.app N6 N7q
  obtain ⟨cl_b7_53, Ar_b7_53, -, S_b7_53, N_b7_53, -, -⟩ := id (gV7)
  obtain ⟨cl_b7_68, Ar_b7_68, -, S_b7_68, N_b7_68, -, -⟩ := id (gV7)
  obtain ⟨cl_b7_76, Ar_b7_76, -, S_b7_76, N_b7_76, -, -⟩ := id (gV7)
  obtain ⟨cl_b7_81, Ar_b7, q_b7, S_b7, N_b7, H_b7, G_b7⟩ := (gV7.pad (pad_rep [] (.double 0) ((p1 % (64 : Int32))).toNatClampNeg))
  have hin81 : ¬ (((p1 % (64 : Int32)) - (1 : Int32)) < 0 ∨ cl_b7_81.slots.size ≤ (((p1 % (64 : Int32)) - (1 : Int32))).toNatClampNeg) := inb_of S_b7 (own_last hc69)
  obtain ⟨T8, h8, X8, e8, W8, st8⟩ := stD X7 hx hZ rfl Ar_b7 (j := ((p1 % (64 : Int32)) - (1 : Int32))) hin81 (g := (mkF m 81 #[.val (.int p1), .val (.int p2), .val (.int p3), .val (.int p4), .val (.ref b5), .val (.int (p1 % (64 : Int32))), .val (.int (p2 % (64 : Int32))), .val (.int (p3 % (64 : Int32))), .val (.double (FP.i2d (p4 % (1000 : Int32)))), .second, .val (.ref b7), .val (.int (1 : Int32)), .unset, .unset] [(.double (FP.i2d (p4 % (1000 : Int32)))), (.int ((p1 % (64 : Int32)) - (1 : Int32))), (.ref b7)])) rfl rfl (hb hby at_81)
  have V_b7_8 := Arv.set Ar_b7 q_b7 S_b7 N_b7 H_b7 G_b7 rfl W8 (((p1 % (64 : Int32)) - (1 : Int32))).toNatClampNeg rfl (own_lenrep hc69 _)
  have N8 := Fr.snoc X8 N7 g_b7
  obtain ⟨cq9, kq9, q9a, q9b, q9c⟩ := isOf hZ e8 (gE7.wr W8)
  obtain ⟨b9, g9⟩ : ∃ z, z = h8.size := ⟨_, rfl⟩
  have g_b9 : n0 ≤ b9 := Nat.le_trans (Nat.le_trans (Nat.le_trans (Nat.le_trans (Nat.le_trans Z0 E5.1) K6.1) K7.1) (Keep.of_wr W8).1) (Nat.le_of_eq g9.symm)
  have ne_b5_b9 : b5 ≠ b9 := Nat.ne_of_lt (Nat.lt_of_lt_of_le (gE7.wr W8).lt (Nat.le_of_eq g9.symm))
  have ne_b6_b9 : b6 ≠ b9 := Nat.ne_of_lt (Nat.lt_of_lt_of_le ((gV6.keep K7 (fun q => (Ne.symm ne_b5_b6) (List.mem_singleton.mp q))).other W8 ne_b6_b7).lt (Nat.le_of_eq g9.symm))
  have ne_b7_b9 : b7 ≠ b9 := Nat.ne_of_lt (Nat.lt_of_lt_of_le V_b7_8.lt (Nat.le_of_eq g9.symm))
  obtain ⟨_, _, ⟨T9, L9, k9, n9⟩, -, X9, ⟨Lc9, hQ9, l9, y9, z9⟩, st9⟩ := X8.virtualBack hx (y := (⟨"com/example/understory/understory/sim/ColumnEvaluator$Buffer", "of", "(I)[D"⟩ : MethodName)) (z := (⟨"com/example/understory/understory/sim/ColumnEvaluator$Buffer", "of", "(I)[D"⟩ : MethodName)) hown (mvT hZ (hw _ (List.mem_of_getElem? (i := 12) rfl))) (mvT hZ (hw _ (List.mem_of_getElem? (i := 13) rfl))) (notFace_of_selects (args := #[]) (mvT hZ (hw _ (List.mem_of_getElem? (i := 15) rfl)))) (mvT hZ (hw _ (List.mem_of_getElem? (i := 15) rfl))) (mvT hZ (hw _ (List.mem_of_getElem? (i := 14) rfl))) (by decide) (backOf (W := 0) (rm3F l Z a0 hw [] b5 (p2 % (64 : Int32)) b7 _ (p1 % (64 : Int32)) _ _ b9 h8 n0 (Nat.le_trans (Nat.le_trans (Nat.le_trans (Nat.le_trans Z0 E5.1) K6.1) K7.1) (Keep.of_wr W8).1) (gF7.other W8 (Or.inl ne_b5_b7)) V_b7_8 (gE7.wr W8) g_b5 ho86 g9 (own_mod _)) hZ (hw _ (List.mem_of_getElem? (i := 16) rfl)) (hw _ (List.mem_of_getElem? (i := 2) rfl)) (by decide) (by decide)) q9a q9c (g := (mkF m 86 #[.val (.int p1), .val (.int p2), .val (.int p3), .val (.int p4), .val (.ref b5), .val (.int (p1 % (64 : Int32))), .val (.int (p2 % (64 : Int32))), .val (.int (p3 % (64 : Int32))), .val (.double (FP.i2d (p4 % (1000 : Int32)))), .second, .val (.ref b7), .val (.int (1 : Int32)), .unset, .unset] [(.int (p2 % (64 : Int32))), (.ref b5)])) rfl (by rw [hml]; rfl) (Steps.refl _) (argsL := [(.int (p2 % (64 : Int32)))]) (rest := []) (lenOf pd_0_1 rfl) rfl (by show 2 * 0 + _ ≤ _; exact Nat.le_of_eq rfl) (hb hby at_86) (fun _ _ => ⟨rfl, e8, (by decide : 3 + 1 ≤ _), (by decide : 64 + 63 ≤ _)⟩)
  dsimp only [Pt.U, Pt.locs, Pt.cells, Pt.slots] at X9 l9 y9 z9 st9 hQ9
  subst l9 y9 z9
  obtain ⟨rfl, N9q, K9, gE9, gF9, kk9, gV9⟩ := hQ9
  have N9 := Fr.app N8 N9q
  obtain ⟨cl_b9_105, Ar_b9_105, -, S_b9_105, N_b9_105, -, -⟩ := id (gV9)
  obtain ⟨cl_b7_122, Ar_b7_122, -, S_b7_122, N_b7_122, -, -⟩ := id ((V_b7_8.keep K9 (fun q => (Ne.symm ne_b5_b7) (List.mem_singleton.mp q))))
  obtain ⟨cq10, kq10, q10a, q10b, q10c⟩ := isOf hZ rfl gE9
  obtain ⟨_, _, ⟨T10, L10, k10, n10⟩, -, X10, ⟨Lc10, hQ10, l10, y10, z10⟩, st10⟩ := X9.virtualBack hx (y := (⟨"com/example/understory/understory/sim/ColumnEvaluator$Buffer", "of", "(I)[D"⟩ : MethodName)) (z := (⟨"com/example/understory/understory/sim/ColumnEvaluator$Buffer", "of", "(I)[D"⟩ : MethodName)) hown (mvT hZ (hw _ (List.mem_of_getElem? (i := 12) rfl))) (mvT hZ (hw _ (List.mem_of_getElem? (i := 13) rfl))) (notFace_of_selects (args := #[]) (mvT hZ (hw _ (List.mem_of_getElem? (i := 15) rfl)))) (mvT hZ (hw _ (List.mem_of_getElem? (i := 15) rfl))) (mvT hZ (hw _ (List.mem_of_getElem? (i := 14) rfl))) (by decide) (backOf (W := 0) (rm3T l Z a0 hw [] b5 (p3 % (64 : Int32)) b9 _ (p2 % (64 : Int32)) _ _ T9.heap n0 (Nat.le_trans (Nat.le_trans (Nat.le_trans (Nat.le_trans (Nat.le_trans Z0 E5.1) K6.1) K7.1) (Keep.of_wr W8).1) K9.1) gF9 gV9 ho169) hZ (hw _ (List.mem_of_getElem? (i := 16) rfl)) (hw _ (List.mem_of_getElem? (i := 2) rfl)) (by decide) (by decide)) q10a q10c (g := (mkF m 169 #[.val (.int p1), .val (.int p2), .val (.int p3), .val (.int p4), .val (.ref b5), .val (.int (p1 % (64 : Int32))), .val (.int (p2 % (64 : Int32))), .val (.int (p3 % (64 : Int32))), .val (.double (FP.i2d (p4 % (1000 : Int32)))), .second, .val (.ref b7), .val (.int (1 : Int32)), .val (.ref b9), .unset] [(.int (p3 % (64 : Int32))), (.ref b5)])) rfl (by rw [hml]; rfl) (Steps.refl _) (argsL := [(.int (p3 % (64 : Int32)))]) (rest := []) (lenOf pd_0_1 rfl) rfl (by show 2 * 0 + _ ≤ _; exact Nat.le_of_eq rfl) (hb hby at_169) (fun _ _ => ⟨rfl, rfl, (by decide : 4 + 0 ≤ _), (by decide : 127 + 0 ≤ _)⟩)
  dsimp only [Pt.U, Pt.locs, Pt.cells, Pt.slots] at X10 l10 y10 z10 st10 hQ10
  subst l10 y10 z10
  obtain ⟨rfl, N10q, e10⟩ := hQ10
  have N10 := Fr.app N9 N10q
  obtain ⟨cl_b9_188, Ar_b9_188, -, S_b9_188, N_b9_188, -, -⟩ := id (gV9)
  obtain ⟨cl_b9_205, Ar_b9_205, -, S_b9_205, N_b9_205, -, -⟩ := id (gV9)
  obtain ⟨fs, hr, hrun, hended, hW, hsame⟩ := X10.leave (v := some (.int (1 : Int32))) (fun h => by rw [Bd.returns] at h; cases h)
  refine ⟨_, _, pre0 _ ?_, hrun, hended, _, _, rfl, ?_, ⟨_, rfl⟩, hW, hsame.mono (by decide) (by decide)⟩
  · show Steps p.tables e below (s₁.setTop (mkF m 0 #[.val (.int p1), .val (.int p2), .val (.int p3), .val (.int p4), .unset, .unset, .unset, .unset, .unset, .unset, .unset, .unset, .unset, .unset] [])) _
    refine st5 _ ?_
    show Steps p.tables e below (T5.setTop (mkF m 3 #[.val (.int p1), .val (.int p2), .val (.int p3), .val (.int p4), .unset, .unset, .unset, .unset, .unset, .unset, .unset, .unset, .unset, .unset] [(.ref b5)])) _
    refine XS.dup X5.here hx rfl (hb hby at_3) rfl rfl ?_
    show Steps p.tables e below (T5.setTop (mkF m 4 #[.val (.int p1), .val (.int p2), .val (.int p3), .val (.int p4), .unset, .unset, .unset, .unset, .unset, .unset, .unset, .unset, .unset, .unset] [(.ref b5), (.ref b5)])) _
    refine st6.trans ?_
    show Steps p.tables e below (T6.setTop (mkF m 7 #[.val (.int p1), .val (.int p2), .val (.int p3), .val (.int p4), .unset, .unset, .unset, .unset, .unset, .unset, .unset, .unset, .unset, .unset] [(.ref b5)])) _
    refine XS.astore X6.here hx rfl (hb hby at_7) rfl rfl (l' := #[.val (.int p1), .val (.int p2), .val (.int p3), .val (.int p4), .val (.ref b5), .unset, .unset, .unset, .unset, .unset, .unset, .unset, .unset, .unset]) rfl ?_
    show Steps p.tables e below (T6.setTop (mkF m 9 #[.val (.int p1), .val (.int p2), .val (.int p3), .val (.int p4), .val (.ref b5), .unset, .unset, .unset, .unset, .unset, .unset, .unset, .unset, .unset] [])) _
    refine XS.iloadN X6.here hx rfl (hb hby at_9) rfl ?_
    show Steps p.tables e below (T6.setTop (mkF m 10 #[.val (.int p1), .val (.int p2), .val (.int p3), .val (.int p4), .val (.ref b5), .unset, .unset, .unset, .unset, .unset, .unset, .unset, .unset, .unset] [(.int p1)])) _
    refine XS.bipush X6.here hx rfl (hb hby at_10) ?_
    show Steps p.tables e below (T6.setTop (mkF m 12 #[.val (.int p1), .val (.int p2), .val (.int p3), .val (.int p4), .val (.ref b5), .unset, .unset, .unset, .unset, .unset, .unset, .unset, .unset, .unset] [(.int (64 : Int32)), (.int p1)])) _
    refine iremM X6 hx rfl (hb hby at_12) rfl (by decide) ?_
    show Steps p.tables e below (T6.setTop (mkF m 13 #[.val (.int p1), .val (.int p2), .val (.int p3), .val (.int p4), .val (.ref b5), .unset, .unset, .unset, .unset, .unset, .unset, .unset, .unset, .unset] [(.int (p1 % (64 : Int32)))])) _
    refine XS.istore X6.here hx rfl (hb hby at_13) rfl (l' := #[.val (.int p1), .val (.int p2), .val (.int p3), .val (.int p4), .val (.ref b5), .val (.int (p1 % (64 : Int32))), .unset, .unset, .unset, .unset, .unset, .unset, .unset, .unset]) rfl ?_
    show Steps p.tables e below (T6.setTop (mkF m 15 #[.val (.int p1), .val (.int p2), .val (.int p3), .val (.int p4), .val (.ref b5), .val (.int (p1 % (64 : Int32))), .unset, .unset, .unset, .unset, .unset, .unset, .unset, .unset] [])) _
    refine XS.iloadN X6.here hx rfl (hb hby at_15) rfl ?_
    show Steps p.tables e below (T6.setTop (mkF m 16 #[.val (.int p1), .val (.int p2), .val (.int p3), .val (.int p4), .val (.ref b5), .val (.int (p1 % (64 : Int32))), .unset, .unset, .unset, .unset, .unset, .unset, .unset, .unset] [(.int p2)])) _
    refine XS.bipush X6.here hx rfl (hb hby at_16) ?_
    show Steps p.tables e below (T6.setTop (mkF m 18 #[.val (.int p1), .val (.int p2), .val (.int p3), .val (.int p4), .val (.ref b5), .val (.int (p1 % (64 : Int32))), .unset, .unset, .unset, .unset, .unset, .unset, .unset, .unset] [(.int (64 : Int32)), (.int p2)])) _
    refine iremM X6 hx rfl (hb hby at_18) rfl (by decide) ?_
    show Steps p.tables e below (T6.setTop (mkF m 19 #[.val (.int p1), .val (.int p2), .val (.int p3), .val (.int p4), .val (.ref b5), .val (.int (p1 % (64 : Int32))), .unset, .unset, .unset, .unset, .unset, .unset, .unset, .unset] [(.int (p2 % (64 : Int32)))])) _
    refine XS.istore X6.here hx rfl (hb hby at_19) rfl (l' := #[.val (.int p1), .val (.int p2), .val (.int p3), .val (.int p4), .val (.ref b5), .val (.int (p1 % (64 : Int32))), .val (.int (p2 % (64 : Int32))), .unset, .unset, .unset, .unset, .unset, .unset, .unset]) rfl ?_
    show Steps p.tables e below (T6.setTop (mkF m 21 #[.val (.int p1), .val (.int p2), .val (.int p3), .val (.int p4), .val (.ref b5), .val (.int (p1 % (64 : Int32))), .val (.int (p2 % (64 : Int32))), .unset, .unset, .unset, .unset, .unset, .unset, .unset] [])) _
    refine XS.iloadN X6.here hx rfl (hb hby at_21) rfl ?_
    show Steps p.tables e below (T6.setTop (mkF m 22 #[.val (.int p1), .val (.int p2), .val (.int p3), .val (.int p4), .val (.ref b5), .val (.int (p1 % (64 : Int32))), .val (.int (p2 % (64 : Int32))), .unset, .unset, .unset, .unset, .unset, .unset, .unset] [(.int p3)])) _
    refine XS.bipush X6.here hx rfl (hb hby at_22) ?_
    show Steps p.tables e below (T6.setTop (mkF m 24 #[.val (.int p1), .val (.int p2), .val (.int p3), .val (.int p4), .val (.ref b5), .val (.int (p1 % (64 : Int32))), .val (.int (p2 % (64 : Int32))), .unset, .unset, .unset, .unset, .unset, .unset, .unset] [(.int (64 : Int32)), (.int p3)])) _
    refine iremM X6 hx rfl (hb hby at_24) rfl (by decide) ?_
    show Steps p.tables e below (T6.setTop (mkF m 25 #[.val (.int p1), .val (.int p2), .val (.int p3), .val (.int p4), .val (.ref b5), .val (.int (p1 % (64 : Int32))), .val (.int (p2 % (64 : Int32))), .unset, .unset, .unset, .unset, .unset, .unset, .unset] [(.int (p3 % (64 : Int32)))])) _
    refine XS.istore X6.here hx rfl (hb hby at_25) rfl (l' := #[.val (.int p1), .val (.int p2), .val (.int p3), .val (.int p4), .val (.ref b5), .val (.int (p1 % (64 : Int32))), .val (.int (p2 % (64 : Int32))), .val (.int (p3 % (64 : Int32))), .unset, .unset, .unset, .unset, .unset, .unset]) rfl ?_
    show Steps p.tables e below (T6.setTop (mkF m 27 #[.val (.int p1), .val (.int p2), .val (.int p3), .val (.int p4), .val (.ref b5), .val (.int (p1 % (64 : Int32))), .val (.int (p2 % (64 : Int32))), .val (.int (p3 % (64 : Int32))), .unset, .unset, .unset, .unset, .unset, .unset] [])) _
    refine XS.iloadN X6.here hx rfl (hb hby at_27) rfl ?_
    show Steps p.tables e below (T6.setTop (mkF m 28 #[.val (.int p1), .val (.int p2), .val (.int p3), .val (.int p4), .val (.ref b5), .val (.int (p1 % (64 : Int32))), .val (.int (p2 % (64 : Int32))), .val (.int (p3 % (64 : Int32))), .unset, .unset, .unset, .unset, .unset, .unset] [(.int p4)])) _
    refine XS.sipush X6.here hx rfl (hb hby at_28) ?_
    show Steps p.tables e below (T6.setTop (mkF m 31 #[.val (.int p1), .val (.int p2), .val (.int p3), .val (.int p4), .val (.ref b5), .val (.int (p1 % (64 : Int32))), .val (.int (p2 % (64 : Int32))), .val (.int (p3 % (64 : Int32))), .unset, .unset, .unset, .unset, .unset, .unset] [(.int (1000 : Int32)), (.int p4)])) _
    refine iremM X6 hx rfl (hb hby at_31) rfl (by decide) ?_
    show Steps p.tables e below (T6.setTop (mkF m 32 #[.val (.int p1), .val (.int p2), .val (.int p3), .val (.int p4), .val (.ref b5), .val (.int (p1 % (64 : Int32))), .val (.int (p2 % (64 : Int32))), .val (.int (p3 % (64 : Int32))), .unset, .unset, .unset, .unset, .unset, .unset] [(.int (p4 % (1000 : Int32)))])) _
    refine XS.i2dS X6.here hx rfl (hb hby at_32) rfl rfl ?_
    show Steps p.tables e below (T6.setTop (mkF m 33 #[.val (.int p1), .val (.int p2), .val (.int p3), .val (.int p4), .val (.ref b5), .val (.int (p1 % (64 : Int32))), .val (.int (p2 % (64 : Int32))), .val (.int (p3 % (64 : Int32))), .unset, .unset, .unset, .unset, .unset, .unset] [(.double (FP.i2d (p4 % (1000 : Int32))))])) _
    refine XS.dstore X6.here hx rfl (hb hby at_33) rfl (l' := #[.val (.int p1), .val (.int p2), .val (.int p3), .val (.int p4), .val (.ref b5), .val (.int (p1 % (64 : Int32))), .val (.int (p2 % (64 : Int32))), .val (.int (p3 % (64 : Int32))), .val (.double (FP.i2d (p4 % (1000 : Int32)))), .second, .unset, .unset, .unset, .unset]) rfl ?_
    show Steps p.tables e below (T6.setTop (mkF m 35 #[.val (.int p1), .val (.int p2), .val (.int p3), .val (.int p4), .val (.ref b5), .val (.int (p1 % (64 : Int32))), .val (.int (p2 % (64 : Int32))), .val (.int (p3 % (64 : Int32))), .val (.double (FP.i2d (p4 % (1000 : Int32)))), .second, .unset, .unset, .unset, .unset] [])) _
    refine XS.aload X6.here hx rfl (hb hby at_35) rfl rfl ?_
    show Steps p.tables e below (T6.setTop (mkF m 37 #[.val (.int p1), .val (.int p2), .val (.int p3), .val (.int p4), .val (.ref b5), .val (.int (p1 % (64 : Int32))), .val (.int (p2 % (64 : Int32))), .val (.int (p3 % (64 : Int32))), .val (.double (FP.i2d (p4 % (1000 : Int32)))), .second, .unset, .unset, .unset, .unset] [(.ref b5)])) _
    refine XS.iload X6.here hx rfl (hb hby at_37) rfl ?_
    show Steps p.tables e below (T6.setTop (mkF m 39 #[.val (.int p1), .val (.int p2), .val (.int p3), .val (.int p4), .val (.ref b5), .val (.int (p1 % (64 : Int32))), .val (.int (p2 % (64 : Int32))), .val (.int (p3 % (64 : Int32))), .val (.double (FP.i2d (p4 % (1000 : Int32)))), .second, .unset, .unset, .unset, .unset] [(.int (p1 % (64 : Int32))), (.ref b5)])) _
    refine st7.trans ?_
    show Steps p.tables e below (T7.setTop (mkF m 42 #[.val (.int p1), .val (.int p2), .val (.int p3), .val (.int p4), .val (.ref b5), .val (.int (p1 % (64 : Int32))), .val (.int (p2 % (64 : Int32))), .val (.int (p3 % (64 : Int32))), .val (.double (FP.i2d (p4 % (1000 : Int32)))), .second, .unset, .unset, .unset, .unset] [(.ref b7)])) _
    refine XS.astore X7.here hx rfl (hb hby at_42) rfl rfl (l' := #[.val (.int p1), .val (.int p2), .val (.int p3), .val (.int p4), .val (.ref b5), .val (.int (p1 % (64 : Int32))), .val (.int (p2 % (64 : Int32))), .val (.int (p3 % (64 : Int32))), .val (.double (FP.i2d (p4 % (1000 : Int32)))), .second, .val (.ref b7), .unset, .unset, .unset]) rfl ?_
    show Steps p.tables e below (T7.setTop (mkF m 44 #[.val (.int p1), .val (.int p2), .val (.int p3), .val (.int p4), .val (.ref b5), .val (.int (p1 % (64 : Int32))), .val (.int (p2 % (64 : Int32))), .val (.int (p3 % (64 : Int32))), .val (.double (FP.i2d (p4 % (1000 : Int32)))), .second, .val (.ref b7), .unset, .unset, .unset] [])) _
    refine XS.aload X7.here hx rfl (hb hby at_44) rfl rfl ?_
    show Steps p.tables e below (T7.setTop (mkF m 46 #[.val (.int p1), .val (.int p2), .val (.int p3), .val (.int p4), .val (.ref b5), .val (.int (p1 % (64 : Int32))), .val (.int (p2 % (64 : Int32))), .val (.int (p3 % (64 : Int32))), .val (.double (FP.i2d (p4 % (1000 : Int32)))), .second, .val (.ref b7), .unset, .unset, .unset] [(.ref b7)])) _
    refine XS.ifnonnullYes X7.here hx rfl (pc0 := 46) (pc' := 51) rfl (hb hby at_46) rfl (by decide) (by decide) ?_
    show Steps p.tables e below (T7.setTop (mkF m 51 #[.val (.int p1), .val (.int p2), .val (.int p3), .val (.int p4), .val (.ref b5), .val (.int (p1 % (64 : Int32))), .val (.int (p2 % (64 : Int32))), .val (.int (p3 % (64 : Int32))), .val (.double (FP.i2d (p4 % (1000 : Int32)))), .second, .val (.ref b7), .unset, .unset, .unset] [])) _
    refine XS.aload X7.here hx rfl (hb hby at_51) rfl rfl ?_
    show Steps p.tables e below (T7.setTop (mkF m 53 #[.val (.int p1), .val (.int p2), .val (.int p3), .val (.int p4), .val (.ref b5), .val (.int (p1 % (64 : Int32))), .val (.int (p2 % (64 : Int32))), .val (.int (p3 % (64 : Int32))), .val (.double (FP.i2d (p4 % (1000 : Int32)))), .second, .val (.ref b7), .unset, .unset, .unset] [(.ref b7)])) _
    refine X7.arraylength hx (by exact Ar_b7_53.1) (State.isArrayOf_alike hZ.alike Ar_b7_53.2.1) (g := (mkF m 53 #[.val (.int p1), .val (.int p2), .val (.int p3), .val (.int p4), .val (.ref b5), .val (.int (p1 % (64 : Int32))), .val (.int (p2 % (64 : Int32))), .val (.int (p3 % (64 : Int32))), .val (.double (FP.i2d (p4 % (1000 : Int32)))), .second, .val (.ref b7), .unset, .unset, .unset] [(.ref b7)])) rfl rfl (hb hby at_53) _ ?_
    rw [len_of S_b7_53 N_b7_53]
    show Steps p.tables e below (T7.setTop (mkF m 54 #[.val (.int p1), .val (.int p2), .val (.int p3), .val (.int p4), .val (.ref b5), .val (.int (p1 % (64 : Int32))), .val (.int (p2 % (64 : Int32))), .val (.int (p3 % (64 : Int32))), .val (.double (FP.i2d (p4 % (1000 : Int32)))), .second, .val (.ref b7), .unset, .unset, .unset] [(.int (p1 % (64 : Int32)))])) _
    refine XS.iload X7.here hx rfl (hb hby at_54) rfl ?_
    show Steps p.tables e below (T7.setTop (mkF m 56 #[.val (.int p1), .val (.int p2), .val (.int p3), .val (.int p4), .val (.ref b5), .val (.int (p1 % (64 : Int32))), .val (.int (p2 % (64 : Int32))), .val (.int (p3 % (64 : Int32))), .val (.double (FP.i2d (p4 % (1000 : Int32)))), .second, .val (.ref b7), .unset, .unset, .unset] [(.int (p1 % (64 : Int32))), (.int (p1 % (64 : Int32)))])) _
    refine XS.icmpNo X7.here hx rfl (hb hby at_56) rfl (flt hc56).1 ?_
    show Steps p.tables e below (T7.setTop (mkF m 59 #[.val (.int p1), .val (.int p2), .val (.int p3), .val (.int p4), .val (.ref b5), .val (.int (p1 % (64 : Int32))), .val (.int (p2 % (64 : Int32))), .val (.int (p3 % (64 : Int32))), .val (.double (FP.i2d (p4 % (1000 : Int32)))), .second, .val (.ref b7), .unset, .unset, .unset] [])) _
    refine XS.iconst X7.here hx rfl (hb hby at_59) ?_
    show Steps p.tables e below (T7.setTop (mkF m 60 #[.val (.int p1), .val (.int p2), .val (.int p3), .val (.int p4), .val (.ref b5), .val (.int (p1 % (64 : Int32))), .val (.int (p2 % (64 : Int32))), .val (.int (p3 % (64 : Int32))), .val (.double (FP.i2d (p4 % (1000 : Int32)))), .second, .val (.ref b7), .unset, .unset, .unset] [(.int (1 : Int32))])) _
    refine XS.goto X7.here hx rfl (pc0 := 60) (pc' := 64) rfl (hb hby at_60) (by decide) (by decide) ?_
    show Steps p.tables e below (T7.setTop (mkF m 64 #[.val (.int p1), .val (.int p2), .val (.int p3), .val (.int p4), .val (.ref b5), .val (.int (p1 % (64 : Int32))), .val (.int (p2 % (64 : Int32))), .val (.int (p3 % (64 : Int32))), .val (.double (FP.i2d (p4 % (1000 : Int32)))), .second, .val (.ref b7), .unset, .unset, .unset] [(.int (1 : Int32))])) _
    refine XS.istore X7.here hx rfl (hb hby at_64) rfl (l' := #[.val (.int p1), .val (.int p2), .val (.int p3), .val (.int p4), .val (.ref b5), .val (.int (p1 % (64 : Int32))), .val (.int (p2 % (64 : Int32))), .val (.int (p3 % (64 : Int32))), .val (.double (FP.i2d (p4 % (1000 : Int32)))), .second, .val (.ref b7), .val (.int (1 : Int32)), .unset, .unset]) rfl ?_
    show Steps p.tables e below (T7.setTop (mkF m 66 #[.val (.int p1), .val (.int p2), .val (.int p3), .val (.int p4), .val (.ref b5), .val (.int (p1 % (64 : Int32))), .val (.int (p2 % (64 : Int32))), .val (.int (p3 % (64 : Int32))), .val (.double (FP.i2d (p4 % (1000 : Int32)))), .second, .val (.ref b7), .val (.int (1 : Int32)), .unset, .unset] [])) _
    refine XS.aload X7.here hx rfl (hb hby at_66) rfl rfl ?_
    show Steps p.tables e below (T7.setTop (mkF m 68 #[.val (.int p1), .val (.int p2), .val (.int p3), .val (.int p4), .val (.ref b5), .val (.int (p1 % (64 : Int32))), .val (.int (p2 % (64 : Int32))), .val (.int (p3 % (64 : Int32))), .val (.double (FP.i2d (p4 % (1000 : Int32)))), .second, .val (.ref b7), .val (.int (1 : Int32)), .unset, .unset] [(.ref b7)])) _
    refine X7.arraylength hx (by exact Ar_b7_68.1) (State.isArrayOf_alike hZ.alike Ar_b7_68.2.1) (g := (mkF m 68 #[.val (.int p1), .val (.int p2), .val (.int p3), .val (.int p4), .val (.ref b5), .val (.int (p1 % (64 : Int32))), .val (.int (p2 % (64 : Int32))), .val (.int (p3 % (64 : Int32))), .val (.double (FP.i2d (p4 % (1000 : Int32)))), .second, .val (.ref b7), .val (.int (1 : Int32)), .unset, .unset] [(.ref b7)])) rfl rfl (hb hby at_68) _ ?_
    rw [len_of S_b7_68 N_b7_68]
    show Steps p.tables e below (T7.setTop (mkF m 69 #[.val (.int p1), .val (.int p2), .val (.int p3), .val (.int p4), .val (.ref b5), .val (.int (p1 % (64 : Int32))), .val (.int (p2 % (64 : Int32))), .val (.int (p3 % (64 : Int32))), .val (.double (FP.i2d (p4 % (1000 : Int32)))), .second, .val (.ref b7), .val (.int (1 : Int32)), .unset, .unset] [(.int (p1 % (64 : Int32)))])) _
    refine XS.ifNo X7.here hx rfl (hb hby at_69) rfl ((if0 _ _).trans (tlt hc69).2.2.2) ?_
    show Steps p.tables e below (T7.setTop (mkF m 72 #[.val (.int p1), .val (.int p2), .val (.int p3), .val (.int p4), .val (.ref b5), .val (.int (p1 % (64 : Int32))), .val (.int (p2 % (64 : Int32))), .val (.int (p3 % (64 : Int32))), .val (.double (FP.i2d (p4 % (1000 : Int32)))), .second, .val (.ref b7), .val (.int (1 : Int32)), .unset, .unset] [])) _
    refine XS.aload X7.here hx rfl (hb hby at_72) rfl rfl ?_
    show Steps p.tables e below (T7.setTop (mkF m 74 #[.val (.int p1), .val (.int p2), .val (.int p3), .val (.int p4), .val (.ref b5), .val (.int (p1 % (64 : Int32))), .val (.int (p2 % (64 : Int32))), .val (.int (p3 % (64 : Int32))), .val (.double (FP.i2d (p4 % (1000 : Int32)))), .second, .val (.ref b7), .val (.int (1 : Int32)), .unset, .unset] [(.ref b7)])) _
    refine XS.aload X7.here hx rfl (hb hby at_74) rfl rfl ?_
    show Steps p.tables e below (T7.setTop (mkF m 76 #[.val (.int p1), .val (.int p2), .val (.int p3), .val (.int p4), .val (.ref b5), .val (.int (p1 % (64 : Int32))), .val (.int (p2 % (64 : Int32))), .val (.int (p3 % (64 : Int32))), .val (.double (FP.i2d (p4 % (1000 : Int32)))), .second, .val (.ref b7), .val (.int (1 : Int32)), .unset, .unset] [(.ref b7), (.ref b7)])) _
    refine X7.arraylength hx (by exact Ar_b7_76.1) (State.isArrayOf_alike hZ.alike Ar_b7_76.2.1) (g := (mkF m 76 #[.val (.int p1), .val (.int p2), .val (.int p3), .val (.int p4), .val (.ref b5), .val (.int (p1 % (64 : Int32))), .val (.int (p2 % (64 : Int32))), .val (.int (p3 % (64 : Int32))), .val (.double (FP.i2d (p4 % (1000 : Int32)))), .second, .val (.ref b7), .val (.int (1 : Int32)), .unset, .unset] [(.ref b7), (.ref b7)])) rfl rfl (hb hby at_76) _ ?_
    rw [len_of S_b7_76 N_b7_76]
    show Steps p.tables e below (T7.setTop (mkF m 77 #[.val (.int p1), .val (.int p2), .val (.int p3), .val (.int p4), .val (.ref b5), .val (.int (p1 % (64 : Int32))), .val (.int (p2 % (64 : Int32))), .val (.int (p3 % (64 : Int32))), .val (.double (FP.i2d (p4 % (1000 : Int32)))), .second, .val (.ref b7), .val (.int (1 : Int32)), .unset, .unset] [(.int (p1 % (64 : Int32))), (.ref b7)])) _
    refine XS.iconst X7.here hx rfl (hb hby at_77) ?_
    show Steps p.tables e below (T7.setTop (mkF m 78 #[.val (.int p1), .val (.int p2), .val (.int p3), .val (.int p4), .val (.ref b5), .val (.int (p1 % (64 : Int32))), .val (.int (p2 % (64 : Int32))), .val (.int (p3 % (64 : Int32))), .val (.double (FP.i2d (p4 % (1000 : Int32)))), .second, .val (.ref b7), .val (.int (1 : Int32)), .unset, .unset] [(.int (1 : Int32)), (.int (p1 % (64 : Int32))), (.ref b7)])) _
    refine XS.isub X7.here hx rfl (hb hby at_78) rfl ?_
    show Steps p.tables e below (T7.setTop (mkF m 79 #[.val (.int p1), .val (.int p2), .val (.int p3), .val (.int p4), .val (.ref b5), .val (.int (p1 % (64 : Int32))), .val (.int (p2 % (64 : Int32))), .val (.int (p3 % (64 : Int32))), .val (.double (FP.i2d (p4 % (1000 : Int32)))), .second, .val (.ref b7), .val (.int (1 : Int32)), .unset, .unset] [(.int ((p1 % (64 : Int32)) - (1 : Int32))), (.ref b7)])) _
    refine XS.dload X7.here hx rfl (hb hby at_79) rfl ?_
    show Steps p.tables e below (T7.setTop (mkF m 81 #[.val (.int p1), .val (.int p2), .val (.int p3), .val (.int p4), .val (.ref b5), .val (.int (p1 % (64 : Int32))), .val (.int (p2 % (64 : Int32))), .val (.int (p3 % (64 : Int32))), .val (.double (FP.i2d (p4 % (1000 : Int32)))), .second, .val (.ref b7), .val (.int (1 : Int32)), .unset, .unset] [(.double (FP.i2d (p4 % (1000 : Int32)))), (.int ((p1 % (64 : Int32)) - (1 : Int32))), (.ref b7)])) _
    refine st8 _ ?_
    show Steps p.tables e below (T8.setTop (mkF m 82 #[.val (.int p1), .val (.int p2), .val (.int p3), .val (.int p4), .val (.ref b5), .val (.int (p1 % (64 : Int32))), .val (.int (p2 % (64 : Int32))), .val (.int (p3 % (64 : Int32))), .val (.double (FP.i2d (p4 % (1000 : Int32)))), .second, .val (.ref b7), .val (.int (1 : Int32)), .unset, .unset] [])) _
    refine XS.aload X8.here hx rfl (hb hby at_82) rfl rfl ?_
    show Steps p.tables e below (T8.setTop (mkF m 84 #[.val (.int p1), .val (.int p2), .val (.int p3), .val (.int p4), .val (.ref b5), .val (.int (p1 % (64 : Int32))), .val (.int (p2 % (64 : Int32))), .val (.int (p3 % (64 : Int32))), .val (.double (FP.i2d (p4 % (1000 : Int32)))), .second, .val (.ref b7), .val (.int (1 : Int32)), .unset, .unset] [(.ref b5)])) _
    refine XS.iload X8.here hx rfl (hb hby at_84) rfl ?_
    show Steps p.tables e below (T8.setTop (mkF m 86 #[.val (.int p1), .val (.int p2), .val (.int p3), .val (.int p4), .val (.ref b5), .val (.int (p1 % (64 : Int32))), .val (.int (p2 % (64 : Int32))), .val (.int (p3 % (64 : Int32))), .val (.double (FP.i2d (p4 % (1000 : Int32)))), .second, .val (.ref b7), .val (.int (1 : Int32)), .unset, .unset] [(.int (p2 % (64 : Int32))), (.ref b5)])) _
    refine st9.trans ?_
    show Steps p.tables e below (T9.setTop (mkF m 89 #[.val (.int p1), .val (.int p2), .val (.int p3), .val (.int p4), .val (.ref b5), .val (.int (p1 % (64 : Int32))), .val (.int (p2 % (64 : Int32))), .val (.int (p3 % (64 : Int32))), .val (.double (FP.i2d (p4 % (1000 : Int32)))), .second, .val (.ref b7), .val (.int (1 : Int32)), .unset, .unset] [(.ref b9)])) _
    refine XS.astore X9.here hx rfl (hb hby at_89) rfl rfl (l' := #[.val (.int p1), .val (.int p2), .val (.int p3), .val (.int p4), .val (.ref b5), .val (.int (p1 % (64 : Int32))), .val (.int (p2 % (64 : Int32))), .val (.int (p3 % (64 : Int32))), .val (.double (FP.i2d (p4 % (1000 : Int32)))), .second, .val (.ref b7), .val (.int (1 : Int32)), .val (.ref b9), .unset]) rfl ?_
    show Steps p.tables e below (T9.setTop (mkF m 91 #[.val (.int p1), .val (.int p2), .val (.int p3), .val (.int p4), .val (.ref b5), .val (.int (p1 % (64 : Int32))), .val (.int (p2 % (64 : Int32))), .val (.int (p3 % (64 : Int32))), .val (.double (FP.i2d (p4 % (1000 : Int32)))), .second, .val (.ref b7), .val (.int (1 : Int32)), .val (.ref b9), .unset] [])) _
    refine XS.aload X9.here hx rfl (hb hby at_91) rfl rfl ?_
    show Steps p.tables e below (T9.setTop (mkF m 93 #[.val (.int p1), .val (.int p2), .val (.int p3), .val (.int p4), .val (.ref b5), .val (.int (p1 % (64 : Int32))), .val (.int (p2 % (64 : Int32))), .val (.int (p3 % (64 : Int32))), .val (.double (FP.i2d (p4 % (1000 : Int32)))), .second, .val (.ref b7), .val (.int (1 : Int32)), .val (.ref b9), .unset] [(.ref b9)])) _
    refine XS.ifnonnullYes X9.here hx rfl (pc0 := 93) (pc' := 98) rfl (hb hby at_93) rfl (by decide) (by decide) ?_
    show Steps p.tables e below (T9.setTop (mkF m 98 #[.val (.int p1), .val (.int p2), .val (.int p3), .val (.int p4), .val (.ref b5), .val (.int (p1 % (64 : Int32))), .val (.int (p2 % (64 : Int32))), .val (.int (p3 % (64 : Int32))), .val (.double (FP.i2d (p4 % (1000 : Int32)))), .second, .val (.ref b7), .val (.int (1 : Int32)), .val (.ref b9), .unset] [])) _
    refine XS.iload X9.here hx rfl (hb hby at_98) rfl ?_
    show Steps p.tables e below (T9.setTop (mkF m 100 #[.val (.int p1), .val (.int p2), .val (.int p3), .val (.int p4), .val (.ref b5), .val (.int (p1 % (64 : Int32))), .val (.int (p2 % (64 : Int32))), .val (.int (p3 % (64 : Int32))), .val (.double (FP.i2d (p4 % (1000 : Int32)))), .second, .val (.ref b7), .val (.int (1 : Int32)), .val (.ref b9), .unset] [(.int (1 : Int32))])) _
    refine XS.ifNo X9.here hx rfl (hb hby at_100) rfl ((if0 _ _).trans (feq hc100).1) ?_
    show Steps p.tables e below (T9.setTop (mkF m 103 #[.val (.int p1), .val (.int p2), .val (.int p3), .val (.int p4), .val (.ref b5), .val (.int (p1 % (64 : Int32))), .val (.int (p2 % (64 : Int32))), .val (.int (p3 % (64 : Int32))), .val (.double (FP.i2d (p4 % (1000 : Int32)))), .second, .val (.ref b7), .val (.int (1 : Int32)), .val (.ref b9), .unset] [])) _
    refine XS.aload X9.here hx rfl (hb hby at_103) rfl rfl ?_
    show Steps p.tables e below (T9.setTop (mkF m 105 #[.val (.int p1), .val (.int p2), .val (.int p3), .val (.int p4), .val (.ref b5), .val (.int (p1 % (64 : Int32))), .val (.int (p2 % (64 : Int32))), .val (.int (p3 % (64 : Int32))), .val (.double (FP.i2d (p4 % (1000 : Int32)))), .second, .val (.ref b7), .val (.int (1 : Int32)), .val (.ref b9), .unset] [(.ref b9)])) _
    refine X9.arraylength hx (by exact Ar_b9_105.1) (State.isArrayOf_alike hZ.alike Ar_b9_105.2.1) (g := (mkF m 105 #[.val (.int p1), .val (.int p2), .val (.int p3), .val (.int p4), .val (.ref b5), .val (.int (p1 % (64 : Int32))), .val (.int (p2 % (64 : Int32))), .val (.int (p3 % (64 : Int32))), .val (.double (FP.i2d (p4 % (1000 : Int32)))), .second, .val (.ref b7), .val (.int (1 : Int32)), .val (.ref b9), .unset] [(.ref b9)])) rfl rfl (hb hby at_105) _ ?_
    rw [len_of S_b9_105 N_b9_105]
    show Steps p.tables e below (T9.setTop (mkF m 106 #[.val (.int p1), .val (.int p2), .val (.int p3), .val (.int p4), .val (.ref b5), .val (.int (p1 % (64 : Int32))), .val (.int (p2 % (64 : Int32))), .val (.int (p3 % (64 : Int32))), .val (.double (FP.i2d (p4 % (1000 : Int32)))), .second, .val (.ref b7), .val (.int (1 : Int32)), .val (.ref b9), .unset] [(.int (p2 % (64 : Int32)))])) _
    refine XS.iload X9.here hx rfl (hb hby at_106) rfl ?_
    show Steps p.tables e below (T9.setTop (mkF m 108 #[.val (.int p1), .val (.int p2), .val (.int p3), .val (.int p4), .val (.ref b5), .val (.int (p1 % (64 : Int32))), .val (.int (p2 % (64 : Int32))), .val (.int (p3 % (64 : Int32))), .val (.double (FP.i2d (p4 % (1000 : Int32)))), .second, .val (.ref b7), .val (.int (1 : Int32)), .val (.ref b9), .unset] [(.int (p2 % (64 : Int32))), (.int (p2 % (64 : Int32)))])) _
    refine XS.icmpNo X9.here hx rfl (hb hby at_108) rfl (flt hc108).1 ?_
    show Steps p.tables e below (T9.setTop (mkF m 111 #[.val (.int p1), .val (.int p2), .val (.int p3), .val (.int p4), .val (.ref b5), .val (.int (p1 % (64 : Int32))), .val (.int (p2 % (64 : Int32))), .val (.int (p3 % (64 : Int32))), .val (.double (FP.i2d (p4 % (1000 : Int32)))), .second, .val (.ref b7), .val (.int (1 : Int32)), .val (.ref b9), .unset] [])) _
    refine XS.iconst X9.here hx rfl (hb hby at_111) ?_
    show Steps p.tables e below (T9.setTop (mkF m 112 #[.val (.int p1), .val (.int p2), .val (.int p3), .val (.int p4), .val (.ref b5), .val (.int (p1 % (64 : Int32))), .val (.int (p2 % (64 : Int32))), .val (.int (p3 % (64 : Int32))), .val (.double (FP.i2d (p4 % (1000 : Int32)))), .second, .val (.ref b7), .val (.int (1 : Int32)), .val (.ref b9), .unset] [(.int (1 : Int32))])) _
    refine XS.goto X9.here hx rfl (pc0 := 112) (pc' := 116) rfl (hb hby at_112) (by decide) (by decide) ?_
    show Steps p.tables e below (T9.setTop (mkF m 116 #[.val (.int p1), .val (.int p2), .val (.int p3), .val (.int p4), .val (.ref b5), .val (.int (p1 % (64 : Int32))), .val (.int (p2 % (64 : Int32))), .val (.int (p3 % (64 : Int32))), .val (.double (FP.i2d (p4 % (1000 : Int32)))), .second, .val (.ref b7), .val (.int (1 : Int32)), .val (.ref b9), .unset] [(.int (1 : Int32))])) _
    refine XS.istore X9.here hx rfl (hb hby at_116) rfl (l' := #[.val (.int p1), .val (.int p2), .val (.int p3), .val (.int p4), .val (.ref b5), .val (.int (p1 % (64 : Int32))), .val (.int (p2 % (64 : Int32))), .val (.int (p3 % (64 : Int32))), .val (.double (FP.i2d (p4 % (1000 : Int32)))), .second, .val (.ref b7), .val (.int (1 : Int32)), .val (.ref b9), .unset]) rfl ?_
    show Steps p.tables e below (T9.setTop (mkF m 118 #[.val (.int p1), .val (.int p2), .val (.int p3), .val (.int p4), .val (.ref b5), .val (.int (p1 % (64 : Int32))), .val (.int (p2 % (64 : Int32))), .val (.int (p3 % (64 : Int32))), .val (.double (FP.i2d (p4 % (1000 : Int32)))), .second, .val (.ref b7), .val (.int (1 : Int32)), .val (.ref b9), .unset] [])) _
    refine XS.iload X9.here hx rfl (hb hby at_118) rfl ?_
    show Steps p.tables e below (T9.setTop (mkF m 120 #[.val (.int p1), .val (.int p2), .val (.int p3), .val (.int p4), .val (.ref b5), .val (.int (p1 % (64 : Int32))), .val (.int (p2 % (64 : Int32))), .val (.int (p3 % (64 : Int32))), .val (.double (FP.i2d (p4 % (1000 : Int32)))), .second, .val (.ref b7), .val (.int (1 : Int32)), .val (.ref b9), .unset] [(.int (p2 % (64 : Int32)))])) _
    refine XS.aload X9.here hx rfl (hb hby at_120) rfl rfl ?_
    show Steps p.tables e below (T9.setTop (mkF m 122 #[.val (.int p1), .val (.int p2), .val (.int p3), .val (.int p4), .val (.ref b5), .val (.int (p1 % (64 : Int32))), .val (.int (p2 % (64 : Int32))), .val (.int (p3 % (64 : Int32))), .val (.double (FP.i2d (p4 % (1000 : Int32)))), .second, .val (.ref b7), .val (.int (1 : Int32)), .val (.ref b9), .unset] [(.ref b7), (.int (p2 % (64 : Int32)))])) _
    refine X9.arraylength hx (by exact Ar_b7_122.1) (State.isArrayOf_alike hZ.alike Ar_b7_122.2.1) (g := (mkF m 122 #[.val (.int p1), .val (.int p2), .val (.int p3), .val (.int p4), .val (.ref b5), .val (.int (p1 % (64 : Int32))), .val (.int (p2 % (64 : Int32))), .val (.int (p3 % (64 : Int32))), .val (.double (FP.i2d (p4 % (1000 : Int32)))), .second, .val (.ref b7), .val (.int (1 : Int32)), .val (.ref b9), .unset] [(.ref b7), (.int (p2 % (64 : Int32)))])) rfl rfl (hb hby at_122) _ ?_
    rw [len_of S_b7_122 N_b7_122]
    show Steps p.tables e below (T9.setTop (mkF m 123 #[.val (.int p1), .val (.int p2), .val (.int p3), .val (.int p4), .val (.ref b5), .val (.int (p1 % (64 : Int32))), .val (.int (p2 % (64 : Int32))), .val (.int (p3 % (64 : Int32))), .val (.double (FP.i2d (p4 % (1000 : Int32)))), .second, .val (.ref b7), .val (.int (1 : Int32)), .val (.ref b9), .unset] [(.int (p1 % (64 : Int32))), (.int (p2 % (64 : Int32)))])) _
    refine XS.icmpYes X9.here hx rfl (pc0 := 123) (pc' := 165) rfl (hb hby at_123) rfl (tlt hc123).2.2.1 (by decide) (by decide) ?_
    show Steps p.tables e below (T9.setTop (mkF m 165 #[.val (.int p1), .val (.int p2), .val (.int p3), .val (.int p4), .val (.ref b5), .val (.int (p1 % (64 : Int32))), .val (.int (p2 % (64 : Int32))), .val (.int (p3 % (64 : Int32))), .val (.double (FP.i2d (p4 % (1000 : Int32)))), .second, .val (.ref b7), .val (.int (1 : Int32)), .val (.ref b9), .unset] [])) _
    refine XS.aload X9.here hx rfl (hb hby at_165) rfl rfl ?_
    show Steps p.tables e below (T9.setTop (mkF m 167 #[.val (.int p1), .val (.int p2), .val (.int p3), .val (.int p4), .val (.ref b5), .val (.int (p1 % (64 : Int32))), .val (.int (p2 % (64 : Int32))), .val (.int (p3 % (64 : Int32))), .val (.double (FP.i2d (p4 % (1000 : Int32)))), .second, .val (.ref b7), .val (.int (1 : Int32)), .val (.ref b9), .unset] [(.ref b5)])) _
    refine XS.iload X9.here hx rfl (hb hby at_167) rfl ?_
    show Steps p.tables e below (T9.setTop (mkF m 169 #[.val (.int p1), .val (.int p2), .val (.int p3), .val (.int p4), .val (.ref b5), .val (.int (p1 % (64 : Int32))), .val (.int (p2 % (64 : Int32))), .val (.int (p3 % (64 : Int32))), .val (.double (FP.i2d (p4 % (1000 : Int32)))), .second, .val (.ref b7), .val (.int (1 : Int32)), .val (.ref b9), .unset] [(.int (p3 % (64 : Int32))), (.ref b5)])) _
    refine st10.trans ?_
    show Steps p.tables e below (T10.setTop (mkF m 172 #[.val (.int p1), .val (.int p2), .val (.int p3), .val (.int p4), .val (.ref b5), .val (.int (p1 % (64 : Int32))), .val (.int (p2 % (64 : Int32))), .val (.int (p3 % (64 : Int32))), .val (.double (FP.i2d (p4 % (1000 : Int32)))), .second, .val (.ref b7), .val (.int (1 : Int32)), .val (.ref b9), .unset] [(.ref b9)])) _
    refine XS.astore X10.here hx rfl (hb hby at_172) rfl rfl (l' := #[.val (.int p1), .val (.int p2), .val (.int p3), .val (.int p4), .val (.ref b5), .val (.int (p1 % (64 : Int32))), .val (.int (p2 % (64 : Int32))), .val (.int (p3 % (64 : Int32))), .val (.double (FP.i2d (p4 % (1000 : Int32)))), .second, .val (.ref b7), .val (.int (1 : Int32)), .val (.ref b9), .val (.ref b9)]) rfl ?_
    show Steps p.tables e below (T10.setTop (mkF m 174 #[.val (.int p1), .val (.int p2), .val (.int p3), .val (.int p4), .val (.ref b5), .val (.int (p1 % (64 : Int32))), .val (.int (p2 % (64 : Int32))), .val (.int (p3 % (64 : Int32))), .val (.double (FP.i2d (p4 % (1000 : Int32)))), .second, .val (.ref b7), .val (.int (1 : Int32)), .val (.ref b9), .val (.ref b9)] [])) _
    refine XS.aload X10.here hx rfl (hb hby at_174) rfl rfl ?_
    show Steps p.tables e below (T10.setTop (mkF m 176 #[.val (.int p1), .val (.int p2), .val (.int p3), .val (.int p4), .val (.ref b5), .val (.int (p1 % (64 : Int32))), .val (.int (p2 % (64 : Int32))), .val (.int (p3 % (64 : Int32))), .val (.double (FP.i2d (p4 % (1000 : Int32)))), .second, .val (.ref b7), .val (.int (1 : Int32)), .val (.ref b9), .val (.ref b9)] [(.ref b9)])) _
    refine XS.ifnonnullYes X10.here hx rfl (pc0 := 176) (pc' := 181) rfl (hb hby at_176) rfl (by decide) (by decide) ?_
    show Steps p.tables e below (T10.setTop (mkF m 181 #[.val (.int p1), .val (.int p2), .val (.int p3), .val (.int p4), .val (.ref b5), .val (.int (p1 % (64 : Int32))), .val (.int (p2 % (64 : Int32))), .val (.int (p3 % (64 : Int32))), .val (.double (FP.i2d (p4 % (1000 : Int32)))), .second, .val (.ref b7), .val (.int (1 : Int32)), .val (.ref b9), .val (.ref b9)] [])) _
    refine XS.iload X10.here hx rfl (hb hby at_181) rfl ?_
    show Steps p.tables e below (T10.setTop (mkF m 183 #[.val (.int p1), .val (.int p2), .val (.int p3), .val (.int p4), .val (.ref b5), .val (.int (p1 % (64 : Int32))), .val (.int (p2 % (64 : Int32))), .val (.int (p3 % (64 : Int32))), .val (.double (FP.i2d (p4 % (1000 : Int32)))), .second, .val (.ref b7), .val (.int (1 : Int32)), .val (.ref b9), .val (.ref b9)] [(.int (1 : Int32))])) _
    refine XS.ifNo X10.here hx rfl (hb hby at_183) rfl ((if0 _ _).trans (feq hc183).1) ?_
    show Steps p.tables e below (T10.setTop (mkF m 186 #[.val (.int p1), .val (.int p2), .val (.int p3), .val (.int p4), .val (.ref b5), .val (.int (p1 % (64 : Int32))), .val (.int (p2 % (64 : Int32))), .val (.int (p3 % (64 : Int32))), .val (.double (FP.i2d (p4 % (1000 : Int32)))), .second, .val (.ref b7), .val (.int (1 : Int32)), .val (.ref b9), .val (.ref b9)] [])) _
    refine XS.aload X10.here hx rfl (hb hby at_186) rfl rfl ?_
    show Steps p.tables e below (T10.setTop (mkF m 188 #[.val (.int p1), .val (.int p2), .val (.int p3), .val (.int p4), .val (.ref b5), .val (.int (p1 % (64 : Int32))), .val (.int (p2 % (64 : Int32))), .val (.int (p3 % (64 : Int32))), .val (.double (FP.i2d (p4 % (1000 : Int32)))), .second, .val (.ref b7), .val (.int (1 : Int32)), .val (.ref b9), .val (.ref b9)] [(.ref b9)])) _
    refine X10.arraylength hx (by rw [e10]; exact Ar_b9_188.1) (State.isArrayOf_alike hZ.alike Ar_b9_188.2.1) (g := (mkF m 188 #[.val (.int p1), .val (.int p2), .val (.int p3), .val (.int p4), .val (.ref b5), .val (.int (p1 % (64 : Int32))), .val (.int (p2 % (64 : Int32))), .val (.int (p3 % (64 : Int32))), .val (.double (FP.i2d (p4 % (1000 : Int32)))), .second, .val (.ref b7), .val (.int (1 : Int32)), .val (.ref b9), .val (.ref b9)] [(.ref b9)])) rfl rfl (hb hby at_188) _ ?_
    rw [len_of S_b9_188 N_b9_188]
    show Steps p.tables e below (T10.setTop (mkF m 189 #[.val (.int p1), .val (.int p2), .val (.int p3), .val (.int p4), .val (.ref b5), .val (.int (p1 % (64 : Int32))), .val (.int (p2 % (64 : Int32))), .val (.int (p3 % (64 : Int32))), .val (.double (FP.i2d (p4 % (1000 : Int32)))), .second, .val (.ref b7), .val (.int (1 : Int32)), .val (.ref b9), .val (.ref b9)] [(.int (p2 % (64 : Int32)))])) _
    refine XS.iload X10.here hx rfl (hb hby at_189) rfl ?_
    show Steps p.tables e below (T10.setTop (mkF m 191 #[.val (.int p1), .val (.int p2), .val (.int p3), .val (.int p4), .val (.ref b5), .val (.int (p1 % (64 : Int32))), .val (.int (p2 % (64 : Int32))), .val (.int (p3 % (64 : Int32))), .val (.double (FP.i2d (p4 % (1000 : Int32)))), .second, .val (.ref b7), .val (.int (1 : Int32)), .val (.ref b9), .val (.ref b9)] [(.int (p3 % (64 : Int32))), (.int (p2 % (64 : Int32)))])) _
    refine XS.icmpNo X10.here hx rfl (hb hby at_191) rfl (flt hc191).1 ?_
    show Steps p.tables e below (T10.setTop (mkF m 194 #[.val (.int p1), .val (.int p2), .val (.int p3), .val (.int p4), .val (.ref b5), .val (.int (p1 % (64 : Int32))), .val (.int (p2 % (64 : Int32))), .val (.int (p3 % (64 : Int32))), .val (.double (FP.i2d (p4 % (1000 : Int32)))), .second, .val (.ref b7), .val (.int (1 : Int32)), .val (.ref b9), .val (.ref b9)] [])) _
    refine XS.iconst X10.here hx rfl (hb hby at_194) ?_
    show Steps p.tables e below (T10.setTop (mkF m 195 #[.val (.int p1), .val (.int p2), .val (.int p3), .val (.int p4), .val (.ref b5), .val (.int (p1 % (64 : Int32))), .val (.int (p2 % (64 : Int32))), .val (.int (p3 % (64 : Int32))), .val (.double (FP.i2d (p4 % (1000 : Int32)))), .second, .val (.ref b7), .val (.int (1 : Int32)), .val (.ref b9), .val (.ref b9)] [(.int (1 : Int32))])) _
    refine XS.goto X10.here hx rfl (pc0 := 195) (pc' := 199) rfl (hb hby at_195) (by decide) (by decide) ?_
    show Steps p.tables e below (T10.setTop (mkF m 199 #[.val (.int p1), .val (.int p2), .val (.int p3), .val (.int p4), .val (.ref b5), .val (.int (p1 % (64 : Int32))), .val (.int (p2 % (64 : Int32))), .val (.int (p3 % (64 : Int32))), .val (.double (FP.i2d (p4 % (1000 : Int32)))), .second, .val (.ref b7), .val (.int (1 : Int32)), .val (.ref b9), .val (.ref b9)] [(.int (1 : Int32))])) _
    refine XS.istore X10.here hx rfl (hb hby at_199) rfl (l' := #[.val (.int p1), .val (.int p2), .val (.int p3), .val (.int p4), .val (.ref b5), .val (.int (p1 % (64 : Int32))), .val (.int (p2 % (64 : Int32))), .val (.int (p3 % (64 : Int32))), .val (.double (FP.i2d (p4 % (1000 : Int32)))), .second, .val (.ref b7), .val (.int (1 : Int32)), .val (.ref b9), .val (.ref b9)]) rfl ?_
    show Steps p.tables e below (T10.setTop (mkF m 201 #[.val (.int p1), .val (.int p2), .val (.int p3), .val (.int p4), .val (.ref b5), .val (.int (p1 % (64 : Int32))), .val (.int (p2 % (64 : Int32))), .val (.int (p3 % (64 : Int32))), .val (.double (FP.i2d (p4 % (1000 : Int32)))), .second, .val (.ref b7), .val (.int (1 : Int32)), .val (.ref b9), .val (.ref b9)] [])) _
    refine XS.iload X10.here hx rfl (hb hby at_201) rfl ?_
    show Steps p.tables e below (T10.setTop (mkF m 203 #[.val (.int p1), .val (.int p2), .val (.int p3), .val (.int p4), .val (.ref b5), .val (.int (p1 % (64 : Int32))), .val (.int (p2 % (64 : Int32))), .val (.int (p3 % (64 : Int32))), .val (.double (FP.i2d (p4 % (1000 : Int32)))), .second, .val (.ref b7), .val (.int (1 : Int32)), .val (.ref b9), .val (.ref b9)] [(.int (p3 % (64 : Int32)))])) _
    refine XS.aload X10.here hx rfl (hb hby at_203) rfl rfl ?_
    show Steps p.tables e below (T10.setTop (mkF m 205 #[.val (.int p1), .val (.int p2), .val (.int p3), .val (.int p4), .val (.ref b5), .val (.int (p1 % (64 : Int32))), .val (.int (p2 % (64 : Int32))), .val (.int (p3 % (64 : Int32))), .val (.double (FP.i2d (p4 % (1000 : Int32)))), .second, .val (.ref b7), .val (.int (1 : Int32)), .val (.ref b9), .val (.ref b9)] [(.ref b9), (.int (p3 % (64 : Int32)))])) _
    refine X10.arraylength hx (by rw [e10]; exact Ar_b9_205.1) (State.isArrayOf_alike hZ.alike Ar_b9_205.2.1) (g := (mkF m 205 #[.val (.int p1), .val (.int p2), .val (.int p3), .val (.int p4), .val (.ref b5), .val (.int (p1 % (64 : Int32))), .val (.int (p2 % (64 : Int32))), .val (.int (p3 % (64 : Int32))), .val (.double (FP.i2d (p4 % (1000 : Int32)))), .second, .val (.ref b7), .val (.int (1 : Int32)), .val (.ref b9), .val (.ref b9)] [(.ref b9), (.int (p3 % (64 : Int32)))])) rfl rfl (hb hby at_205) _ ?_
    rw [len_of S_b9_205 N_b9_205]
    show Steps p.tables e below (T10.setTop (mkF m 206 #[.val (.int p1), .val (.int p2), .val (.int p3), .val (.int p4), .val (.ref b5), .val (.int (p1 % (64 : Int32))), .val (.int (p2 % (64 : Int32))), .val (.int (p3 % (64 : Int32))), .val (.double (FP.i2d (p4 % (1000 : Int32)))), .second, .val (.ref b7), .val (.int (1 : Int32)), .val (.ref b9), .val (.ref b9)] [(.int (p2 % (64 : Int32))), (.int (p3 % (64 : Int32)))])) _
    refine XS.icmpNo X10.here hx rfl (hb hby at_206) rfl (flt hc206).2.2.1 ?_
    show Steps p.tables e below (T10.setTop (mkF m 209 #[.val (.int p1), .val (.int p2), .val (.int p3), .val (.int p4), .val (.ref b5), .val (.int (p1 % (64 : Int32))), .val (.int (p2 % (64 : Int32))), .val (.int (p3 % (64 : Int32))), .val (.double (FP.i2d (p4 % (1000 : Int32)))), .second, .val (.ref b7), .val (.int (1 : Int32)), .val (.ref b9), .val (.ref b9)] [])) _
    refine XS.iload X10.here hx rfl (hb hby at_209) rfl ?_
    show Steps p.tables e below (T10.setTop (mkF m 211 #[.val (.int p1), .val (.int p2), .val (.int p3), .val (.int p4), .val (.ref b5), .val (.int (p1 % (64 : Int32))), .val (.int (p2 % (64 : Int32))), .val (.int (p3 % (64 : Int32))), .val (.double (FP.i2d (p4 % (1000 : Int32)))), .second, .val (.ref b7), .val (.int (1 : Int32)), .val (.ref b9), .val (.ref b9)] [(.int (1 : Int32))])) _
    refine XS.ifNo X10.here hx rfl (hb hby at_211) rfl ((if0 _ _).trans (feq hc211).1) ?_
    show Steps p.tables e below (T10.setTop (mkF m 214 #[.val (.int p1), .val (.int p2), .val (.int p3), .val (.int p4), .val (.ref b5), .val (.int (p1 % (64 : Int32))), .val (.int (p2 % (64 : Int32))), .val (.int (p3 % (64 : Int32))), .val (.double (FP.i2d (p4 % (1000 : Int32)))), .second, .val (.ref b7), .val (.int (1 : Int32)), .val (.ref b9), .val (.ref b9)] [])) _
    refine XS.aload X10.here hx rfl (hb hby at_214) rfl rfl ?_
    show Steps p.tables e below (T10.setTop (mkF m 216 #[.val (.int p1), .val (.int p2), .val (.int p3), .val (.int p4), .val (.ref b5), .val (.int (p1 % (64 : Int32))), .val (.int (p2 % (64 : Int32))), .val (.int (p3 % (64 : Int32))), .val (.double (FP.i2d (p4 % (1000 : Int32)))), .second, .val (.ref b7), .val (.int (1 : Int32)), .val (.ref b9), .val (.ref b9)] [(.ref b9)])) _
    refine XS.aload X10.here hx rfl (hb hby at_216) rfl rfl ?_
    show Steps p.tables e below (T10.setTop (mkF m 218 #[.val (.int p1), .val (.int p2), .val (.int p3), .val (.int p4), .val (.ref b5), .val (.int (p1 % (64 : Int32))), .val (.int (p2 % (64 : Int32))), .val (.int (p3 % (64 : Int32))), .val (.double (FP.i2d (p4 % (1000 : Int32)))), .second, .val (.ref b7), .val (.int (1 : Int32)), .val (.ref b9), .val (.ref b9)] [(.ref b9), (.ref b9)])) _
    refine Jvm.RoadKit.acmp (g := (mkF m 218 #[.val (.int p1), .val (.int p2), .val (.int p3), .val (.int p4), .val (.ref b5), .val (.int (p1 % (64 : Int32))), .val (.int (p2 % (64 : Int32))), .val (.int (p3 % (64 : Int32))), .val (.double (FP.i2d (p4 % (1000 : Int32)))), .second, .val (.ref b7), .val (.int (1 : Int32)), .val (.ref b9), .val (.ref b9)] [(.ref b9), (.ref b9)])) X10 hx rfl rfl rfl (pc0 := 218) (pc' := 221) (same := true) rfl (hb hby at_218) rfl (decide_eq_true rfl) (by decide) (by decide) ?_
    show Steps p.tables e below (T10.setTop (mkF m 221 #[.val (.int p1), .val (.int p2), .val (.int p3), .val (.int p4), .val (.ref b5), .val (.int (p1 % (64 : Int32))), .val (.int (p2 % (64 : Int32))), .val (.int (p3 % (64 : Int32))), .val (.double (FP.i2d (p4 % (1000 : Int32)))), .second, .val (.ref b7), .val (.int (1 : Int32)), .val (.ref b9), .val (.ref b9)] [])) _
    refine XS.iconst X10.here hx rfl (hb hby at_221) ?_
    show Steps p.tables e below (T10.setTop (mkF m 222 #[.val (.int p1), .val (.int p2), .val (.int p3), .val (.int p4), .val (.ref b5), .val (.int (p1 % (64 : Int32))), .val (.int (p2 % (64 : Int32))), .val (.int (p3 % (64 : Int32))), .val (.double (FP.i2d (p4 % (1000 : Int32)))), .second, .val (.ref b7), .val (.int (1 : Int32)), .val (.ref b9), .val (.ref b9)] [(.int (1 : Int32))])) _
    refine XS.goto X10.here hx rfl (pc0 := 222) (pc' := 226) rfl (hb hby at_222) (by decide) (by decide) ?_
    show Steps p.tables e below (T10.setTop (mkF m 226 #[.val (.int p1), .val (.int p2), .val (.int p3), .val (.int p4), .val (.ref b5), .val (.int (p1 % (64 : Int32))), .val (.int (p2 % (64 : Int32))), .val (.int (p3 % (64 : Int32))), .val (.double (FP.i2d (p4 % (1000 : Int32)))), .second, .val (.ref b7), .val (.int (1 : Int32)), .val (.ref b9), .val (.ref b9)] [(.int (1 : Int32))])) _
    refine XS.istore X10.here hx rfl (hb hby at_226) rfl (l' := #[.val (.int p1), .val (.int p2), .val (.int p3), .val (.int p4), .val (.ref b5), .val (.int (p1 % (64 : Int32))), .val (.int (p2 % (64 : Int32))), .val (.int (p3 % (64 : Int32))), .val (.double (FP.i2d (p4 % (1000 : Int32)))), .second, .val (.ref b7), .val (.int (1 : Int32)), .val (.ref b9), .val (.ref b9)]) rfl ?_
    show Steps p.tables e below (T10.setTop (mkF m 228 #[.val (.int p1), .val (.int p2), .val (.int p3), .val (.int p4), .val (.ref b5), .val (.int (p1 % (64 : Int32))), .val (.int (p2 % (64 : Int32))), .val (.int (p3 % (64 : Int32))), .val (.double (FP.i2d (p4 % (1000 : Int32)))), .second, .val (.ref b7), .val (.int (1 : Int32)), .val (.ref b9), .val (.ref b9)] [])) _
    refine XS.iload X10.here hx rfl (hb hby at_228) rfl ?_
    show Steps p.tables e below (T10.setTop (mkF m 230 #[.val (.int p1), .val (.int p2), .val (.int p3), .val (.int p4), .val (.ref b5), .val (.int (p1 % (64 : Int32))), .val (.int (p2 % (64 : Int32))), .val (.int (p3 % (64 : Int32))), .val (.double (FP.i2d (p4 % (1000 : Int32)))), .second, .val (.ref b7), .val (.int (1 : Int32)), .val (.ref b9), .val (.ref b9)] [(.int (1 : Int32))])) _
    exact retN X10 hx (t := .boolean) Bd.returns (by simp) (hb hby at_230) hr
  · show Q0 Z p1 p2 p3 p4 h0 n0 _ T10.heap _
    rw [e10]
    exact ⟨rfl, N10⟩
set_option maxRecDepth 65536 in
set_option maxHeartbeats 40000000 in
theorem rm0_101 (l : Launch) (Z : State) (a0 : Array Value) (hw : ∀ d ∈ tables_1, d.before a0 Z = true) (ws : List Jvm.Cond) (p1 : Int32) (p2 : Int32) (p3 : Int32) (p4 : Int32) (h0 : Heap) (n0 : Nat) (Z0 : n0 ≤ h0.size) (ho39 : (0 : Int32) < (p1 % (64 : Int32))) (ho86 : ¬ ((p1 % (64 : Int32)) < (p2 % (64 : Int32)))) (ho169 : (p1 % (64 : Int32)) < (p3 % (64 : Int32))) (hc56 : ¬ ((p1 % (64 : Int32)) < (p1 % (64 : Int32)))) (hc69 : (0 : Int32) < (p1 % (64 : Int32))) (hc100 : ¬ ((1 : Int32) = (0 : Int32))) (hc108 : ¬ ((p1 % (64 : Int32)) < (p2 % (64 : Int32)))) (hc123 : ¬ ((p1 % (64 : Int32)) < (p2 % (64 : Int32)))) (hc128 : ¬ ((1 : Int32) = (0 : Int32))) (hc141 : ¬ ((p1 % (64 : Int32)) = (0 : Int32))) (hc155 : (cmpValue (FP.dcmp (FP.i2d (p4 % (1000 : Int32))) (FP.i2d (p4 % (1000 : Int32)))) .l) = (0 : Int32)) (hc183 : ¬ ((1 : Int32) = (0 : Int32))) (hc191 : ¬ ((p3 % (64 : Int32)) < (p3 % (64 : Int32)))) (hc206 : (p1 % (64 : Int32)) < (p3 % (64 : Int32))) :
    MetFree l x (head1 (Jvm.Cond.code x code maxLocals ret :: ws) room_1) (fun a U => a = #[(.int p1), (.int p2), (.int p3), (.int p4)] ∧ Z.Warmed39 U.vm ∧ U.heap = h0) (fun _ _ _ _ _ => True) (fun _ U o U' => ∃ v L, o = .returned v ∧ Q0 Z p1 p2 p3 p4 h0 n0 v U'.heap L ∧ FrameEnd U o U' L room_1.cells room_1.slots) := by
  refine MetFree.of_bodySF (plainFor_of_name pn_0) hisR ?_
  intro p e s m args below meth c s₁ Bd hml0 hP hK
  obtain ⟨rfl, hZ, hh⟩ := hP
  have hx := Bd.exec
  have hby := Bd.bytes
  have hml : c.maxLocals = 14 := hml0
  have hown : s.vm.findClass "com/example/understory/understory/sim/BufferOfPinLaw" = some m.cls := findClass_of_methodNamed Bd.named
  have hnm := (name_of_methodNamed Bd.named Bd.method).1
  have X0 : Stand p l e room_1 s m #[(.int p1), (.int p2), (.int p3), (.int p4)] below meth c s₁ [] 0 0 := Stand.of_body Bd
  have e0 : s₁.heap = h0 := by rw [← hh, Bd.state]; rfl
  have N0 := Fr.nil n0
  have pre0 : ∀ t, Steps p.tables e below (s₁.setTop (mkF m 0 #[.val (.int p1), .val (.int p2), .val (.int p3), .val (.int p4), .unset, .unset, .unset, .unset, .unset, .unset, .unset, .unset, .unset, .unset] [])) t → Steps p.tables e below (s₁.setTop (entryFrame m #[(.int p1), (.int p2), (.int p3), (.int p4)] maxLocals)) t := fun t k => castTop (ef_0 m p1 p2 p3 p4) k
  obtain ⟨T5, h5, X5, e5, E5, A5, D5, -, st5⟩ := newO X0 hx hZ hown (hw _ (List.mem_of_getElem? (i := 0) rfl)) (hw _ (List.mem_of_getElem? (i := 1) rfl)) (hw _ (List.mem_of_getElem? (i := 2) rfl)) e0 (g := (mkF m 0 #[.val (.int p1), .val (.int p2), .val (.int p3), .val (.int p4), .unset, .unset, .unset, .unset, .unset, .unset, .unset, .unset, .unset, .unset] [])) rfl (hb hby at_0) (by decide) (by decide)
  obtain ⟨b5, g5⟩ : ∃ z, z = h0.size := ⟨_, rfl⟩
  rw [← g5] at A5 D5 st5
  have F_values_b5 : Fld Z h5 b5 "com/example/understory/understory/sim/ColumnEvaluator$Buffer" "values" "[D" .null := D5 (Or.inl (hw _ (List.mem_of_getElem? (i := 11) rfl))) (ty := (.array .double)) (by decide)
  have E_b5 := A5
  have g_b5 : n0 ≤ b5 := Nat.le_trans Z0 (Nat.le_of_eq g5.symm)
  obtain ⟨b6, g6⟩ : ∃ z, z = h5.size := ⟨_, rfl⟩
  have g_b6 : n0 ≤ b6 := Nat.le_trans (Nat.le_trans Z0 E5.1) (Nat.le_of_eq g6.symm)
  have ne_b5_b6 : b5 ≠ b6 := Nat.ne_of_lt (Nat.lt_of_lt_of_le E_b5.lt (Nat.le_of_eq g6.symm))
  obtain ⟨_, _, ⟨T6, L6, k6, n6⟩, -, X6, ⟨Lc6, hQ6, l6, y6, z6⟩, st6⟩ := X5.specialBack hx (y := (⟨"com/example/understory/understory/sim/ColumnEvaluator$Buffer", "<init>", "()V"⟩ : MethodName)) rfl hown (mvT hZ (hw _ (List.mem_of_getElem? (i := 3) rfl))) (mvT hZ (hw _ (List.mem_of_getElem? (i := 4) rfl))) (mvT hZ (hw _ (List.mem_of_getElem? (i := 5) rfl))) (by decide) (backOf (W := 1) (rm1 l Z a0 hw [] b5 .null b6 h5 n0 (Nat.le_trans Z0 E5.1) E_b5 F_values_b5 g_b5 g6) hZ (hw _ (List.mem_of_getElem? (i := 5) rfl)) (hw _ (List.mem_of_getElem? (i := 2) rfl)) (by decide) (by decide)) (g := (mkF m 4 #[.val (.int p1), .val (.int p2), .val (.int p3), .val (.int p4), .unset, .unset, .unset, .unset, .unset, .unset, .unset, .unset, .unset, .unset] [(.ref b5), (.ref b5)])) rfl (by rw [hml]; rfl) (Steps.refl _) (a := b5) (argsL := []) (rest := [(.ref b5)]) (lenOf pd_0_0 rfl) rfl (by show 2 * 0 + _ ≤ _; exact Nat.le_of_eq rfl) (hb hby at_4) (fun _ _ => ⟨rfl, e5, (by decide : 1 + 1 ≤ _), (by decide : 1 + 0 ≤ _)⟩)
  dsimp only [Pt.U, Pt.locs, Pt.cells, Pt.slots] at X6 l6 y6 z6 st6 hQ6
  subst l6 y6 z6
  obtain ⟨rfl, N6q, K6, gE6, gF6, kk6, gV6⟩ := hQ6
  have N6 := Fr.app N0 N6q
  obtain ⟨cq7, kq7, q7a, q7b, q7c⟩ := isOf hZ rfl gE6
  obtain ⟨b7, g7⟩ : ∃ z, z = T6.heap.size := ⟨_, rfl⟩
  have g_b7 : n0 ≤ b7 := Nat.le_trans (Nat.le_trans (Nat.le_trans Z0 E5.1) K6.1) (Nat.le_of_eq g7.symm)
  have ne_b5_b7 : b5 ≠ b7 := Nat.ne_of_lt (Nat.lt_of_lt_of_le gE6.lt (Nat.le_of_eq g7.symm))
  have ne_b6_b7 : b6 ≠ b7 := Nat.ne_of_lt (Nat.lt_of_lt_of_le gV6.lt (Nat.le_of_eq g7.symm))
  obtain ⟨_, _, ⟨T7, L7, k7, n7⟩, -, X7, ⟨Lc7, hQ7, l7, y7, z7⟩, st7⟩ := X6.virtualBack hx (y := (⟨"com/example/understory/understory/sim/ColumnEvaluator$Buffer", "of", "(I)[D"⟩ : MethodName)) (z := (⟨"com/example/understory/understory/sim/ColumnEvaluator$Buffer", "of", "(I)[D"⟩ : MethodName)) hown (mvT hZ (hw _ (List.mem_of_getElem? (i := 12) rfl))) (mvT hZ (hw _ (List.mem_of_getElem? (i := 13) rfl))) (notFace_of_selects (args := #[]) (mvT hZ (hw _ (List.mem_of_getElem? (i := 15) rfl)))) (mvT hZ (hw _ (List.mem_of_getElem? (i := 15) rfl))) (mvT hZ (hw _ (List.mem_of_getElem? (i := 14) rfl))) (by decide) (backOf (W := 0) (rm3F l Z a0 hw [] b5 (p1 % (64 : Int32)) b6 _ (0 : Int32) _ _ b7 T6.heap n0 (Nat.le_trans (Nat.le_trans Z0 E5.1) K6.1) gF6 gV6 gE6 g_b5 ho39 g7 (own_mod _)) hZ (hw _ (List.mem_of_getElem? (i := 16) rfl)) (hw _ (List.mem_of_getElem? (i := 2) rfl)) (by decide) (by decide)) q7a q7c (g := (mkF m 39 #[.val (.int p1), .val (.int p2), .val (.int p3), .val (.int p4), .val (.ref b5), .val (.int (p1 % (64 : Int32))), .val (.int (p2 % (64 : Int32))), .val (.int (p3 % (64 : Int32))), .val (.double (FP.i2d (p4 % (1000 : Int32)))), .second, .unset, .unset, .unset, .unset] [(.int (p1 % (64 : Int32))), (.ref b5)])) rfl (by rw [hml]; rfl) (Steps.refl _) (argsL := [(.int (p1 % (64 : Int32)))]) (rest := []) (lenOf pd_0_1 rfl) rfl (by show 2 * 0 + _ ≤ _; exact Nat.le_of_eq rfl) (hb hby at_39) (fun _ _ => ⟨rfl, rfl, (by decide : 2 + 1 ≤ _), (by decide : 1 + 63 ≤ _)⟩)
  dsimp only [Pt.U, Pt.locs, Pt.cells, Pt.slots] at X7 l7 y7 z7 st7 hQ7
  subst l7 y7 z7
  obtain ⟨rfl, N7q, K7, gE7, gF7, kk7, gV7⟩ := hQ7
  have N7 := Fr.app N6 N7q
  obtain ⟨cl_b7_53, Ar_b7_53, -, S_b7_53, N_b7_53, -, -⟩ := id (gV7)
  obtain ⟨cl_b7_68, Ar_b7_68, -, S_b7_68, N_b7_68, -, -⟩ := id (gV7)
  obtain ⟨cl_b7_76, Ar_b7_76, -, S_b7_76, N_b7_76, -, -⟩ := id (gV7)
  obtain ⟨cl_b7_81, Ar_b7, q_b7, S_b7, N_b7, H_b7, G_b7⟩ := (gV7.pad (pad_rep [] (.double 0) ((p1 % (64 : Int32))).toNatClampNeg))
  have hin81 : ¬ (((p1 % (64 : Int32)) - (1 : Int32)) < 0 ∨ cl_b7_81.slots.size ≤ (((p1 % (64 : Int32)) - (1 : Int32))).toNatClampNeg) := inb_of S_b7 (own_last hc69)
  obtain ⟨T8, h8, X8, e8, W8, st8⟩ := stD X7 hx hZ rfl Ar_b7 (j := ((p1 % (64 : Int32)) - (1 : Int32))) hin81 (g := (mkF m 81 #[.val (.int p1), .val (.int p2), .val (.int p3), .val (.int p4), .val (.ref b5), .val (.int (p1 % (64 : Int32))), .val (.int (p2 % (64 : Int32))), .val (.int (p3 % (64 : Int32))), .val (.double (FP.i2d (p4 % (1000 : Int32)))), .second, .val (.ref b7), .val (.int (1 : Int32)), .unset, .unset] [(.double (FP.i2d (p4 % (1000 : Int32)))), (.int ((p1 % (64 : Int32)) - (1 : Int32))), (.ref b7)])) rfl rfl (hb hby at_81)
  have V_b7_8 := Arv.set Ar_b7 q_b7 S_b7 N_b7 H_b7 G_b7 rfl W8 (((p1 % (64 : Int32)) - (1 : Int32))).toNatClampNeg rfl (own_lenrep hc69 _)
  have N8 := Fr.snoc X8 N7 g_b7
  obtain ⟨cq9, kq9, q9a, q9b, q9c⟩ := isOf hZ e8 (gE7.wr W8)
  obtain ⟨_, _, ⟨T9, L9, k9, n9⟩, -, X9, ⟨Lc9, hQ9, l9, y9, z9⟩, st9⟩ := X8.virtualBack hx (y := (⟨"com/example/understory/understory/sim/ColumnEvaluator$Buffer", "of", "(I)[D"⟩ : MethodName)) (z := (⟨"com/example/understory/understory/sim/ColumnEvaluator$Buffer", "of", "(I)[D"⟩ : MethodName)) hown (mvT hZ (hw _ (List.mem_of_getElem? (i := 12) rfl))) (mvT hZ (hw _ (List.mem_of_getElem? (i := 13) rfl))) (notFace_of_selects (args := #[]) (mvT hZ (hw _ (List.mem_of_getElem? (i := 15) rfl)))) (mvT hZ (hw _ (List.mem_of_getElem? (i := 15) rfl))) (mvT hZ (hw _ (List.mem_of_getElem? (i := 14) rfl))) (by decide) (backOf (W := 0) (rm3T l Z a0 hw [] b5 (p2 % (64 : Int32)) b7 _ (p1 % (64 : Int32)) _ _ h8 n0 (Nat.le_trans (Nat.le_trans (Nat.le_trans (Nat.le_trans Z0 E5.1) K6.1) K7.1) (Keep.of_wr W8).1) (gF7.other W8 (Or.inl ne_b5_b7)) V_b7_8 ho86) hZ (hw _ (List.mem_of_getElem? (i := 16) rfl)) (hw _ (List.mem_of_getElem? (i := 2) rfl)) (by decide) (by decide)) q9a q9c (g := (mkF m 86 #[.val (.int p1), .val (.int p2), .val (.int p3), .val (.int p4), .val (.ref b5), .val (.int (p1 % (64 : Int32))), .val (.int (p2 % (64 : Int32))), .val (.int (p3 % (64 : Int32))), .val (.double (FP.i2d (p4 % (1000 : Int32)))), .second, .val (.ref b7), .val (.int (1 : Int32)), .unset, .unset] [(.int (p2 % (64 : Int32))), (.ref b5)])) rfl (by rw [hml]; rfl) (Steps.refl _) (argsL := [(.int (p2 % (64 : Int32)))]) (rest := []) (lenOf pd_0_1 rfl) rfl (by show 2 * 0 + _ ≤ _; exact Nat.le_of_eq rfl) (hb hby at_86) (fun _ _ => ⟨rfl, e8, (by decide : 3 + 0 ≤ _), (by decide : 64 + 0 ≤ _)⟩)
  dsimp only [Pt.U, Pt.locs, Pt.cells, Pt.slots] at X9 l9 y9 z9 st9 hQ9
  subst l9 y9 z9
  obtain ⟨rfl, N9q, e9⟩ := hQ9
  have N9 := Fr.app N8 N9q
  obtain ⟨cl_b7_105, Ar_b7_105, -, S_b7_105, N_b7_105, -, -⟩ := id (V_b7_8)
  obtain ⟨cl_b7_122, Ar_b7_122, -, S_b7_122, N_b7_122, -, -⟩ := id (V_b7_8)
  obtain ⟨cl_b7_140, Ar_b7_140, -, S_b7_140, N_b7_140, -, -⟩ := id (V_b7_8)
  obtain ⟨cl_b7_148, Ar_b7_148, -, S_b7_148, N_b7_148, -, -⟩ := id (V_b7_8)
  obtain ⟨cl_b7_151, Ar_b7_151, -, S_b7, N_b7, H_b7, G_b7⟩ := id (V_b7_8)
  have hin151 : ¬ (((p1 % (64 : Int32)) - (1 : Int32)) < 0 ∨ cl_b7_151.slots.size ≤ (((p1 % (64 : Int32)) - (1 : Int32))).toNatClampNeg) := inb_of S_b7 (own_last hc69)
  have hat151 : cl_b7_151.slots[(((p1 % (64 : Int32)) - (1 : Int32))).toNatClampNeg]? = some (.double (FP.i2d (p4 % (1000 : Int32)))) := (H_b7 _ (by have q := hin151; omega)).trans (congrArg some (own_get hc69 _ _))
  obtain ⟨cq10, kq10, q10a, q10b, q10c⟩ := isOf hZ e9 (gE7.wr W8)
  obtain ⟨b10, g10⟩ : ∃ z, z = h8.size := ⟨_, rfl⟩
  have g_b10 : n0 ≤ b10 := Nat.le_trans (Nat.le_trans (Nat.le_trans (Nat.le_trans (Nat.le_trans Z0 E5.1) K6.1) K7.1) (Keep.of_wr W8).1) (Nat.le_of_eq g10.symm)
  have ne_b5_b10 : b5 ≠ b10 := Nat.ne_of_lt (Nat.lt_of_lt_of_le (gE7.wr W8).lt (Nat.le_of_eq g10.symm))
  have ne_b6_b10 : b6 ≠ b10 := Nat.ne_of_lt (Nat.lt_of_lt_of_le ((gV6.keep K7 (fun q => (Ne.symm ne_b5_b6) (List.mem_singleton.mp q))).other W8 ne_b6_b7).lt (Nat.le_of_eq g10.symm))
  have ne_b7_b10 : b7 ≠ b10 := Nat.ne_of_lt (Nat.lt_of_lt_of_le V_b7_8.lt (Nat.le_of_eq g10.symm))
  obtain ⟨_, _, ⟨T10, L10, k10, n10⟩, -, X10, ⟨Lc10, hQ10, l10, y10, z10⟩, st10⟩ := X9.virtualBack hx (y := (⟨"com/example/understory/understory/sim/ColumnEvaluator$Buffer", "of", "(I)[D"⟩ : MethodName)) (z := (⟨"com/example/understory/understory/sim/ColumnEvaluator$Buffer", "of", "(I)[D"⟩ : MethodName)) hown (mvT hZ (hw _ (List.mem_of_getElem? (i := 12) rfl))) (mvT hZ (hw _ (List.mem_of_getElem? (i := 13) rfl))) (notFace_of_selects (args := #[]) (mvT hZ (hw _ (List.mem_of_getElem? (i := 15) rfl)))) (mvT hZ (hw _ (List.mem_of_getElem? (i := 15) rfl))) (mvT hZ (hw _ (List.mem_of_getElem? (i := 14) rfl))) (by decide) (backOf (W := 0) (rm3F l Z a0 hw [] b5 (p3 % (64 : Int32)) b7 _ (p1 % (64 : Int32)) _ _ b10 h8 n0 (Nat.le_trans (Nat.le_trans (Nat.le_trans (Nat.le_trans Z0 E5.1) K6.1) K7.1) (Keep.of_wr W8).1) (gF7.other W8 (Or.inl ne_b5_b7)) V_b7_8 (gE7.wr W8) g_b5 ho169 g10 (own_mod _)) hZ (hw _ (List.mem_of_getElem? (i := 16) rfl)) (hw _ (List.mem_of_getElem? (i := 2) rfl)) (by decide) (by decide)) q10a q10c (g := (mkF m 169 #[.val (.int p1), .val (.int p2), .val (.int p3), .val (.int p4), .val (.ref b5), .val (.int (p1 % (64 : Int32))), .val (.int (p2 % (64 : Int32))), .val (.int (p3 % (64 : Int32))), .val (.double (FP.i2d (p4 % (1000 : Int32)))), .second, .val (.ref b7), .val (.int (1 : Int32)), .val (.ref b7), .unset] [(.int (p3 % (64 : Int32))), (.ref b5)])) rfl (by rw [hml]; rfl) (Steps.refl _) (argsL := [(.int (p3 % (64 : Int32)))]) (rest := []) (lenOf pd_0_1 rfl) rfl (by show 2 * 0 + _ ≤ _; exact Nat.le_of_eq rfl) (hb hby at_169) (fun _ _ => ⟨rfl, e9, (by decide : 3 + 1 ≤ _), (by decide : 64 + 63 ≤ _)⟩)
  dsimp only [Pt.U, Pt.locs, Pt.cells, Pt.slots] at X10 l10 y10 z10 st10 hQ10
  subst l10 y10 z10
  obtain ⟨rfl, N10q, K10, gE10, gF10, kk10, gV10⟩ := hQ10
  have N10 := Fr.app N9 N10q
  obtain ⟨cl_b10_188, Ar_b10_188, -, S_b10_188, N_b10_188, -, -⟩ := id (gV10)
  obtain ⟨cl_b7_205, Ar_b7_205, -, S_b7_205, N_b7_205, -, -⟩ := id ((V_b7_8.keep K10 (fun q => (Ne.symm ne_b5_b7) (List.mem_singleton.mp q))))
  obtain ⟨fs, hr, hrun, hended, hW, hsame⟩ := X10.leave (v := some (.int (1 : Int32))) (fun h => by rw [Bd.returns] at h; cases h)
  refine ⟨_, _, pre0 _ ?_, hrun, hended, _, _, rfl, ?_, ⟨_, rfl⟩, hW, hsame.mono (by decide) (by decide)⟩
  · show Steps p.tables e below (s₁.setTop (mkF m 0 #[.val (.int p1), .val (.int p2), .val (.int p3), .val (.int p4), .unset, .unset, .unset, .unset, .unset, .unset, .unset, .unset, .unset, .unset] [])) _
    refine st5 _ ?_
    show Steps p.tables e below (T5.setTop (mkF m 3 #[.val (.int p1), .val (.int p2), .val (.int p3), .val (.int p4), .unset, .unset, .unset, .unset, .unset, .unset, .unset, .unset, .unset, .unset] [(.ref b5)])) _
    refine XS.dup X5.here hx rfl (hb hby at_3) rfl rfl ?_
    show Steps p.tables e below (T5.setTop (mkF m 4 #[.val (.int p1), .val (.int p2), .val (.int p3), .val (.int p4), .unset, .unset, .unset, .unset, .unset, .unset, .unset, .unset, .unset, .unset] [(.ref b5), (.ref b5)])) _
    refine st6.trans ?_
    show Steps p.tables e below (T6.setTop (mkF m 7 #[.val (.int p1), .val (.int p2), .val (.int p3), .val (.int p4), .unset, .unset, .unset, .unset, .unset, .unset, .unset, .unset, .unset, .unset] [(.ref b5)])) _
    refine XS.astore X6.here hx rfl (hb hby at_7) rfl rfl (l' := #[.val (.int p1), .val (.int p2), .val (.int p3), .val (.int p4), .val (.ref b5), .unset, .unset, .unset, .unset, .unset, .unset, .unset, .unset, .unset]) rfl ?_
    show Steps p.tables e below (T6.setTop (mkF m 9 #[.val (.int p1), .val (.int p2), .val (.int p3), .val (.int p4), .val (.ref b5), .unset, .unset, .unset, .unset, .unset, .unset, .unset, .unset, .unset] [])) _
    refine XS.iloadN X6.here hx rfl (hb hby at_9) rfl ?_
    show Steps p.tables e below (T6.setTop (mkF m 10 #[.val (.int p1), .val (.int p2), .val (.int p3), .val (.int p4), .val (.ref b5), .unset, .unset, .unset, .unset, .unset, .unset, .unset, .unset, .unset] [(.int p1)])) _
    refine XS.bipush X6.here hx rfl (hb hby at_10) ?_
    show Steps p.tables e below (T6.setTop (mkF m 12 #[.val (.int p1), .val (.int p2), .val (.int p3), .val (.int p4), .val (.ref b5), .unset, .unset, .unset, .unset, .unset, .unset, .unset, .unset, .unset] [(.int (64 : Int32)), (.int p1)])) _
    refine iremM X6 hx rfl (hb hby at_12) rfl (by decide) ?_
    show Steps p.tables e below (T6.setTop (mkF m 13 #[.val (.int p1), .val (.int p2), .val (.int p3), .val (.int p4), .val (.ref b5), .unset, .unset, .unset, .unset, .unset, .unset, .unset, .unset, .unset] [(.int (p1 % (64 : Int32)))])) _
    refine XS.istore X6.here hx rfl (hb hby at_13) rfl (l' := #[.val (.int p1), .val (.int p2), .val (.int p3), .val (.int p4), .val (.ref b5), .val (.int (p1 % (64 : Int32))), .unset, .unset, .unset, .unset, .unset, .unset, .unset, .unset]) rfl ?_
    show Steps p.tables e below (T6.setTop (mkF m 15 #[.val (.int p1), .val (.int p2), .val (.int p3), .val (.int p4), .val (.ref b5), .val (.int (p1 % (64 : Int32))), .unset, .unset, .unset, .unset, .unset, .unset, .unset, .unset] [])) _
    refine XS.iloadN X6.here hx rfl (hb hby at_15) rfl ?_
    show Steps p.tables e below (T6.setTop (mkF m 16 #[.val (.int p1), .val (.int p2), .val (.int p3), .val (.int p4), .val (.ref b5), .val (.int (p1 % (64 : Int32))), .unset, .unset, .unset, .unset, .unset, .unset, .unset, .unset] [(.int p2)])) _
    refine XS.bipush X6.here hx rfl (hb hby at_16) ?_
    show Steps p.tables e below (T6.setTop (mkF m 18 #[.val (.int p1), .val (.int p2), .val (.int p3), .val (.int p4), .val (.ref b5), .val (.int (p1 % (64 : Int32))), .unset, .unset, .unset, .unset, .unset, .unset, .unset, .unset] [(.int (64 : Int32)), (.int p2)])) _
    refine iremM X6 hx rfl (hb hby at_18) rfl (by decide) ?_
    show Steps p.tables e below (T6.setTop (mkF m 19 #[.val (.int p1), .val (.int p2), .val (.int p3), .val (.int p4), .val (.ref b5), .val (.int (p1 % (64 : Int32))), .unset, .unset, .unset, .unset, .unset, .unset, .unset, .unset] [(.int (p2 % (64 : Int32)))])) _
    refine XS.istore X6.here hx rfl (hb hby at_19) rfl (l' := #[.val (.int p1), .val (.int p2), .val (.int p3), .val (.int p4), .val (.ref b5), .val (.int (p1 % (64 : Int32))), .val (.int (p2 % (64 : Int32))), .unset, .unset, .unset, .unset, .unset, .unset, .unset]) rfl ?_
    show Steps p.tables e below (T6.setTop (mkF m 21 #[.val (.int p1), .val (.int p2), .val (.int p3), .val (.int p4), .val (.ref b5), .val (.int (p1 % (64 : Int32))), .val (.int (p2 % (64 : Int32))), .unset, .unset, .unset, .unset, .unset, .unset, .unset] [])) _
    refine XS.iloadN X6.here hx rfl (hb hby at_21) rfl ?_
    show Steps p.tables e below (T6.setTop (mkF m 22 #[.val (.int p1), .val (.int p2), .val (.int p3), .val (.int p4), .val (.ref b5), .val (.int (p1 % (64 : Int32))), .val (.int (p2 % (64 : Int32))), .unset, .unset, .unset, .unset, .unset, .unset, .unset] [(.int p3)])) _
    refine XS.bipush X6.here hx rfl (hb hby at_22) ?_
    show Steps p.tables e below (T6.setTop (mkF m 24 #[.val (.int p1), .val (.int p2), .val (.int p3), .val (.int p4), .val (.ref b5), .val (.int (p1 % (64 : Int32))), .val (.int (p2 % (64 : Int32))), .unset, .unset, .unset, .unset, .unset, .unset, .unset] [(.int (64 : Int32)), (.int p3)])) _
    refine iremM X6 hx rfl (hb hby at_24) rfl (by decide) ?_
    show Steps p.tables e below (T6.setTop (mkF m 25 #[.val (.int p1), .val (.int p2), .val (.int p3), .val (.int p4), .val (.ref b5), .val (.int (p1 % (64 : Int32))), .val (.int (p2 % (64 : Int32))), .unset, .unset, .unset, .unset, .unset, .unset, .unset] [(.int (p3 % (64 : Int32)))])) _
    refine XS.istore X6.here hx rfl (hb hby at_25) rfl (l' := #[.val (.int p1), .val (.int p2), .val (.int p3), .val (.int p4), .val (.ref b5), .val (.int (p1 % (64 : Int32))), .val (.int (p2 % (64 : Int32))), .val (.int (p3 % (64 : Int32))), .unset, .unset, .unset, .unset, .unset, .unset]) rfl ?_
    show Steps p.tables e below (T6.setTop (mkF m 27 #[.val (.int p1), .val (.int p2), .val (.int p3), .val (.int p4), .val (.ref b5), .val (.int (p1 % (64 : Int32))), .val (.int (p2 % (64 : Int32))), .val (.int (p3 % (64 : Int32))), .unset, .unset, .unset, .unset, .unset, .unset] [])) _
    refine XS.iloadN X6.here hx rfl (hb hby at_27) rfl ?_
    show Steps p.tables e below (T6.setTop (mkF m 28 #[.val (.int p1), .val (.int p2), .val (.int p3), .val (.int p4), .val (.ref b5), .val (.int (p1 % (64 : Int32))), .val (.int (p2 % (64 : Int32))), .val (.int (p3 % (64 : Int32))), .unset, .unset, .unset, .unset, .unset, .unset] [(.int p4)])) _
    refine XS.sipush X6.here hx rfl (hb hby at_28) ?_
    show Steps p.tables e below (T6.setTop (mkF m 31 #[.val (.int p1), .val (.int p2), .val (.int p3), .val (.int p4), .val (.ref b5), .val (.int (p1 % (64 : Int32))), .val (.int (p2 % (64 : Int32))), .val (.int (p3 % (64 : Int32))), .unset, .unset, .unset, .unset, .unset, .unset] [(.int (1000 : Int32)), (.int p4)])) _
    refine iremM X6 hx rfl (hb hby at_31) rfl (by decide) ?_
    show Steps p.tables e below (T6.setTop (mkF m 32 #[.val (.int p1), .val (.int p2), .val (.int p3), .val (.int p4), .val (.ref b5), .val (.int (p1 % (64 : Int32))), .val (.int (p2 % (64 : Int32))), .val (.int (p3 % (64 : Int32))), .unset, .unset, .unset, .unset, .unset, .unset] [(.int (p4 % (1000 : Int32)))])) _
    refine XS.i2dS X6.here hx rfl (hb hby at_32) rfl rfl ?_
    show Steps p.tables e below (T6.setTop (mkF m 33 #[.val (.int p1), .val (.int p2), .val (.int p3), .val (.int p4), .val (.ref b5), .val (.int (p1 % (64 : Int32))), .val (.int (p2 % (64 : Int32))), .val (.int (p3 % (64 : Int32))), .unset, .unset, .unset, .unset, .unset, .unset] [(.double (FP.i2d (p4 % (1000 : Int32))))])) _
    refine XS.dstore X6.here hx rfl (hb hby at_33) rfl (l' := #[.val (.int p1), .val (.int p2), .val (.int p3), .val (.int p4), .val (.ref b5), .val (.int (p1 % (64 : Int32))), .val (.int (p2 % (64 : Int32))), .val (.int (p3 % (64 : Int32))), .val (.double (FP.i2d (p4 % (1000 : Int32)))), .second, .unset, .unset, .unset, .unset]) rfl ?_
    show Steps p.tables e below (T6.setTop (mkF m 35 #[.val (.int p1), .val (.int p2), .val (.int p3), .val (.int p4), .val (.ref b5), .val (.int (p1 % (64 : Int32))), .val (.int (p2 % (64 : Int32))), .val (.int (p3 % (64 : Int32))), .val (.double (FP.i2d (p4 % (1000 : Int32)))), .second, .unset, .unset, .unset, .unset] [])) _
    refine XS.aload X6.here hx rfl (hb hby at_35) rfl rfl ?_
    show Steps p.tables e below (T6.setTop (mkF m 37 #[.val (.int p1), .val (.int p2), .val (.int p3), .val (.int p4), .val (.ref b5), .val (.int (p1 % (64 : Int32))), .val (.int (p2 % (64 : Int32))), .val (.int (p3 % (64 : Int32))), .val (.double (FP.i2d (p4 % (1000 : Int32)))), .second, .unset, .unset, .unset, .unset] [(.ref b5)])) _
    refine XS.iload X6.here hx rfl (hb hby at_37) rfl ?_
    show Steps p.tables e below (T6.setTop (mkF m 39 #[.val (.int p1), .val (.int p2), .val (.int p3), .val (.int p4), .val (.ref b5), .val (.int (p1 % (64 : Int32))), .val (.int (p2 % (64 : Int32))), .val (.int (p3 % (64 : Int32))), .val (.double (FP.i2d (p4 % (1000 : Int32)))), .second, .unset, .unset, .unset, .unset] [(.int (p1 % (64 : Int32))), (.ref b5)])) _
    refine st7.trans ?_
    show Steps p.tables e below (T7.setTop (mkF m 42 #[.val (.int p1), .val (.int p2), .val (.int p3), .val (.int p4), .val (.ref b5), .val (.int (p1 % (64 : Int32))), .val (.int (p2 % (64 : Int32))), .val (.int (p3 % (64 : Int32))), .val (.double (FP.i2d (p4 % (1000 : Int32)))), .second, .unset, .unset, .unset, .unset] [(.ref b7)])) _
    refine XS.astore X7.here hx rfl (hb hby at_42) rfl rfl (l' := #[.val (.int p1), .val (.int p2), .val (.int p3), .val (.int p4), .val (.ref b5), .val (.int (p1 % (64 : Int32))), .val (.int (p2 % (64 : Int32))), .val (.int (p3 % (64 : Int32))), .val (.double (FP.i2d (p4 % (1000 : Int32)))), .second, .val (.ref b7), .unset, .unset, .unset]) rfl ?_
    show Steps p.tables e below (T7.setTop (mkF m 44 #[.val (.int p1), .val (.int p2), .val (.int p3), .val (.int p4), .val (.ref b5), .val (.int (p1 % (64 : Int32))), .val (.int (p2 % (64 : Int32))), .val (.int (p3 % (64 : Int32))), .val (.double (FP.i2d (p4 % (1000 : Int32)))), .second, .val (.ref b7), .unset, .unset, .unset] [])) _
    refine XS.aload X7.here hx rfl (hb hby at_44) rfl rfl ?_
    show Steps p.tables e below (T7.setTop (mkF m 46 #[.val (.int p1), .val (.int p2), .val (.int p3), .val (.int p4), .val (.ref b5), .val (.int (p1 % (64 : Int32))), .val (.int (p2 % (64 : Int32))), .val (.int (p3 % (64 : Int32))), .val (.double (FP.i2d (p4 % (1000 : Int32)))), .second, .val (.ref b7), .unset, .unset, .unset] [(.ref b7)])) _
    refine XS.ifnonnullYes X7.here hx rfl (pc0 := 46) (pc' := 51) rfl (hb hby at_46) rfl (by decide) (by decide) ?_
    show Steps p.tables e below (T7.setTop (mkF m 51 #[.val (.int p1), .val (.int p2), .val (.int p3), .val (.int p4), .val (.ref b5), .val (.int (p1 % (64 : Int32))), .val (.int (p2 % (64 : Int32))), .val (.int (p3 % (64 : Int32))), .val (.double (FP.i2d (p4 % (1000 : Int32)))), .second, .val (.ref b7), .unset, .unset, .unset] [])) _
    refine XS.aload X7.here hx rfl (hb hby at_51) rfl rfl ?_
    show Steps p.tables e below (T7.setTop (mkF m 53 #[.val (.int p1), .val (.int p2), .val (.int p3), .val (.int p4), .val (.ref b5), .val (.int (p1 % (64 : Int32))), .val (.int (p2 % (64 : Int32))), .val (.int (p3 % (64 : Int32))), .val (.double (FP.i2d (p4 % (1000 : Int32)))), .second, .val (.ref b7), .unset, .unset, .unset] [(.ref b7)])) _
    refine X7.arraylength hx (by exact Ar_b7_53.1) (State.isArrayOf_alike hZ.alike Ar_b7_53.2.1) (g := (mkF m 53 #[.val (.int p1), .val (.int p2), .val (.int p3), .val (.int p4), .val (.ref b5), .val (.int (p1 % (64 : Int32))), .val (.int (p2 % (64 : Int32))), .val (.int (p3 % (64 : Int32))), .val (.double (FP.i2d (p4 % (1000 : Int32)))), .second, .val (.ref b7), .unset, .unset, .unset] [(.ref b7)])) rfl rfl (hb hby at_53) _ ?_
    rw [len_of S_b7_53 N_b7_53]
    show Steps p.tables e below (T7.setTop (mkF m 54 #[.val (.int p1), .val (.int p2), .val (.int p3), .val (.int p4), .val (.ref b5), .val (.int (p1 % (64 : Int32))), .val (.int (p2 % (64 : Int32))), .val (.int (p3 % (64 : Int32))), .val (.double (FP.i2d (p4 % (1000 : Int32)))), .second, .val (.ref b7), .unset, .unset, .unset] [(.int (p1 % (64 : Int32)))])) _
    refine XS.iload X7.here hx rfl (hb hby at_54) rfl ?_
    show Steps p.tables e below (T7.setTop (mkF m 56 #[.val (.int p1), .val (.int p2), .val (.int p3), .val (.int p4), .val (.ref b5), .val (.int (p1 % (64 : Int32))), .val (.int (p2 % (64 : Int32))), .val (.int (p3 % (64 : Int32))), .val (.double (FP.i2d (p4 % (1000 : Int32)))), .second, .val (.ref b7), .unset, .unset, .unset] [(.int (p1 % (64 : Int32))), (.int (p1 % (64 : Int32)))])) _
    refine XS.icmpNo X7.here hx rfl (hb hby at_56) rfl (flt hc56).1 ?_
    show Steps p.tables e below (T7.setTop (mkF m 59 #[.val (.int p1), .val (.int p2), .val (.int p3), .val (.int p4), .val (.ref b5), .val (.int (p1 % (64 : Int32))), .val (.int (p2 % (64 : Int32))), .val (.int (p3 % (64 : Int32))), .val (.double (FP.i2d (p4 % (1000 : Int32)))), .second, .val (.ref b7), .unset, .unset, .unset] [])) _
    refine XS.iconst X7.here hx rfl (hb hby at_59) ?_
    show Steps p.tables e below (T7.setTop (mkF m 60 #[.val (.int p1), .val (.int p2), .val (.int p3), .val (.int p4), .val (.ref b5), .val (.int (p1 % (64 : Int32))), .val (.int (p2 % (64 : Int32))), .val (.int (p3 % (64 : Int32))), .val (.double (FP.i2d (p4 % (1000 : Int32)))), .second, .val (.ref b7), .unset, .unset, .unset] [(.int (1 : Int32))])) _
    refine XS.goto X7.here hx rfl (pc0 := 60) (pc' := 64) rfl (hb hby at_60) (by decide) (by decide) ?_
    show Steps p.tables e below (T7.setTop (mkF m 64 #[.val (.int p1), .val (.int p2), .val (.int p3), .val (.int p4), .val (.ref b5), .val (.int (p1 % (64 : Int32))), .val (.int (p2 % (64 : Int32))), .val (.int (p3 % (64 : Int32))), .val (.double (FP.i2d (p4 % (1000 : Int32)))), .second, .val (.ref b7), .unset, .unset, .unset] [(.int (1 : Int32))])) _
    refine XS.istore X7.here hx rfl (hb hby at_64) rfl (l' := #[.val (.int p1), .val (.int p2), .val (.int p3), .val (.int p4), .val (.ref b5), .val (.int (p1 % (64 : Int32))), .val (.int (p2 % (64 : Int32))), .val (.int (p3 % (64 : Int32))), .val (.double (FP.i2d (p4 % (1000 : Int32)))), .second, .val (.ref b7), .val (.int (1 : Int32)), .unset, .unset]) rfl ?_
    show Steps p.tables e below (T7.setTop (mkF m 66 #[.val (.int p1), .val (.int p2), .val (.int p3), .val (.int p4), .val (.ref b5), .val (.int (p1 % (64 : Int32))), .val (.int (p2 % (64 : Int32))), .val (.int (p3 % (64 : Int32))), .val (.double (FP.i2d (p4 % (1000 : Int32)))), .second, .val (.ref b7), .val (.int (1 : Int32)), .unset, .unset] [])) _
    refine XS.aload X7.here hx rfl (hb hby at_66) rfl rfl ?_
    show Steps p.tables e below (T7.setTop (mkF m 68 #[.val (.int p1), .val (.int p2), .val (.int p3), .val (.int p4), .val (.ref b5), .val (.int (p1 % (64 : Int32))), .val (.int (p2 % (64 : Int32))), .val (.int (p3 % (64 : Int32))), .val (.double (FP.i2d (p4 % (1000 : Int32)))), .second, .val (.ref b7), .val (.int (1 : Int32)), .unset, .unset] [(.ref b7)])) _
    refine X7.arraylength hx (by exact Ar_b7_68.1) (State.isArrayOf_alike hZ.alike Ar_b7_68.2.1) (g := (mkF m 68 #[.val (.int p1), .val (.int p2), .val (.int p3), .val (.int p4), .val (.ref b5), .val (.int (p1 % (64 : Int32))), .val (.int (p2 % (64 : Int32))), .val (.int (p3 % (64 : Int32))), .val (.double (FP.i2d (p4 % (1000 : Int32)))), .second, .val (.ref b7), .val (.int (1 : Int32)), .unset, .unset] [(.ref b7)])) rfl rfl (hb hby at_68) _ ?_
    rw [len_of S_b7_68 N_b7_68]
    show Steps p.tables e below (T7.setTop (mkF m 69 #[.val (.int p1), .val (.int p2), .val (.int p3), .val (.int p4), .val (.ref b5), .val (.int (p1 % (64 : Int32))), .val (.int (p2 % (64 : Int32))), .val (.int (p3 % (64 : Int32))), .val (.double (FP.i2d (p4 % (1000 : Int32)))), .second, .val (.ref b7), .val (.int (1 : Int32)), .unset, .unset] [(.int (p1 % (64 : Int32)))])) _
    refine XS.ifNo X7.here hx rfl (hb hby at_69) rfl ((if0 _ _).trans (tlt hc69).2.2.2) ?_
    show Steps p.tables e below (T7.setTop (mkF m 72 #[.val (.int p1), .val (.int p2), .val (.int p3), .val (.int p4), .val (.ref b5), .val (.int (p1 % (64 : Int32))), .val (.int (p2 % (64 : Int32))), .val (.int (p3 % (64 : Int32))), .val (.double (FP.i2d (p4 % (1000 : Int32)))), .second, .val (.ref b7), .val (.int (1 : Int32)), .unset, .unset] [])) _
    refine XS.aload X7.here hx rfl (hb hby at_72) rfl rfl ?_
    show Steps p.tables e below (T7.setTop (mkF m 74 #[.val (.int p1), .val (.int p2), .val (.int p3), .val (.int p4), .val (.ref b5), .val (.int (p1 % (64 : Int32))), .val (.int (p2 % (64 : Int32))), .val (.int (p3 % (64 : Int32))), .val (.double (FP.i2d (p4 % (1000 : Int32)))), .second, .val (.ref b7), .val (.int (1 : Int32)), .unset, .unset] [(.ref b7)])) _
    refine XS.aload X7.here hx rfl (hb hby at_74) rfl rfl ?_
    show Steps p.tables e below (T7.setTop (mkF m 76 #[.val (.int p1), .val (.int p2), .val (.int p3), .val (.int p4), .val (.ref b5), .val (.int (p1 % (64 : Int32))), .val (.int (p2 % (64 : Int32))), .val (.int (p3 % (64 : Int32))), .val (.double (FP.i2d (p4 % (1000 : Int32)))), .second, .val (.ref b7), .val (.int (1 : Int32)), .unset, .unset] [(.ref b7), (.ref b7)])) _
    refine X7.arraylength hx (by exact Ar_b7_76.1) (State.isArrayOf_alike hZ.alike Ar_b7_76.2.1) (g := (mkF m 76 #[.val (.int p1), .val (.int p2), .val (.int p3), .val (.int p4), .val (.ref b5), .val (.int (p1 % (64 : Int32))), .val (.int (p2 % (64 : Int32))), .val (.int (p3 % (64 : Int32))), .val (.double (FP.i2d (p4 % (1000 : Int32)))), .second, .val (.ref b7), .val (.int (1 : Int32)), .unset, .unset] [(.ref b7), (.ref b7)])) rfl rfl (hb hby at_76) _ ?_
    rw [len_of S_b7_76 N_b7_76]
    show Steps p.tables e below (T7.setTop (mkF m 77 #[.val (.int p1), .val (.int p2), .val (.int p3), .val (.int p4), .val (.ref b5), .val (.int (p1 % (64 : Int32))), .val (.int (p2 % (64 : Int32))), .val (.int (p3 % (64 : Int32))), .val (.double (FP.i2d (p4 % (1000 : Int32)))), .second, .val (.ref b7), .val (.int (1 : Int32)), .unset, .unset] [(.int (p1 % (64 : Int32))), (.ref b7)])) _
    refine XS.iconst X7.here hx rfl (hb hby at_77) ?_
    show Steps p.tables e below (T7.setTop (mkF m 78 #[.val (.int p1), .val (.int p2), .val (.int p3), .val (.int p4), .val (.ref b5), .val (.int (p1 % (64 : Int32))), .val (.int (p2 % (64 : Int32))), .val (.int (p3 % (64 : Int32))), .val (.double (FP.i2d (p4 % (1000 : Int32)))), .second, .val (.ref b7), .val (.int (1 : Int32)), .unset, .unset] [(.int (1 : Int32)), (.int (p1 % (64 : Int32))), (.ref b7)])) _
    refine XS.isub X7.here hx rfl (hb hby at_78) rfl ?_
    show Steps p.tables e below (T7.setTop (mkF m 79 #[.val (.int p1), .val (.int p2), .val (.int p3), .val (.int p4), .val (.ref b5), .val (.int (p1 % (64 : Int32))), .val (.int (p2 % (64 : Int32))), .val (.int (p3 % (64 : Int32))), .val (.double (FP.i2d (p4 % (1000 : Int32)))), .second, .val (.ref b7), .val (.int (1 : Int32)), .unset, .unset] [(.int ((p1 % (64 : Int32)) - (1 : Int32))), (.ref b7)])) _
    refine XS.dload X7.here hx rfl (hb hby at_79) rfl ?_
    show Steps p.tables e below (T7.setTop (mkF m 81 #[.val (.int p1), .val (.int p2), .val (.int p3), .val (.int p4), .val (.ref b5), .val (.int (p1 % (64 : Int32))), .val (.int (p2 % (64 : Int32))), .val (.int (p3 % (64 : Int32))), .val (.double (FP.i2d (p4 % (1000 : Int32)))), .second, .val (.ref b7), .val (.int (1 : Int32)), .unset, .unset] [(.double (FP.i2d (p4 % (1000 : Int32)))), (.int ((p1 % (64 : Int32)) - (1 : Int32))), (.ref b7)])) _
    refine st8 _ ?_
    show Steps p.tables e below (T8.setTop (mkF m 82 #[.val (.int p1), .val (.int p2), .val (.int p3), .val (.int p4), .val (.ref b5), .val (.int (p1 % (64 : Int32))), .val (.int (p2 % (64 : Int32))), .val (.int (p3 % (64 : Int32))), .val (.double (FP.i2d (p4 % (1000 : Int32)))), .second, .val (.ref b7), .val (.int (1 : Int32)), .unset, .unset] [])) _
    refine XS.aload X8.here hx rfl (hb hby at_82) rfl rfl ?_
    show Steps p.tables e below (T8.setTop (mkF m 84 #[.val (.int p1), .val (.int p2), .val (.int p3), .val (.int p4), .val (.ref b5), .val (.int (p1 % (64 : Int32))), .val (.int (p2 % (64 : Int32))), .val (.int (p3 % (64 : Int32))), .val (.double (FP.i2d (p4 % (1000 : Int32)))), .second, .val (.ref b7), .val (.int (1 : Int32)), .unset, .unset] [(.ref b5)])) _
    refine XS.iload X8.here hx rfl (hb hby at_84) rfl ?_
    show Steps p.tables e below (T8.setTop (mkF m 86 #[.val (.int p1), .val (.int p2), .val (.int p3), .val (.int p4), .val (.ref b5), .val (.int (p1 % (64 : Int32))), .val (.int (p2 % (64 : Int32))), .val (.int (p3 % (64 : Int32))), .val (.double (FP.i2d (p4 % (1000 : Int32)))), .second, .val (.ref b7), .val (.int (1 : Int32)), .unset, .unset] [(.int (p2 % (64 : Int32))), (.ref b5)])) _
    refine st9.trans ?_
    show Steps p.tables e below (T9.setTop (mkF m 89 #[.val (.int p1), .val (.int p2), .val (.int p3), .val (.int p4), .val (.ref b5), .val (.int (p1 % (64 : Int32))), .val (.int (p2 % (64 : Int32))), .val (.int (p3 % (64 : Int32))), .val (.double (FP.i2d (p4 % (1000 : Int32)))), .second, .val (.ref b7), .val (.int (1 : Int32)), .unset, .unset] [(.ref b7)])) _
    refine XS.astore X9.here hx rfl (hb hby at_89) rfl rfl (l' := #[.val (.int p1), .val (.int p2), .val (.int p3), .val (.int p4), .val (.ref b5), .val (.int (p1 % (64 : Int32))), .val (.int (p2 % (64 : Int32))), .val (.int (p3 % (64 : Int32))), .val (.double (FP.i2d (p4 % (1000 : Int32)))), .second, .val (.ref b7), .val (.int (1 : Int32)), .val (.ref b7), .unset]) rfl ?_
    show Steps p.tables e below (T9.setTop (mkF m 91 #[.val (.int p1), .val (.int p2), .val (.int p3), .val (.int p4), .val (.ref b5), .val (.int (p1 % (64 : Int32))), .val (.int (p2 % (64 : Int32))), .val (.int (p3 % (64 : Int32))), .val (.double (FP.i2d (p4 % (1000 : Int32)))), .second, .val (.ref b7), .val (.int (1 : Int32)), .val (.ref b7), .unset] [])) _
    refine XS.aload X9.here hx rfl (hb hby at_91) rfl rfl ?_
    show Steps p.tables e below (T9.setTop (mkF m 93 #[.val (.int p1), .val (.int p2), .val (.int p3), .val (.int p4), .val (.ref b5), .val (.int (p1 % (64 : Int32))), .val (.int (p2 % (64 : Int32))), .val (.int (p3 % (64 : Int32))), .val (.double (FP.i2d (p4 % (1000 : Int32)))), .second, .val (.ref b7), .val (.int (1 : Int32)), .val (.ref b7), .unset] [(.ref b7)])) _
    refine XS.ifnonnullYes X9.here hx rfl (pc0 := 93) (pc' := 98) rfl (hb hby at_93) rfl (by decide) (by decide) ?_
    show Steps p.tables e below (T9.setTop (mkF m 98 #[.val (.int p1), .val (.int p2), .val (.int p3), .val (.int p4), .val (.ref b5), .val (.int (p1 % (64 : Int32))), .val (.int (p2 % (64 : Int32))), .val (.int (p3 % (64 : Int32))), .val (.double (FP.i2d (p4 % (1000 : Int32)))), .second, .val (.ref b7), .val (.int (1 : Int32)), .val (.ref b7), .unset] [])) _
    refine XS.iload X9.here hx rfl (hb hby at_98) rfl ?_
    show Steps p.tables e below (T9.setTop (mkF m 100 #[.val (.int p1), .val (.int p2), .val (.int p3), .val (.int p4), .val (.ref b5), .val (.int (p1 % (64 : Int32))), .val (.int (p2 % (64 : Int32))), .val (.int (p3 % (64 : Int32))), .val (.double (FP.i2d (p4 % (1000 : Int32)))), .second, .val (.ref b7), .val (.int (1 : Int32)), .val (.ref b7), .unset] [(.int (1 : Int32))])) _
    refine XS.ifNo X9.here hx rfl (hb hby at_100) rfl ((if0 _ _).trans (feq hc100).1) ?_
    show Steps p.tables e below (T9.setTop (mkF m 103 #[.val (.int p1), .val (.int p2), .val (.int p3), .val (.int p4), .val (.ref b5), .val (.int (p1 % (64 : Int32))), .val (.int (p2 % (64 : Int32))), .val (.int (p3 % (64 : Int32))), .val (.double (FP.i2d (p4 % (1000 : Int32)))), .second, .val (.ref b7), .val (.int (1 : Int32)), .val (.ref b7), .unset] [])) _
    refine XS.aload X9.here hx rfl (hb hby at_103) rfl rfl ?_
    show Steps p.tables e below (T9.setTop (mkF m 105 #[.val (.int p1), .val (.int p2), .val (.int p3), .val (.int p4), .val (.ref b5), .val (.int (p1 % (64 : Int32))), .val (.int (p2 % (64 : Int32))), .val (.int (p3 % (64 : Int32))), .val (.double (FP.i2d (p4 % (1000 : Int32)))), .second, .val (.ref b7), .val (.int (1 : Int32)), .val (.ref b7), .unset] [(.ref b7)])) _
    refine X9.arraylength hx (by rw [e9]; exact Ar_b7_105.1) (State.isArrayOf_alike hZ.alike Ar_b7_105.2.1) (g := (mkF m 105 #[.val (.int p1), .val (.int p2), .val (.int p3), .val (.int p4), .val (.ref b5), .val (.int (p1 % (64 : Int32))), .val (.int (p2 % (64 : Int32))), .val (.int (p3 % (64 : Int32))), .val (.double (FP.i2d (p4 % (1000 : Int32)))), .second, .val (.ref b7), .val (.int (1 : Int32)), .val (.ref b7), .unset] [(.ref b7)])) rfl rfl (hb hby at_105) _ ?_
    rw [len_of S_b7_105 N_b7_105]
    show Steps p.tables e below (T9.setTop (mkF m 106 #[.val (.int p1), .val (.int p2), .val (.int p3), .val (.int p4), .val (.ref b5), .val (.int (p1 % (64 : Int32))), .val (.int (p2 % (64 : Int32))), .val (.int (p3 % (64 : Int32))), .val (.double (FP.i2d (p4 % (1000 : Int32)))), .second, .val (.ref b7), .val (.int (1 : Int32)), .val (.ref b7), .unset] [(.int (p1 % (64 : Int32)))])) _
    refine XS.iload X9.here hx rfl (hb hby at_106) rfl ?_
    show Steps p.tables e below (T9.setTop (mkF m 108 #[.val (.int p1), .val (.int p2), .val (.int p3), .val (.int p4), .val (.ref b5), .val (.int (p1 % (64 : Int32))), .val (.int (p2 % (64 : Int32))), .val (.int (p3 % (64 : Int32))), .val (.double (FP.i2d (p4 % (1000 : Int32)))), .second, .val (.ref b7), .val (.int (1 : Int32)), .val (.ref b7), .unset] [(.int (p2 % (64 : Int32))), (.int (p1 % (64 : Int32)))])) _
    refine XS.icmpNo X9.here hx rfl (hb hby at_108) rfl (flt hc108).1 ?_
    show Steps p.tables e below (T9.setTop (mkF m 111 #[.val (.int p1), .val (.int p2), .val (.int p3), .val (.int p4), .val (.ref b5), .val (.int (p1 % (64 : Int32))), .val (.int (p2 % (64 : Int32))), .val (.int (p3 % (64 : Int32))), .val (.double (FP.i2d (p4 % (1000 : Int32)))), .second, .val (.ref b7), .val (.int (1 : Int32)), .val (.ref b7), .unset] [])) _
    refine XS.iconst X9.here hx rfl (hb hby at_111) ?_
    show Steps p.tables e below (T9.setTop (mkF m 112 #[.val (.int p1), .val (.int p2), .val (.int p3), .val (.int p4), .val (.ref b5), .val (.int (p1 % (64 : Int32))), .val (.int (p2 % (64 : Int32))), .val (.int (p3 % (64 : Int32))), .val (.double (FP.i2d (p4 % (1000 : Int32)))), .second, .val (.ref b7), .val (.int (1 : Int32)), .val (.ref b7), .unset] [(.int (1 : Int32))])) _
    refine XS.goto X9.here hx rfl (pc0 := 112) (pc' := 116) rfl (hb hby at_112) (by decide) (by decide) ?_
    show Steps p.tables e below (T9.setTop (mkF m 116 #[.val (.int p1), .val (.int p2), .val (.int p3), .val (.int p4), .val (.ref b5), .val (.int (p1 % (64 : Int32))), .val (.int (p2 % (64 : Int32))), .val (.int (p3 % (64 : Int32))), .val (.double (FP.i2d (p4 % (1000 : Int32)))), .second, .val (.ref b7), .val (.int (1 : Int32)), .val (.ref b7), .unset] [(.int (1 : Int32))])) _
    refine XS.istore X9.here hx rfl (hb hby at_116) rfl (l' := #[.val (.int p1), .val (.int p2), .val (.int p3), .val (.int p4), .val (.ref b5), .val (.int (p1 % (64 : Int32))), .val (.int (p2 % (64 : Int32))), .val (.int (p3 % (64 : Int32))), .val (.double (FP.i2d (p4 % (1000 : Int32)))), .second, .val (.ref b7), .val (.int (1 : Int32)), .val (.ref b7), .unset]) rfl ?_
    show Steps p.tables e below (T9.setTop (mkF m 118 #[.val (.int p1), .val (.int p2), .val (.int p3), .val (.int p4), .val (.ref b5), .val (.int (p1 % (64 : Int32))), .val (.int (p2 % (64 : Int32))), .val (.int (p3 % (64 : Int32))), .val (.double (FP.i2d (p4 % (1000 : Int32)))), .second, .val (.ref b7), .val (.int (1 : Int32)), .val (.ref b7), .unset] [])) _
    refine XS.iload X9.here hx rfl (hb hby at_118) rfl ?_
    show Steps p.tables e below (T9.setTop (mkF m 120 #[.val (.int p1), .val (.int p2), .val (.int p3), .val (.int p4), .val (.ref b5), .val (.int (p1 % (64 : Int32))), .val (.int (p2 % (64 : Int32))), .val (.int (p3 % (64 : Int32))), .val (.double (FP.i2d (p4 % (1000 : Int32)))), .second, .val (.ref b7), .val (.int (1 : Int32)), .val (.ref b7), .unset] [(.int (p2 % (64 : Int32)))])) _
    refine XS.aload X9.here hx rfl (hb hby at_120) rfl rfl ?_
    show Steps p.tables e below (T9.setTop (mkF m 122 #[.val (.int p1), .val (.int p2), .val (.int p3), .val (.int p4), .val (.ref b5), .val (.int (p1 % (64 : Int32))), .val (.int (p2 % (64 : Int32))), .val (.int (p3 % (64 : Int32))), .val (.double (FP.i2d (p4 % (1000 : Int32)))), .second, .val (.ref b7), .val (.int (1 : Int32)), .val (.ref b7), .unset] [(.ref b7), (.int (p2 % (64 : Int32)))])) _
    refine X9.arraylength hx (by rw [e9]; exact Ar_b7_122.1) (State.isArrayOf_alike hZ.alike Ar_b7_122.2.1) (g := (mkF m 122 #[.val (.int p1), .val (.int p2), .val (.int p3), .val (.int p4), .val (.ref b5), .val (.int (p1 % (64 : Int32))), .val (.int (p2 % (64 : Int32))), .val (.int (p3 % (64 : Int32))), .val (.double (FP.i2d (p4 % (1000 : Int32)))), .second, .val (.ref b7), .val (.int (1 : Int32)), .val (.ref b7), .unset] [(.ref b7), (.int (p2 % (64 : Int32)))])) rfl rfl (hb hby at_122) _ ?_
    rw [len_of S_b7_122 N_b7_122]
    show Steps p.tables e below (T9.setTop (mkF m 123 #[.val (.int p1), .val (.int p2), .val (.int p3), .val (.int p4), .val (.ref b5), .val (.int (p1 % (64 : Int32))), .val (.int (p2 % (64 : Int32))), .val (.int (p3 % (64 : Int32))), .val (.double (FP.i2d (p4 % (1000 : Int32)))), .second, .val (.ref b7), .val (.int (1 : Int32)), .val (.ref b7), .unset] [(.int (p1 % (64 : Int32))), (.int (p2 % (64 : Int32)))])) _
    refine XS.icmpNo X9.here hx rfl (hb hby at_123) rfl (flt hc123).2.2.1 ?_
    show Steps p.tables e below (T9.setTop (mkF m 126 #[.val (.int p1), .val (.int p2), .val (.int p3), .val (.int p4), .val (.ref b5), .val (.int (p1 % (64 : Int32))), .val (.int (p2 % (64 : Int32))), .val (.int (p3 % (64 : Int32))), .val (.double (FP.i2d (p4 % (1000 : Int32)))), .second, .val (.ref b7), .val (.int (1 : Int32)), .val (.ref b7), .unset] [])) _
    refine XS.iload X9.here hx rfl (hb hby at_126) rfl ?_
    show Steps p.tables e below (T9.setTop (mkF m 128 #[.val (.int p1), .val (.int p2), .val (.int p3), .val (.int p4), .val (.ref b5), .val (.int (p1 % (64 : Int32))), .val (.int (p2 % (64 : Int32))), .val (.int (p3 % (64 : Int32))), .val (.double (FP.i2d (p4 % (1000 : Int32)))), .second, .val (.ref b7), .val (.int (1 : Int32)), .val (.ref b7), .unset] [(.int (1 : Int32))])) _
    refine XS.ifNo X9.here hx rfl (hb hby at_128) rfl ((if0 _ _).trans (feq hc128).1) ?_
    show Steps p.tables e below (T9.setTop (mkF m 131 #[.val (.int p1), .val (.int p2), .val (.int p3), .val (.int p4), .val (.ref b5), .val (.int (p1 % (64 : Int32))), .val (.int (p2 % (64 : Int32))), .val (.int (p3 % (64 : Int32))), .val (.double (FP.i2d (p4 % (1000 : Int32)))), .second, .val (.ref b7), .val (.int (1 : Int32)), .val (.ref b7), .unset] [])) _
    refine XS.aload X9.here hx rfl (hb hby at_131) rfl rfl ?_
    show Steps p.tables e below (T9.setTop (mkF m 133 #[.val (.int p1), .val (.int p2), .val (.int p3), .val (.int p4), .val (.ref b5), .val (.int (p1 % (64 : Int32))), .val (.int (p2 % (64 : Int32))), .val (.int (p3 % (64 : Int32))), .val (.double (FP.i2d (p4 % (1000 : Int32)))), .second, .val (.ref b7), .val (.int (1 : Int32)), .val (.ref b7), .unset] [(.ref b7)])) _
    refine XS.aload X9.here hx rfl (hb hby at_133) rfl rfl ?_
    show Steps p.tables e below (T9.setTop (mkF m 135 #[.val (.int p1), .val (.int p2), .val (.int p3), .val (.int p4), .val (.ref b5), .val (.int (p1 % (64 : Int32))), .val (.int (p2 % (64 : Int32))), .val (.int (p3 % (64 : Int32))), .val (.double (FP.i2d (p4 % (1000 : Int32)))), .second, .val (.ref b7), .val (.int (1 : Int32)), .val (.ref b7), .unset] [(.ref b7), (.ref b7)])) _
    refine Jvm.RoadKit.acmp (g := (mkF m 135 #[.val (.int p1), .val (.int p2), .val (.int p3), .val (.int p4), .val (.ref b5), .val (.int (p1 % (64 : Int32))), .val (.int (p2 % (64 : Int32))), .val (.int (p3 % (64 : Int32))), .val (.double (FP.i2d (p4 % (1000 : Int32)))), .second, .val (.ref b7), .val (.int (1 : Int32)), .val (.ref b7), .unset] [(.ref b7), (.ref b7)])) X9 hx rfl rfl rfl (pc0 := 135) (pc' := 138) (same := true) rfl (hb hby at_135) rfl (decide_eq_true rfl) (by decide) (by decide) ?_
    show Steps p.tables e below (T9.setTop (mkF m 138 #[.val (.int p1), .val (.int p2), .val (.int p3), .val (.int p4), .val (.ref b5), .val (.int (p1 % (64 : Int32))), .val (.int (p2 % (64 : Int32))), .val (.int (p3 % (64 : Int32))), .val (.double (FP.i2d (p4 % (1000 : Int32)))), .second, .val (.ref b7), .val (.int (1 : Int32)), .val (.ref b7), .unset] [])) _
    refine XS.aload X9.here hx rfl (hb hby at_138) rfl rfl ?_
    show Steps p.tables e below (T9.setTop (mkF m 140 #[.val (.int p1), .val (.int p2), .val (.int p3), .val (.int p4), .val (.ref b5), .val (.int (p1 % (64 : Int32))), .val (.int (p2 % (64 : Int32))), .val (.int (p3 % (64 : Int32))), .val (.double (FP.i2d (p4 % (1000 : Int32)))), .second, .val (.ref b7), .val (.int (1 : Int32)), .val (.ref b7), .unset] [(.ref b7)])) _
    refine X9.arraylength hx (by rw [e9]; exact Ar_b7_140.1) (State.isArrayOf_alike hZ.alike Ar_b7_140.2.1) (g := (mkF m 140 #[.val (.int p1), .val (.int p2), .val (.int p3), .val (.int p4), .val (.ref b5), .val (.int (p1 % (64 : Int32))), .val (.int (p2 % (64 : Int32))), .val (.int (p3 % (64 : Int32))), .val (.double (FP.i2d (p4 % (1000 : Int32)))), .second, .val (.ref b7), .val (.int (1 : Int32)), .val (.ref b7), .unset] [(.ref b7)])) rfl rfl (hb hby at_140) _ ?_
    rw [len_of S_b7_140 N_b7_140]
    show Steps p.tables e below (T9.setTop (mkF m 141 #[.val (.int p1), .val (.int p2), .val (.int p3), .val (.int p4), .val (.ref b5), .val (.int (p1 % (64 : Int32))), .val (.int (p2 % (64 : Int32))), .val (.int (p3 % (64 : Int32))), .val (.double (FP.i2d (p4 % (1000 : Int32)))), .second, .val (.ref b7), .val (.int (1 : Int32)), .val (.ref b7), .unset] [(.int (p1 % (64 : Int32)))])) _
    refine XS.ifNo X9.here hx rfl (hb hby at_141) rfl ((if0 _ _).trans (feq hc141).1) ?_
    show Steps p.tables e below (T9.setTop (mkF m 144 #[.val (.int p1), .val (.int p2), .val (.int p3), .val (.int p4), .val (.ref b5), .val (.int (p1 % (64 : Int32))), .val (.int (p2 % (64 : Int32))), .val (.int (p3 % (64 : Int32))), .val (.double (FP.i2d (p4 % (1000 : Int32)))), .second, .val (.ref b7), .val (.int (1 : Int32)), .val (.ref b7), .unset] [])) _
    refine XS.aload X9.here hx rfl (hb hby at_144) rfl rfl ?_
    show Steps p.tables e below (T9.setTop (mkF m 146 #[.val (.int p1), .val (.int p2), .val (.int p3), .val (.int p4), .val (.ref b5), .val (.int (p1 % (64 : Int32))), .val (.int (p2 % (64 : Int32))), .val (.int (p3 % (64 : Int32))), .val (.double (FP.i2d (p4 % (1000 : Int32)))), .second, .val (.ref b7), .val (.int (1 : Int32)), .val (.ref b7), .unset] [(.ref b7)])) _
    refine XS.aload X9.here hx rfl (hb hby at_146) rfl rfl ?_
    show Steps p.tables e below (T9.setTop (mkF m 148 #[.val (.int p1), .val (.int p2), .val (.int p3), .val (.int p4), .val (.ref b5), .val (.int (p1 % (64 : Int32))), .val (.int (p2 % (64 : Int32))), .val (.int (p3 % (64 : Int32))), .val (.double (FP.i2d (p4 % (1000 : Int32)))), .second, .val (.ref b7), .val (.int (1 : Int32)), .val (.ref b7), .unset] [(.ref b7), (.ref b7)])) _
    refine X9.arraylength hx (by rw [e9]; exact Ar_b7_148.1) (State.isArrayOf_alike hZ.alike Ar_b7_148.2.1) (g := (mkF m 148 #[.val (.int p1), .val (.int p2), .val (.int p3), .val (.int p4), .val (.ref b5), .val (.int (p1 % (64 : Int32))), .val (.int (p2 % (64 : Int32))), .val (.int (p3 % (64 : Int32))), .val (.double (FP.i2d (p4 % (1000 : Int32)))), .second, .val (.ref b7), .val (.int (1 : Int32)), .val (.ref b7), .unset] [(.ref b7), (.ref b7)])) rfl rfl (hb hby at_148) _ ?_
    rw [len_of S_b7_148 N_b7_148]
    show Steps p.tables e below (T9.setTop (mkF m 149 #[.val (.int p1), .val (.int p2), .val (.int p3), .val (.int p4), .val (.ref b5), .val (.int (p1 % (64 : Int32))), .val (.int (p2 % (64 : Int32))), .val (.int (p3 % (64 : Int32))), .val (.double (FP.i2d (p4 % (1000 : Int32)))), .second, .val (.ref b7), .val (.int (1 : Int32)), .val (.ref b7), .unset] [(.int (p1 % (64 : Int32))), (.ref b7)])) _
    refine XS.iconst X9.here hx rfl (hb hby at_149) ?_
    show Steps p.tables e below (T9.setTop (mkF m 150 #[.val (.int p1), .val (.int p2), .val (.int p3), .val (.int p4), .val (.ref b5), .val (.int (p1 % (64 : Int32))), .val (.int (p2 % (64 : Int32))), .val (.int (p3 % (64 : Int32))), .val (.double (FP.i2d (p4 % (1000 : Int32)))), .second, .val (.ref b7), .val (.int (1 : Int32)), .val (.ref b7), .unset] [(.int (1 : Int32)), (.int (p1 % (64 : Int32))), (.ref b7)])) _
    refine XS.isub X9.here hx rfl (hb hby at_150) rfl ?_
    show Steps p.tables e below (T9.setTop (mkF m 151 #[.val (.int p1), .val (.int p2), .val (.int p3), .val (.int p4), .val (.ref b5), .val (.int (p1 % (64 : Int32))), .val (.int (p2 % (64 : Int32))), .val (.int (p3 % (64 : Int32))), .val (.double (FP.i2d (p4 % (1000 : Int32)))), .second, .val (.ref b7), .val (.int (1 : Int32)), .val (.ref b7), .unset] [(.int ((p1 % (64 : Int32)) - (1 : Int32))), (.ref b7)])) _
    refine X9.daload hx (j := ((p1 % (64 : Int32)) - (1 : Int32))) (v := (.double (FP.i2d (p4 % (1000 : Int32))))) (by rw [e9]; exact Ar_b7_151.1) (State.isArrayOf_alike hZ.alike Ar_b7_151.2.1) Ar_b7_151.2.2 hin151 hat151 (g := (mkF m 151 #[.val (.int p1), .val (.int p2), .val (.int p3), .val (.int p4), .val (.ref b5), .val (.int (p1 % (64 : Int32))), .val (.int (p2 % (64 : Int32))), .val (.int (p3 % (64 : Int32))), .val (.double (FP.i2d (p4 % (1000 : Int32)))), .second, .val (.ref b7), .val (.int (1 : Int32)), .val (.ref b7), .unset] [(.int ((p1 % (64 : Int32)) - (1 : Int32))), (.ref b7)])) rfl rfl (hb hby at_151) _ ?_
    show Steps p.tables e below (T9.setTop (mkF m 152 #[.val (.int p1), .val (.int p2), .val (.int p3), .val (.int p4), .val (.ref b5), .val (.int (p1 % (64 : Int32))), .val (.int (p2 % (64 : Int32))), .val (.int (p3 % (64 : Int32))), .val (.double (FP.i2d (p4 % (1000 : Int32)))), .second, .val (.ref b7), .val (.int (1 : Int32)), .val (.ref b7), .unset] [(.double (FP.i2d (p4 % (1000 : Int32))))])) _
    refine XS.dload X9.here hx rfl (hb hby at_152) rfl ?_
    show Steps p.tables e below (T9.setTop (mkF m 154 #[.val (.int p1), .val (.int p2), .val (.int p3), .val (.int p4), .val (.ref b5), .val (.int (p1 % (64 : Int32))), .val (.int (p2 % (64 : Int32))), .val (.int (p3 % (64 : Int32))), .val (.double (FP.i2d (p4 % (1000 : Int32)))), .second, .val (.ref b7), .val (.int (1 : Int32)), .val (.ref b7), .unset] [(.double (FP.i2d (p4 % (1000 : Int32)))), (.double (FP.i2d (p4 % (1000 : Int32))))])) _
    refine XS.dcmpS X9.here hx rfl (hb hby at_154) rfl rfl ?_
    show Steps p.tables e below (T9.setTop (mkF m 155 #[.val (.int p1), .val (.int p2), .val (.int p3), .val (.int p4), .val (.ref b5), .val (.int (p1 % (64 : Int32))), .val (.int (p2 % (64 : Int32))), .val (.int (p3 % (64 : Int32))), .val (.double (FP.i2d (p4 % (1000 : Int32)))), .second, .val (.ref b7), .val (.int (1 : Int32)), .val (.ref b7), .unset] [(.int (cmpValue (FP.dcmp (FP.i2d (p4 % (1000 : Int32))) (FP.i2d (p4 % (1000 : Int32)))) .l))])) _
    refine XS.ifNo X9.here hx rfl (hb hby at_155) rfl ((if0 _ _).trans (teq hc155).2) ?_
    show Steps p.tables e below (T9.setTop (mkF m 158 #[.val (.int p1), .val (.int p2), .val (.int p3), .val (.int p4), .val (.ref b5), .val (.int (p1 % (64 : Int32))), .val (.int (p2 % (64 : Int32))), .val (.int (p3 % (64 : Int32))), .val (.double (FP.i2d (p4 % (1000 : Int32)))), .second, .val (.ref b7), .val (.int (1 : Int32)), .val (.ref b7), .unset] [])) _
    refine XS.iconst X9.here hx rfl (hb hby at_158) ?_
    show Steps p.tables e below (T9.setTop (mkF m 159 #[.val (.int p1), .val (.int p2), .val (.int p3), .val (.int p4), .val (.ref b5), .val (.int (p1 % (64 : Int32))), .val (.int (p2 % (64 : Int32))), .val (.int (p3 % (64 : Int32))), .val (.double (FP.i2d (p4 % (1000 : Int32)))), .second, .val (.ref b7), .val (.int (1 : Int32)), .val (.ref b7), .unset] [(.int (1 : Int32))])) _
    refine XS.goto X9.here hx rfl (pc0 := 159) (pc' := 163) rfl (hb hby at_159) (by decide) (by decide) ?_
    show Steps p.tables e below (T9.setTop (mkF m 163 #[.val (.int p1), .val (.int p2), .val (.int p3), .val (.int p4), .val (.ref b5), .val (.int (p1 % (64 : Int32))), .val (.int (p2 % (64 : Int32))), .val (.int (p3 % (64 : Int32))), .val (.double (FP.i2d (p4 % (1000 : Int32)))), .second, .val (.ref b7), .val (.int (1 : Int32)), .val (.ref b7), .unset] [(.int (1 : Int32))])) _
    refine XS.istore X9.here hx rfl (hb hby at_163) rfl (l' := #[.val (.int p1), .val (.int p2), .val (.int p3), .val (.int p4), .val (.ref b5), .val (.int (p1 % (64 : Int32))), .val (.int (p2 % (64 : Int32))), .val (.int (p3 % (64 : Int32))), .val (.double (FP.i2d (p4 % (1000 : Int32)))), .second, .val (.ref b7), .val (.int (1 : Int32)), .val (.ref b7), .unset]) rfl ?_
    show Steps p.tables e below (T9.setTop (mkF m 165 #[.val (.int p1), .val (.int p2), .val (.int p3), .val (.int p4), .val (.ref b5), .val (.int (p1 % (64 : Int32))), .val (.int (p2 % (64 : Int32))), .val (.int (p3 % (64 : Int32))), .val (.double (FP.i2d (p4 % (1000 : Int32)))), .second, .val (.ref b7), .val (.int (1 : Int32)), .val (.ref b7), .unset] [])) _
    refine XS.aload X9.here hx rfl (hb hby at_165) rfl rfl ?_
    show Steps p.tables e below (T9.setTop (mkF m 167 #[.val (.int p1), .val (.int p2), .val (.int p3), .val (.int p4), .val (.ref b5), .val (.int (p1 % (64 : Int32))), .val (.int (p2 % (64 : Int32))), .val (.int (p3 % (64 : Int32))), .val (.double (FP.i2d (p4 % (1000 : Int32)))), .second, .val (.ref b7), .val (.int (1 : Int32)), .val (.ref b7), .unset] [(.ref b5)])) _
    refine XS.iload X9.here hx rfl (hb hby at_167) rfl ?_
    show Steps p.tables e below (T9.setTop (mkF m 169 #[.val (.int p1), .val (.int p2), .val (.int p3), .val (.int p4), .val (.ref b5), .val (.int (p1 % (64 : Int32))), .val (.int (p2 % (64 : Int32))), .val (.int (p3 % (64 : Int32))), .val (.double (FP.i2d (p4 % (1000 : Int32)))), .second, .val (.ref b7), .val (.int (1 : Int32)), .val (.ref b7), .unset] [(.int (p3 % (64 : Int32))), (.ref b5)])) _
    refine st10.trans ?_
    show Steps p.tables e below (T10.setTop (mkF m 172 #[.val (.int p1), .val (.int p2), .val (.int p3), .val (.int p4), .val (.ref b5), .val (.int (p1 % (64 : Int32))), .val (.int (p2 % (64 : Int32))), .val (.int (p3 % (64 : Int32))), .val (.double (FP.i2d (p4 % (1000 : Int32)))), .second, .val (.ref b7), .val (.int (1 : Int32)), .val (.ref b7), .unset] [(.ref b10)])) _
    refine XS.astore X10.here hx rfl (hb hby at_172) rfl rfl (l' := #[.val (.int p1), .val (.int p2), .val (.int p3), .val (.int p4), .val (.ref b5), .val (.int (p1 % (64 : Int32))), .val (.int (p2 % (64 : Int32))), .val (.int (p3 % (64 : Int32))), .val (.double (FP.i2d (p4 % (1000 : Int32)))), .second, .val (.ref b7), .val (.int (1 : Int32)), .val (.ref b7), .val (.ref b10)]) rfl ?_
    show Steps p.tables e below (T10.setTop (mkF m 174 #[.val (.int p1), .val (.int p2), .val (.int p3), .val (.int p4), .val (.ref b5), .val (.int (p1 % (64 : Int32))), .val (.int (p2 % (64 : Int32))), .val (.int (p3 % (64 : Int32))), .val (.double (FP.i2d (p4 % (1000 : Int32)))), .second, .val (.ref b7), .val (.int (1 : Int32)), .val (.ref b7), .val (.ref b10)] [])) _
    refine XS.aload X10.here hx rfl (hb hby at_174) rfl rfl ?_
    show Steps p.tables e below (T10.setTop (mkF m 176 #[.val (.int p1), .val (.int p2), .val (.int p3), .val (.int p4), .val (.ref b5), .val (.int (p1 % (64 : Int32))), .val (.int (p2 % (64 : Int32))), .val (.int (p3 % (64 : Int32))), .val (.double (FP.i2d (p4 % (1000 : Int32)))), .second, .val (.ref b7), .val (.int (1 : Int32)), .val (.ref b7), .val (.ref b10)] [(.ref b10)])) _
    refine XS.ifnonnullYes X10.here hx rfl (pc0 := 176) (pc' := 181) rfl (hb hby at_176) rfl (by decide) (by decide) ?_
    show Steps p.tables e below (T10.setTop (mkF m 181 #[.val (.int p1), .val (.int p2), .val (.int p3), .val (.int p4), .val (.ref b5), .val (.int (p1 % (64 : Int32))), .val (.int (p2 % (64 : Int32))), .val (.int (p3 % (64 : Int32))), .val (.double (FP.i2d (p4 % (1000 : Int32)))), .second, .val (.ref b7), .val (.int (1 : Int32)), .val (.ref b7), .val (.ref b10)] [])) _
    refine XS.iload X10.here hx rfl (hb hby at_181) rfl ?_
    show Steps p.tables e below (T10.setTop (mkF m 183 #[.val (.int p1), .val (.int p2), .val (.int p3), .val (.int p4), .val (.ref b5), .val (.int (p1 % (64 : Int32))), .val (.int (p2 % (64 : Int32))), .val (.int (p3 % (64 : Int32))), .val (.double (FP.i2d (p4 % (1000 : Int32)))), .second, .val (.ref b7), .val (.int (1 : Int32)), .val (.ref b7), .val (.ref b10)] [(.int (1 : Int32))])) _
    refine XS.ifNo X10.here hx rfl (hb hby at_183) rfl ((if0 _ _).trans (feq hc183).1) ?_
    show Steps p.tables e below (T10.setTop (mkF m 186 #[.val (.int p1), .val (.int p2), .val (.int p3), .val (.int p4), .val (.ref b5), .val (.int (p1 % (64 : Int32))), .val (.int (p2 % (64 : Int32))), .val (.int (p3 % (64 : Int32))), .val (.double (FP.i2d (p4 % (1000 : Int32)))), .second, .val (.ref b7), .val (.int (1 : Int32)), .val (.ref b7), .val (.ref b10)] [])) _
    refine XS.aload X10.here hx rfl (hb hby at_186) rfl rfl ?_
    show Steps p.tables e below (T10.setTop (mkF m 188 #[.val (.int p1), .val (.int p2), .val (.int p3), .val (.int p4), .val (.ref b5), .val (.int (p1 % (64 : Int32))), .val (.int (p2 % (64 : Int32))), .val (.int (p3 % (64 : Int32))), .val (.double (FP.i2d (p4 % (1000 : Int32)))), .second, .val (.ref b7), .val (.int (1 : Int32)), .val (.ref b7), .val (.ref b10)] [(.ref b10)])) _
    refine X10.arraylength hx (by exact Ar_b10_188.1) (State.isArrayOf_alike hZ.alike Ar_b10_188.2.1) (g := (mkF m 188 #[.val (.int p1), .val (.int p2), .val (.int p3), .val (.int p4), .val (.ref b5), .val (.int (p1 % (64 : Int32))), .val (.int (p2 % (64 : Int32))), .val (.int (p3 % (64 : Int32))), .val (.double (FP.i2d (p4 % (1000 : Int32)))), .second, .val (.ref b7), .val (.int (1 : Int32)), .val (.ref b7), .val (.ref b10)] [(.ref b10)])) rfl rfl (hb hby at_188) _ ?_
    rw [len_of S_b10_188 N_b10_188]
    show Steps p.tables e below (T10.setTop (mkF m 189 #[.val (.int p1), .val (.int p2), .val (.int p3), .val (.int p4), .val (.ref b5), .val (.int (p1 % (64 : Int32))), .val (.int (p2 % (64 : Int32))), .val (.int (p3 % (64 : Int32))), .val (.double (FP.i2d (p4 % (1000 : Int32)))), .second, .val (.ref b7), .val (.int (1 : Int32)), .val (.ref b7), .val (.ref b10)] [(.int (p3 % (64 : Int32)))])) _
    refine XS.iload X10.here hx rfl (hb hby at_189) rfl ?_
    show Steps p.tables e below (T10.setTop (mkF m 191 #[.val (.int p1), .val (.int p2), .val (.int p3), .val (.int p4), .val (.ref b5), .val (.int (p1 % (64 : Int32))), .val (.int (p2 % (64 : Int32))), .val (.int (p3 % (64 : Int32))), .val (.double (FP.i2d (p4 % (1000 : Int32)))), .second, .val (.ref b7), .val (.int (1 : Int32)), .val (.ref b7), .val (.ref b10)] [(.int (p3 % (64 : Int32))), (.int (p3 % (64 : Int32)))])) _
    refine XS.icmpNo X10.here hx rfl (hb hby at_191) rfl (flt hc191).1 ?_
    show Steps p.tables e below (T10.setTop (mkF m 194 #[.val (.int p1), .val (.int p2), .val (.int p3), .val (.int p4), .val (.ref b5), .val (.int (p1 % (64 : Int32))), .val (.int (p2 % (64 : Int32))), .val (.int (p3 % (64 : Int32))), .val (.double (FP.i2d (p4 % (1000 : Int32)))), .second, .val (.ref b7), .val (.int (1 : Int32)), .val (.ref b7), .val (.ref b10)] [])) _
    refine XS.iconst X10.here hx rfl (hb hby at_194) ?_
    show Steps p.tables e below (T10.setTop (mkF m 195 #[.val (.int p1), .val (.int p2), .val (.int p3), .val (.int p4), .val (.ref b5), .val (.int (p1 % (64 : Int32))), .val (.int (p2 % (64 : Int32))), .val (.int (p3 % (64 : Int32))), .val (.double (FP.i2d (p4 % (1000 : Int32)))), .second, .val (.ref b7), .val (.int (1 : Int32)), .val (.ref b7), .val (.ref b10)] [(.int (1 : Int32))])) _
    refine XS.goto X10.here hx rfl (pc0 := 195) (pc' := 199) rfl (hb hby at_195) (by decide) (by decide) ?_
    show Steps p.tables e below (T10.setTop (mkF m 199 #[.val (.int p1), .val (.int p2), .val (.int p3), .val (.int p4), .val (.ref b5), .val (.int (p1 % (64 : Int32))), .val (.int (p2 % (64 : Int32))), .val (.int (p3 % (64 : Int32))), .val (.double (FP.i2d (p4 % (1000 : Int32)))), .second, .val (.ref b7), .val (.int (1 : Int32)), .val (.ref b7), .val (.ref b10)] [(.int (1 : Int32))])) _
    refine XS.istore X10.here hx rfl (hb hby at_199) rfl (l' := #[.val (.int p1), .val (.int p2), .val (.int p3), .val (.int p4), .val (.ref b5), .val (.int (p1 % (64 : Int32))), .val (.int (p2 % (64 : Int32))), .val (.int (p3 % (64 : Int32))), .val (.double (FP.i2d (p4 % (1000 : Int32)))), .second, .val (.ref b7), .val (.int (1 : Int32)), .val (.ref b7), .val (.ref b10)]) rfl ?_
    show Steps p.tables e below (T10.setTop (mkF m 201 #[.val (.int p1), .val (.int p2), .val (.int p3), .val (.int p4), .val (.ref b5), .val (.int (p1 % (64 : Int32))), .val (.int (p2 % (64 : Int32))), .val (.int (p3 % (64 : Int32))), .val (.double (FP.i2d (p4 % (1000 : Int32)))), .second, .val (.ref b7), .val (.int (1 : Int32)), .val (.ref b7), .val (.ref b10)] [])) _
    refine XS.iload X10.here hx rfl (hb hby at_201) rfl ?_
    show Steps p.tables e below (T10.setTop (mkF m 203 #[.val (.int p1), .val (.int p2), .val (.int p3), .val (.int p4), .val (.ref b5), .val (.int (p1 % (64 : Int32))), .val (.int (p2 % (64 : Int32))), .val (.int (p3 % (64 : Int32))), .val (.double (FP.i2d (p4 % (1000 : Int32)))), .second, .val (.ref b7), .val (.int (1 : Int32)), .val (.ref b7), .val (.ref b10)] [(.int (p3 % (64 : Int32)))])) _
    refine XS.aload X10.here hx rfl (hb hby at_203) rfl rfl ?_
    show Steps p.tables e below (T10.setTop (mkF m 205 #[.val (.int p1), .val (.int p2), .val (.int p3), .val (.int p4), .val (.ref b5), .val (.int (p1 % (64 : Int32))), .val (.int (p2 % (64 : Int32))), .val (.int (p3 % (64 : Int32))), .val (.double (FP.i2d (p4 % (1000 : Int32)))), .second, .val (.ref b7), .val (.int (1 : Int32)), .val (.ref b7), .val (.ref b10)] [(.ref b7), (.int (p3 % (64 : Int32)))])) _
    refine X10.arraylength hx (by exact Ar_b7_205.1) (State.isArrayOf_alike hZ.alike Ar_b7_205.2.1) (g := (mkF m 205 #[.val (.int p1), .val (.int p2), .val (.int p3), .val (.int p4), .val (.ref b5), .val (.int (p1 % (64 : Int32))), .val (.int (p2 % (64 : Int32))), .val (.int (p3 % (64 : Int32))), .val (.double (FP.i2d (p4 % (1000 : Int32)))), .second, .val (.ref b7), .val (.int (1 : Int32)), .val (.ref b7), .val (.ref b10)] [(.ref b7), (.int (p3 % (64 : Int32)))])) rfl rfl (hb hby at_205) _ ?_
    rw [len_of S_b7_205 N_b7_205]
    show Steps p.tables e below (T10.setTop (mkF m 206 #[.val (.int p1), .val (.int p2), .val (.int p3), .val (.int p4), .val (.ref b5), .val (.int (p1 % (64 : Int32))), .val (.int (p2 % (64 : Int32))), .val (.int (p3 % (64 : Int32))), .val (.double (FP.i2d (p4 % (1000 : Int32)))), .second, .val (.ref b7), .val (.int (1 : Int32)), .val (.ref b7), .val (.ref b10)] [(.int (p1 % (64 : Int32))), (.int (p3 % (64 : Int32)))])) _
    refine XS.icmpYes X10.here hx rfl (pc0 := 206) (pc' := 228) rfl (hb hby at_206) rfl (tlt hc206).2.2.1 (by decide) (by decide) ?_
    show Steps p.tables e below (T10.setTop (mkF m 228 #[.val (.int p1), .val (.int p2), .val (.int p3), .val (.int p4), .val (.ref b5), .val (.int (p1 % (64 : Int32))), .val (.int (p2 % (64 : Int32))), .val (.int (p3 % (64 : Int32))), .val (.double (FP.i2d (p4 % (1000 : Int32)))), .second, .val (.ref b7), .val (.int (1 : Int32)), .val (.ref b7), .val (.ref b10)] [])) _
    refine XS.iload X10.here hx rfl (hb hby at_228) rfl ?_
    show Steps p.tables e below (T10.setTop (mkF m 230 #[.val (.int p1), .val (.int p2), .val (.int p3), .val (.int p4), .val (.ref b5), .val (.int (p1 % (64 : Int32))), .val (.int (p2 % (64 : Int32))), .val (.int (p3 % (64 : Int32))), .val (.double (FP.i2d (p4 % (1000 : Int32)))), .second, .val (.ref b7), .val (.int (1 : Int32)), .val (.ref b7), .val (.ref b10)] [(.int (1 : Int32))])) _
    exact retN X10 hx (t := .boolean) Bd.returns (by simp) (hb hby at_230) hr
  · show Q0 Z p1 p2 p3 p4 h0 n0 _ T10.heap _
    exact ⟨rfl, N10⟩
set_option maxRecDepth 65536 in
set_option maxHeartbeats 40000000 in
theorem rm0_100 (l : Launch) (Z : State) (a0 : Array Value) (hw : ∀ d ∈ tables_1, d.before a0 Z = true) (ws : List Jvm.Cond) (p1 : Int32) (p2 : Int32) (p3 : Int32) (p4 : Int32) (h0 : Heap) (n0 : Nat) (Z0 : n0 ≤ h0.size) (ho39 : (0 : Int32) < (p1 % (64 : Int32))) (ho86 : ¬ ((p1 % (64 : Int32)) < (p2 % (64 : Int32)))) (ho169 : ¬ ((p1 % (64 : Int32)) < (p3 % (64 : Int32)))) (hc56 : ¬ ((p1 % (64 : Int32)) < (p1 % (64 : Int32)))) (hc69 : (0 : Int32) < (p1 % (64 : Int32))) (hc100 : ¬ ((1 : Int32) = (0 : Int32))) (hc108 : ¬ ((p1 % (64 : Int32)) < (p2 % (64 : Int32)))) (hc123 : ¬ ((p1 % (64 : Int32)) < (p2 % (64 : Int32)))) (hc128 : ¬ ((1 : Int32) = (0 : Int32))) (hc141 : ¬ ((p1 % (64 : Int32)) = (0 : Int32))) (hc155 : (cmpValue (FP.dcmp (FP.i2d (p4 % (1000 : Int32))) (FP.i2d (p4 % (1000 : Int32)))) .l) = (0 : Int32)) (hc183 : ¬ ((1 : Int32) = (0 : Int32))) (hc191 : ¬ ((p1 % (64 : Int32)) < (p3 % (64 : Int32)))) (hc206 : ¬ ((p1 % (64 : Int32)) < (p3 % (64 : Int32)))) (hc211 : ¬ ((1 : Int32) = (0 : Int32))) :
    MetFree l x (head1 (Jvm.Cond.code x code maxLocals ret :: ws) room_1) (fun a U => a = #[(.int p1), (.int p2), (.int p3), (.int p4)] ∧ Z.Warmed39 U.vm ∧ U.heap = h0) (fun _ _ _ _ _ => True) (fun _ U o U' => ∃ v L, o = .returned v ∧ Q0 Z p1 p2 p3 p4 h0 n0 v U'.heap L ∧ FrameEnd U o U' L room_1.cells room_1.slots) := by
  refine MetFree.of_bodySF (plainFor_of_name pn_0) hisR ?_
  intro p e s m args below meth c s₁ Bd hml0 hP hK
  obtain ⟨rfl, hZ, hh⟩ := hP
  have hx := Bd.exec
  have hby := Bd.bytes
  have hml : c.maxLocals = 14 := hml0
  have hown : s.vm.findClass "com/example/understory/understory/sim/BufferOfPinLaw" = some m.cls := findClass_of_methodNamed Bd.named
  have hnm := (name_of_methodNamed Bd.named Bd.method).1
  have X0 : Stand p l e room_1 s m #[(.int p1), (.int p2), (.int p3), (.int p4)] below meth c s₁ [] 0 0 := Stand.of_body Bd
  have e0 : s₁.heap = h0 := by rw [← hh, Bd.state]; rfl
  have N0 := Fr.nil n0
  have pre0 : ∀ t, Steps p.tables e below (s₁.setTop (mkF m 0 #[.val (.int p1), .val (.int p2), .val (.int p3), .val (.int p4), .unset, .unset, .unset, .unset, .unset, .unset, .unset, .unset, .unset, .unset] [])) t → Steps p.tables e below (s₁.setTop (entryFrame m #[(.int p1), (.int p2), (.int p3), (.int p4)] maxLocals)) t := fun t k => castTop (ef_0 m p1 p2 p3 p4) k
  obtain ⟨T5, h5, X5, e5, E5, A5, D5, -, st5⟩ := newO X0 hx hZ hown (hw _ (List.mem_of_getElem? (i := 0) rfl)) (hw _ (List.mem_of_getElem? (i := 1) rfl)) (hw _ (List.mem_of_getElem? (i := 2) rfl)) e0 (g := (mkF m 0 #[.val (.int p1), .val (.int p2), .val (.int p3), .val (.int p4), .unset, .unset, .unset, .unset, .unset, .unset, .unset, .unset, .unset, .unset] [])) rfl (hb hby at_0) (by decide) (by decide)
  obtain ⟨b5, g5⟩ : ∃ z, z = h0.size := ⟨_, rfl⟩
  rw [← g5] at A5 D5 st5
  have F_values_b5 : Fld Z h5 b5 "com/example/understory/understory/sim/ColumnEvaluator$Buffer" "values" "[D" .null := D5 (Or.inl (hw _ (List.mem_of_getElem? (i := 11) rfl))) (ty := (.array .double)) (by decide)
  have E_b5 := A5
  have g_b5 : n0 ≤ b5 := Nat.le_trans Z0 (Nat.le_of_eq g5.symm)
  obtain ⟨b6, g6⟩ : ∃ z, z = h5.size := ⟨_, rfl⟩
  have g_b6 : n0 ≤ b6 := Nat.le_trans (Nat.le_trans Z0 E5.1) (Nat.le_of_eq g6.symm)
  have ne_b5_b6 : b5 ≠ b6 := Nat.ne_of_lt (Nat.lt_of_lt_of_le E_b5.lt (Nat.le_of_eq g6.symm))
  obtain ⟨_, _, ⟨T6, L6, k6, n6⟩, -, X6, ⟨Lc6, hQ6, l6, y6, z6⟩, st6⟩ := X5.specialBack hx (y := (⟨"com/example/understory/understory/sim/ColumnEvaluator$Buffer", "<init>", "()V"⟩ : MethodName)) rfl hown (mvT hZ (hw _ (List.mem_of_getElem? (i := 3) rfl))) (mvT hZ (hw _ (List.mem_of_getElem? (i := 4) rfl))) (mvT hZ (hw _ (List.mem_of_getElem? (i := 5) rfl))) (by decide) (backOf (W := 1) (rm1 l Z a0 hw [] b5 .null b6 h5 n0 (Nat.le_trans Z0 E5.1) E_b5 F_values_b5 g_b5 g6) hZ (hw _ (List.mem_of_getElem? (i := 5) rfl)) (hw _ (List.mem_of_getElem? (i := 2) rfl)) (by decide) (by decide)) (g := (mkF m 4 #[.val (.int p1), .val (.int p2), .val (.int p3), .val (.int p4), .unset, .unset, .unset, .unset, .unset, .unset, .unset, .unset, .unset, .unset] [(.ref b5), (.ref b5)])) rfl (by rw [hml]; rfl) (Steps.refl _) (a := b5) (argsL := []) (rest := [(.ref b5)]) (lenOf pd_0_0 rfl) rfl (by show 2 * 0 + _ ≤ _; exact Nat.le_of_eq rfl) (hb hby at_4) (fun _ _ => ⟨rfl, e5, (by decide : 1 + 1 ≤ _), (by decide : 1 + 0 ≤ _)⟩)
  dsimp only [Pt.U, Pt.locs, Pt.cells, Pt.slots] at X6 l6 y6 z6 st6 hQ6
  subst l6 y6 z6
  obtain ⟨rfl, N6q, K6, gE6, gF6, kk6, gV6⟩ := hQ6
  have N6 := Fr.app N0 N6q
  obtain ⟨cq7, kq7, q7a, q7b, q7c⟩ := isOf hZ rfl gE6
  obtain ⟨b7, g7⟩ : ∃ z, z = T6.heap.size := ⟨_, rfl⟩
  have g_b7 : n0 ≤ b7 := Nat.le_trans (Nat.le_trans (Nat.le_trans Z0 E5.1) K6.1) (Nat.le_of_eq g7.symm)
  have ne_b5_b7 : b5 ≠ b7 := Nat.ne_of_lt (Nat.lt_of_lt_of_le gE6.lt (Nat.le_of_eq g7.symm))
  have ne_b6_b7 : b6 ≠ b7 := Nat.ne_of_lt (Nat.lt_of_lt_of_le gV6.lt (Nat.le_of_eq g7.symm))
  obtain ⟨_, _, ⟨T7, L7, k7, n7⟩, -, X7, ⟨Lc7, hQ7, l7, y7, z7⟩, st7⟩ := X6.virtualBack hx (y := (⟨"com/example/understory/understory/sim/ColumnEvaluator$Buffer", "of", "(I)[D"⟩ : MethodName)) (z := (⟨"com/example/understory/understory/sim/ColumnEvaluator$Buffer", "of", "(I)[D"⟩ : MethodName)) hown (mvT hZ (hw _ (List.mem_of_getElem? (i := 12) rfl))) (mvT hZ (hw _ (List.mem_of_getElem? (i := 13) rfl))) (notFace_of_selects (args := #[]) (mvT hZ (hw _ (List.mem_of_getElem? (i := 15) rfl)))) (mvT hZ (hw _ (List.mem_of_getElem? (i := 15) rfl))) (mvT hZ (hw _ (List.mem_of_getElem? (i := 14) rfl))) (by decide) (backOf (W := 0) (rm3F l Z a0 hw [] b5 (p1 % (64 : Int32)) b6 _ (0 : Int32) _ _ b7 T6.heap n0 (Nat.le_trans (Nat.le_trans Z0 E5.1) K6.1) gF6 gV6 gE6 g_b5 ho39 g7 (own_mod _)) hZ (hw _ (List.mem_of_getElem? (i := 16) rfl)) (hw _ (List.mem_of_getElem? (i := 2) rfl)) (by decide) (by decide)) q7a q7c (g := (mkF m 39 #[.val (.int p1), .val (.int p2), .val (.int p3), .val (.int p4), .val (.ref b5), .val (.int (p1 % (64 : Int32))), .val (.int (p2 % (64 : Int32))), .val (.int (p3 % (64 : Int32))), .val (.double (FP.i2d (p4 % (1000 : Int32)))), .second, .unset, .unset, .unset, .unset] [(.int (p1 % (64 : Int32))), (.ref b5)])) rfl (by rw [hml]; rfl) (Steps.refl _) (argsL := [(.int (p1 % (64 : Int32)))]) (rest := []) (lenOf pd_0_1 rfl) rfl (by show 2 * 0 + _ ≤ _; exact Nat.le_of_eq rfl) (hb hby at_39) (fun _ _ => ⟨rfl, rfl, (by decide : 2 + 1 ≤ _), (by decide : 1 + 63 ≤ _)⟩)
  dsimp only [Pt.U, Pt.locs, Pt.cells, Pt.slots] at X7 l7 y7 z7 st7 hQ7
  subst l7 y7 z7
  obtain ⟨rfl, N7q, K7, gE7, gF7, kk7, gV7⟩ := hQ7
  have N7 := Fr.app N6 N7q
  obtain ⟨cl_b7_53, Ar_b7_53, -, S_b7_53, N_b7_53, -, -⟩ := id (gV7)
  obtain ⟨cl_b7_68, Ar_b7_68, -, S_b7_68, N_b7_68, -, -⟩ := id (gV7)
  obtain ⟨cl_b7_76, Ar_b7_76, -, S_b7_76, N_b7_76, -, -⟩ := id (gV7)
  obtain ⟨cl_b7_81, Ar_b7, q_b7, S_b7, N_b7, H_b7, G_b7⟩ := (gV7.pad (pad_rep [] (.double 0) ((p1 % (64 : Int32))).toNatClampNeg))
  have hin81 : ¬ (((p1 % (64 : Int32)) - (1 : Int32)) < 0 ∨ cl_b7_81.slots.size ≤ (((p1 % (64 : Int32)) - (1 : Int32))).toNatClampNeg) := inb_of S_b7 (own_last hc69)
  obtain ⟨T8, h8, X8, e8, W8, st8⟩ := stD X7 hx hZ rfl Ar_b7 (j := ((p1 % (64 : Int32)) - (1 : Int32))) hin81 (g := (mkF m 81 #[.val (.int p1), .val (.int p2), .val (.int p3), .val (.int p4), .val (.ref b5), .val (.int (p1 % (64 : Int32))), .val (.int (p2 % (64 : Int32))), .val (.int (p3 % (64 : Int32))), .val (.double (FP.i2d (p4 % (1000 : Int32)))), .second, .val (.ref b7), .val (.int (1 : Int32)), .unset, .unset] [(.double (FP.i2d (p4 % (1000 : Int32)))), (.int ((p1 % (64 : Int32)) - (1 : Int32))), (.ref b7)])) rfl rfl (hb hby at_81)
  have V_b7_8 := Arv.set Ar_b7 q_b7 S_b7 N_b7 H_b7 G_b7 rfl W8 (((p1 % (64 : Int32)) - (1 : Int32))).toNatClampNeg rfl (own_lenrep hc69 _)
  have N8 := Fr.snoc X8 N7 g_b7
  obtain ⟨cq9, kq9, q9a, q9b, q9c⟩ := isOf hZ e8 (gE7.wr W8)
  obtain ⟨_, _, ⟨T9, L9, k9, n9⟩, -, X9, ⟨Lc9, hQ9, l9, y9, z9⟩, st9⟩ := X8.virtualBack hx (y := (⟨"com/example/understory/understory/sim/ColumnEvaluator$Buffer", "of", "(I)[D"⟩ : MethodName)) (z := (⟨"com/example/understory/understory/sim/ColumnEvaluator$Buffer", "of", "(I)[D"⟩ : MethodName)) hown (mvT hZ (hw _ (List.mem_of_getElem? (i := 12) rfl))) (mvT hZ (hw _ (List.mem_of_getElem? (i := 13) rfl))) (notFace_of_selects (args := #[]) (mvT hZ (hw _ (List.mem_of_getElem? (i := 15) rfl)))) (mvT hZ (hw _ (List.mem_of_getElem? (i := 15) rfl))) (mvT hZ (hw _ (List.mem_of_getElem? (i := 14) rfl))) (by decide) (backOf (W := 0) (rm3T l Z a0 hw [] b5 (p2 % (64 : Int32)) b7 _ (p1 % (64 : Int32)) _ _ h8 n0 (Nat.le_trans (Nat.le_trans (Nat.le_trans (Nat.le_trans Z0 E5.1) K6.1) K7.1) (Keep.of_wr W8).1) (gF7.other W8 (Or.inl ne_b5_b7)) V_b7_8 ho86) hZ (hw _ (List.mem_of_getElem? (i := 16) rfl)) (hw _ (List.mem_of_getElem? (i := 2) rfl)) (by decide) (by decide)) q9a q9c (g := (mkF m 86 #[.val (.int p1), .val (.int p2), .val (.int p3), .val (.int p4), .val (.ref b5), .val (.int (p1 % (64 : Int32))), .val (.int (p2 % (64 : Int32))), .val (.int (p3 % (64 : Int32))), .val (.double (FP.i2d (p4 % (1000 : Int32)))), .second, .val (.ref b7), .val (.int (1 : Int32)), .unset, .unset] [(.int (p2 % (64 : Int32))), (.ref b5)])) rfl (by rw [hml]; rfl) (Steps.refl _) (argsL := [(.int (p2 % (64 : Int32)))]) (rest := []) (lenOf pd_0_1 rfl) rfl (by show 2 * 0 + _ ≤ _; exact Nat.le_of_eq rfl) (hb hby at_86) (fun _ _ => ⟨rfl, e8, (by decide : 3 + 0 ≤ _), (by decide : 64 + 0 ≤ _)⟩)
  dsimp only [Pt.U, Pt.locs, Pt.cells, Pt.slots] at X9 l9 y9 z9 st9 hQ9
  subst l9 y9 z9
  obtain ⟨rfl, N9q, e9⟩ := hQ9
  have N9 := Fr.app N8 N9q
  obtain ⟨cl_b7_105, Ar_b7_105, -, S_b7_105, N_b7_105, -, -⟩ := id (V_b7_8)
  obtain ⟨cl_b7_122, Ar_b7_122, -, S_b7_122, N_b7_122, -, -⟩ := id (V_b7_8)
  obtain ⟨cl_b7_140, Ar_b7_140, -, S_b7_140, N_b7_140, -, -⟩ := id (V_b7_8)
  obtain ⟨cl_b7_148, Ar_b7_148, -, S_b7_148, N_b7_148, -, -⟩ := id (V_b7_8)
  obtain ⟨cl_b7_151, Ar_b7_151, -, S_b7, N_b7, H_b7, G_b7⟩ := id (V_b7_8)
  have hin151 : ¬ (((p1 % (64 : Int32)) - (1 : Int32)) < 0 ∨ cl_b7_151.slots.size ≤ (((p1 % (64 : Int32)) - (1 : Int32))).toNatClampNeg) := inb_of S_b7 (own_last hc69)
  have hat151 : cl_b7_151.slots[(((p1 % (64 : Int32)) - (1 : Int32))).toNatClampNeg]? = some (.double (FP.i2d (p4 % (1000 : Int32)))) := (H_b7 _ (by have q := hin151; omega)).trans (congrArg some (own_get hc69 _ _))
  obtain ⟨cq10, kq10, q10a, q10b, q10c⟩ := isOf hZ e9 (gE7.wr W8)
  obtain ⟨_, _, ⟨T10, L10, k10, n10⟩, -, X10, ⟨Lc10, hQ10, l10, y10, z10⟩, st10⟩ := X9.virtualBack hx (y := (⟨"com/example/understory/understory/sim/ColumnEvaluator$Buffer", "of", "(I)[D"⟩ : MethodName)) (z := (⟨"com/example/understory/understory/sim/ColumnEvaluator$Buffer", "of", "(I)[D"⟩ : MethodName)) hown (mvT hZ (hw _ (List.mem_of_getElem? (i := 12) rfl))) (mvT hZ (hw _ (List.mem_of_getElem? (i := 13) rfl))) (notFace_of_selects (args := #[]) (mvT hZ (hw _ (List.mem_of_getElem? (i := 15) rfl)))) (mvT hZ (hw _ (List.mem_of_getElem? (i := 15) rfl))) (mvT hZ (hw _ (List.mem_of_getElem? (i := 14) rfl))) (by decide) (backOf (W := 0) (rm3T l Z a0 hw [] b5 (p3 % (64 : Int32)) b7 _ (p1 % (64 : Int32)) _ _ h8 n0 (Nat.le_trans (Nat.le_trans (Nat.le_trans (Nat.le_trans Z0 E5.1) K6.1) K7.1) (Keep.of_wr W8).1) (gF7.other W8 (Or.inl ne_b5_b7)) V_b7_8 ho169) hZ (hw _ (List.mem_of_getElem? (i := 16) rfl)) (hw _ (List.mem_of_getElem? (i := 2) rfl)) (by decide) (by decide)) q10a q10c (g := (mkF m 169 #[.val (.int p1), .val (.int p2), .val (.int p3), .val (.int p4), .val (.ref b5), .val (.int (p1 % (64 : Int32))), .val (.int (p2 % (64 : Int32))), .val (.int (p3 % (64 : Int32))), .val (.double (FP.i2d (p4 % (1000 : Int32)))), .second, .val (.ref b7), .val (.int (1 : Int32)), .val (.ref b7), .unset] [(.int (p3 % (64 : Int32))), (.ref b5)])) rfl (by rw [hml]; rfl) (Steps.refl _) (argsL := [(.int (p3 % (64 : Int32)))]) (rest := []) (lenOf pd_0_1 rfl) rfl (by show 2 * 0 + _ ≤ _; exact Nat.le_of_eq rfl) (hb hby at_169) (fun _ _ => ⟨rfl, e9, (by decide : 3 + 0 ≤ _), (by decide : 64 + 0 ≤ _)⟩)
  dsimp only [Pt.U, Pt.locs, Pt.cells, Pt.slots] at X10 l10 y10 z10 st10 hQ10
  subst l10 y10 z10
  obtain ⟨rfl, N10q, e10⟩ := hQ10
  have N10 := Fr.app N9 N10q
  obtain ⟨cl_b7_188, Ar_b7_188, -, S_b7_188, N_b7_188, -, -⟩ := id (V_b7_8)
  obtain ⟨cl_b7_205, Ar_b7_205, -, S_b7_205, N_b7_205, -, -⟩ := id (V_b7_8)
  obtain ⟨fs, hr, hrun, hended, hW, hsame⟩ := X10.leave (v := some (.int (1 : Int32))) (fun h => by rw [Bd.returns] at h; cases h)
  refine ⟨_, _, pre0 _ ?_, hrun, hended, _, _, rfl, ?_, ⟨_, rfl⟩, hW, hsame.mono (by decide) (by decide)⟩
  · show Steps p.tables e below (s₁.setTop (mkF m 0 #[.val (.int p1), .val (.int p2), .val (.int p3), .val (.int p4), .unset, .unset, .unset, .unset, .unset, .unset, .unset, .unset, .unset, .unset] [])) _
    refine st5 _ ?_
    show Steps p.tables e below (T5.setTop (mkF m 3 #[.val (.int p1), .val (.int p2), .val (.int p3), .val (.int p4), .unset, .unset, .unset, .unset, .unset, .unset, .unset, .unset, .unset, .unset] [(.ref b5)])) _
    refine XS.dup X5.here hx rfl (hb hby at_3) rfl rfl ?_
    show Steps p.tables e below (T5.setTop (mkF m 4 #[.val (.int p1), .val (.int p2), .val (.int p3), .val (.int p4), .unset, .unset, .unset, .unset, .unset, .unset, .unset, .unset, .unset, .unset] [(.ref b5), (.ref b5)])) _
    refine st6.trans ?_
    show Steps p.tables e below (T6.setTop (mkF m 7 #[.val (.int p1), .val (.int p2), .val (.int p3), .val (.int p4), .unset, .unset, .unset, .unset, .unset, .unset, .unset, .unset, .unset, .unset] [(.ref b5)])) _
    refine XS.astore X6.here hx rfl (hb hby at_7) rfl rfl (l' := #[.val (.int p1), .val (.int p2), .val (.int p3), .val (.int p4), .val (.ref b5), .unset, .unset, .unset, .unset, .unset, .unset, .unset, .unset, .unset]) rfl ?_
    show Steps p.tables e below (T6.setTop (mkF m 9 #[.val (.int p1), .val (.int p2), .val (.int p3), .val (.int p4), .val (.ref b5), .unset, .unset, .unset, .unset, .unset, .unset, .unset, .unset, .unset] [])) _
    refine XS.iloadN X6.here hx rfl (hb hby at_9) rfl ?_
    show Steps p.tables e below (T6.setTop (mkF m 10 #[.val (.int p1), .val (.int p2), .val (.int p3), .val (.int p4), .val (.ref b5), .unset, .unset, .unset, .unset, .unset, .unset, .unset, .unset, .unset] [(.int p1)])) _
    refine XS.bipush X6.here hx rfl (hb hby at_10) ?_
    show Steps p.tables e below (T6.setTop (mkF m 12 #[.val (.int p1), .val (.int p2), .val (.int p3), .val (.int p4), .val (.ref b5), .unset, .unset, .unset, .unset, .unset, .unset, .unset, .unset, .unset] [(.int (64 : Int32)), (.int p1)])) _
    refine iremM X6 hx rfl (hb hby at_12) rfl (by decide) ?_
    show Steps p.tables e below (T6.setTop (mkF m 13 #[.val (.int p1), .val (.int p2), .val (.int p3), .val (.int p4), .val (.ref b5), .unset, .unset, .unset, .unset, .unset, .unset, .unset, .unset, .unset] [(.int (p1 % (64 : Int32)))])) _
    refine XS.istore X6.here hx rfl (hb hby at_13) rfl (l' := #[.val (.int p1), .val (.int p2), .val (.int p3), .val (.int p4), .val (.ref b5), .val (.int (p1 % (64 : Int32))), .unset, .unset, .unset, .unset, .unset, .unset, .unset, .unset]) rfl ?_
    show Steps p.tables e below (T6.setTop (mkF m 15 #[.val (.int p1), .val (.int p2), .val (.int p3), .val (.int p4), .val (.ref b5), .val (.int (p1 % (64 : Int32))), .unset, .unset, .unset, .unset, .unset, .unset, .unset, .unset] [])) _
    refine XS.iloadN X6.here hx rfl (hb hby at_15) rfl ?_
    show Steps p.tables e below (T6.setTop (mkF m 16 #[.val (.int p1), .val (.int p2), .val (.int p3), .val (.int p4), .val (.ref b5), .val (.int (p1 % (64 : Int32))), .unset, .unset, .unset, .unset, .unset, .unset, .unset, .unset] [(.int p2)])) _
    refine XS.bipush X6.here hx rfl (hb hby at_16) ?_
    show Steps p.tables e below (T6.setTop (mkF m 18 #[.val (.int p1), .val (.int p2), .val (.int p3), .val (.int p4), .val (.ref b5), .val (.int (p1 % (64 : Int32))), .unset, .unset, .unset, .unset, .unset, .unset, .unset, .unset] [(.int (64 : Int32)), (.int p2)])) _
    refine iremM X6 hx rfl (hb hby at_18) rfl (by decide) ?_
    show Steps p.tables e below (T6.setTop (mkF m 19 #[.val (.int p1), .val (.int p2), .val (.int p3), .val (.int p4), .val (.ref b5), .val (.int (p1 % (64 : Int32))), .unset, .unset, .unset, .unset, .unset, .unset, .unset, .unset] [(.int (p2 % (64 : Int32)))])) _
    refine XS.istore X6.here hx rfl (hb hby at_19) rfl (l' := #[.val (.int p1), .val (.int p2), .val (.int p3), .val (.int p4), .val (.ref b5), .val (.int (p1 % (64 : Int32))), .val (.int (p2 % (64 : Int32))), .unset, .unset, .unset, .unset, .unset, .unset, .unset]) rfl ?_
    show Steps p.tables e below (T6.setTop (mkF m 21 #[.val (.int p1), .val (.int p2), .val (.int p3), .val (.int p4), .val (.ref b5), .val (.int (p1 % (64 : Int32))), .val (.int (p2 % (64 : Int32))), .unset, .unset, .unset, .unset, .unset, .unset, .unset] [])) _
    refine XS.iloadN X6.here hx rfl (hb hby at_21) rfl ?_
    show Steps p.tables e below (T6.setTop (mkF m 22 #[.val (.int p1), .val (.int p2), .val (.int p3), .val (.int p4), .val (.ref b5), .val (.int (p1 % (64 : Int32))), .val (.int (p2 % (64 : Int32))), .unset, .unset, .unset, .unset, .unset, .unset, .unset] [(.int p3)])) _
    refine XS.bipush X6.here hx rfl (hb hby at_22) ?_
    show Steps p.tables e below (T6.setTop (mkF m 24 #[.val (.int p1), .val (.int p2), .val (.int p3), .val (.int p4), .val (.ref b5), .val (.int (p1 % (64 : Int32))), .val (.int (p2 % (64 : Int32))), .unset, .unset, .unset, .unset, .unset, .unset, .unset] [(.int (64 : Int32)), (.int p3)])) _
    refine iremM X6 hx rfl (hb hby at_24) rfl (by decide) ?_
    show Steps p.tables e below (T6.setTop (mkF m 25 #[.val (.int p1), .val (.int p2), .val (.int p3), .val (.int p4), .val (.ref b5), .val (.int (p1 % (64 : Int32))), .val (.int (p2 % (64 : Int32))), .unset, .unset, .unset, .unset, .unset, .unset, .unset] [(.int (p3 % (64 : Int32)))])) _
    refine XS.istore X6.here hx rfl (hb hby at_25) rfl (l' := #[.val (.int p1), .val (.int p2), .val (.int p3), .val (.int p4), .val (.ref b5), .val (.int (p1 % (64 : Int32))), .val (.int (p2 % (64 : Int32))), .val (.int (p3 % (64 : Int32))), .unset, .unset, .unset, .unset, .unset, .unset]) rfl ?_
    show Steps p.tables e below (T6.setTop (mkF m 27 #[.val (.int p1), .val (.int p2), .val (.int p3), .val (.int p4), .val (.ref b5), .val (.int (p1 % (64 : Int32))), .val (.int (p2 % (64 : Int32))), .val (.int (p3 % (64 : Int32))), .unset, .unset, .unset, .unset, .unset, .unset] [])) _
    refine XS.iloadN X6.here hx rfl (hb hby at_27) rfl ?_
    show Steps p.tables e below (T6.setTop (mkF m 28 #[.val (.int p1), .val (.int p2), .val (.int p3), .val (.int p4), .val (.ref b5), .val (.int (p1 % (64 : Int32))), .val (.int (p2 % (64 : Int32))), .val (.int (p3 % (64 : Int32))), .unset, .unset, .unset, .unset, .unset, .unset] [(.int p4)])) _
    refine XS.sipush X6.here hx rfl (hb hby at_28) ?_
    show Steps p.tables e below (T6.setTop (mkF m 31 #[.val (.int p1), .val (.int p2), .val (.int p3), .val (.int p4), .val (.ref b5), .val (.int (p1 % (64 : Int32))), .val (.int (p2 % (64 : Int32))), .val (.int (p3 % (64 : Int32))), .unset, .unset, .unset, .unset, .unset, .unset] [(.int (1000 : Int32)), (.int p4)])) _
    refine iremM X6 hx rfl (hb hby at_31) rfl (by decide) ?_
    show Steps p.tables e below (T6.setTop (mkF m 32 #[.val (.int p1), .val (.int p2), .val (.int p3), .val (.int p4), .val (.ref b5), .val (.int (p1 % (64 : Int32))), .val (.int (p2 % (64 : Int32))), .val (.int (p3 % (64 : Int32))), .unset, .unset, .unset, .unset, .unset, .unset] [(.int (p4 % (1000 : Int32)))])) _
    refine XS.i2dS X6.here hx rfl (hb hby at_32) rfl rfl ?_
    show Steps p.tables e below (T6.setTop (mkF m 33 #[.val (.int p1), .val (.int p2), .val (.int p3), .val (.int p4), .val (.ref b5), .val (.int (p1 % (64 : Int32))), .val (.int (p2 % (64 : Int32))), .val (.int (p3 % (64 : Int32))), .unset, .unset, .unset, .unset, .unset, .unset] [(.double (FP.i2d (p4 % (1000 : Int32))))])) _
    refine XS.dstore X6.here hx rfl (hb hby at_33) rfl (l' := #[.val (.int p1), .val (.int p2), .val (.int p3), .val (.int p4), .val (.ref b5), .val (.int (p1 % (64 : Int32))), .val (.int (p2 % (64 : Int32))), .val (.int (p3 % (64 : Int32))), .val (.double (FP.i2d (p4 % (1000 : Int32)))), .second, .unset, .unset, .unset, .unset]) rfl ?_
    show Steps p.tables e below (T6.setTop (mkF m 35 #[.val (.int p1), .val (.int p2), .val (.int p3), .val (.int p4), .val (.ref b5), .val (.int (p1 % (64 : Int32))), .val (.int (p2 % (64 : Int32))), .val (.int (p3 % (64 : Int32))), .val (.double (FP.i2d (p4 % (1000 : Int32)))), .second, .unset, .unset, .unset, .unset] [])) _
    refine XS.aload X6.here hx rfl (hb hby at_35) rfl rfl ?_
    show Steps p.tables e below (T6.setTop (mkF m 37 #[.val (.int p1), .val (.int p2), .val (.int p3), .val (.int p4), .val (.ref b5), .val (.int (p1 % (64 : Int32))), .val (.int (p2 % (64 : Int32))), .val (.int (p3 % (64 : Int32))), .val (.double (FP.i2d (p4 % (1000 : Int32)))), .second, .unset, .unset, .unset, .unset] [(.ref b5)])) _
    refine XS.iload X6.here hx rfl (hb hby at_37) rfl ?_
    show Steps p.tables e below (T6.setTop (mkF m 39 #[.val (.int p1), .val (.int p2), .val (.int p3), .val (.int p4), .val (.ref b5), .val (.int (p1 % (64 : Int32))), .val (.int (p2 % (64 : Int32))), .val (.int (p3 % (64 : Int32))), .val (.double (FP.i2d (p4 % (1000 : Int32)))), .second, .unset, .unset, .unset, .unset] [(.int (p1 % (64 : Int32))), (.ref b5)])) _
    refine st7.trans ?_
    show Steps p.tables e below (T7.setTop (mkF m 42 #[.val (.int p1), .val (.int p2), .val (.int p3), .val (.int p4), .val (.ref b5), .val (.int (p1 % (64 : Int32))), .val (.int (p2 % (64 : Int32))), .val (.int (p3 % (64 : Int32))), .val (.double (FP.i2d (p4 % (1000 : Int32)))), .second, .unset, .unset, .unset, .unset] [(.ref b7)])) _
    refine XS.astore X7.here hx rfl (hb hby at_42) rfl rfl (l' := #[.val (.int p1), .val (.int p2), .val (.int p3), .val (.int p4), .val (.ref b5), .val (.int (p1 % (64 : Int32))), .val (.int (p2 % (64 : Int32))), .val (.int (p3 % (64 : Int32))), .val (.double (FP.i2d (p4 % (1000 : Int32)))), .second, .val (.ref b7), .unset, .unset, .unset]) rfl ?_
    show Steps p.tables e below (T7.setTop (mkF m 44 #[.val (.int p1), .val (.int p2), .val (.int p3), .val (.int p4), .val (.ref b5), .val (.int (p1 % (64 : Int32))), .val (.int (p2 % (64 : Int32))), .val (.int (p3 % (64 : Int32))), .val (.double (FP.i2d (p4 % (1000 : Int32)))), .second, .val (.ref b7), .unset, .unset, .unset] [])) _
    refine XS.aload X7.here hx rfl (hb hby at_44) rfl rfl ?_
    show Steps p.tables e below (T7.setTop (mkF m 46 #[.val (.int p1), .val (.int p2), .val (.int p3), .val (.int p4), .val (.ref b5), .val (.int (p1 % (64 : Int32))), .val (.int (p2 % (64 : Int32))), .val (.int (p3 % (64 : Int32))), .val (.double (FP.i2d (p4 % (1000 : Int32)))), .second, .val (.ref b7), .unset, .unset, .unset] [(.ref b7)])) _
    refine XS.ifnonnullYes X7.here hx rfl (pc0 := 46) (pc' := 51) rfl (hb hby at_46) rfl (by decide) (by decide) ?_
    show Steps p.tables e below (T7.setTop (mkF m 51 #[.val (.int p1), .val (.int p2), .val (.int p3), .val (.int p4), .val (.ref b5), .val (.int (p1 % (64 : Int32))), .val (.int (p2 % (64 : Int32))), .val (.int (p3 % (64 : Int32))), .val (.double (FP.i2d (p4 % (1000 : Int32)))), .second, .val (.ref b7), .unset, .unset, .unset] [])) _
    refine XS.aload X7.here hx rfl (hb hby at_51) rfl rfl ?_
    show Steps p.tables e below (T7.setTop (mkF m 53 #[.val (.int p1), .val (.int p2), .val (.int p3), .val (.int p4), .val (.ref b5), .val (.int (p1 % (64 : Int32))), .val (.int (p2 % (64 : Int32))), .val (.int (p3 % (64 : Int32))), .val (.double (FP.i2d (p4 % (1000 : Int32)))), .second, .val (.ref b7), .unset, .unset, .unset] [(.ref b7)])) _
    refine X7.arraylength hx (by exact Ar_b7_53.1) (State.isArrayOf_alike hZ.alike Ar_b7_53.2.1) (g := (mkF m 53 #[.val (.int p1), .val (.int p2), .val (.int p3), .val (.int p4), .val (.ref b5), .val (.int (p1 % (64 : Int32))), .val (.int (p2 % (64 : Int32))), .val (.int (p3 % (64 : Int32))), .val (.double (FP.i2d (p4 % (1000 : Int32)))), .second, .val (.ref b7), .unset, .unset, .unset] [(.ref b7)])) rfl rfl (hb hby at_53) _ ?_
    rw [len_of S_b7_53 N_b7_53]
    show Steps p.tables e below (T7.setTop (mkF m 54 #[.val (.int p1), .val (.int p2), .val (.int p3), .val (.int p4), .val (.ref b5), .val (.int (p1 % (64 : Int32))), .val (.int (p2 % (64 : Int32))), .val (.int (p3 % (64 : Int32))), .val (.double (FP.i2d (p4 % (1000 : Int32)))), .second, .val (.ref b7), .unset, .unset, .unset] [(.int (p1 % (64 : Int32)))])) _
    refine XS.iload X7.here hx rfl (hb hby at_54) rfl ?_
    show Steps p.tables e below (T7.setTop (mkF m 56 #[.val (.int p1), .val (.int p2), .val (.int p3), .val (.int p4), .val (.ref b5), .val (.int (p1 % (64 : Int32))), .val (.int (p2 % (64 : Int32))), .val (.int (p3 % (64 : Int32))), .val (.double (FP.i2d (p4 % (1000 : Int32)))), .second, .val (.ref b7), .unset, .unset, .unset] [(.int (p1 % (64 : Int32))), (.int (p1 % (64 : Int32)))])) _
    refine XS.icmpNo X7.here hx rfl (hb hby at_56) rfl (flt hc56).1 ?_
    show Steps p.tables e below (T7.setTop (mkF m 59 #[.val (.int p1), .val (.int p2), .val (.int p3), .val (.int p4), .val (.ref b5), .val (.int (p1 % (64 : Int32))), .val (.int (p2 % (64 : Int32))), .val (.int (p3 % (64 : Int32))), .val (.double (FP.i2d (p4 % (1000 : Int32)))), .second, .val (.ref b7), .unset, .unset, .unset] [])) _
    refine XS.iconst X7.here hx rfl (hb hby at_59) ?_
    show Steps p.tables e below (T7.setTop (mkF m 60 #[.val (.int p1), .val (.int p2), .val (.int p3), .val (.int p4), .val (.ref b5), .val (.int (p1 % (64 : Int32))), .val (.int (p2 % (64 : Int32))), .val (.int (p3 % (64 : Int32))), .val (.double (FP.i2d (p4 % (1000 : Int32)))), .second, .val (.ref b7), .unset, .unset, .unset] [(.int (1 : Int32))])) _
    refine XS.goto X7.here hx rfl (pc0 := 60) (pc' := 64) rfl (hb hby at_60) (by decide) (by decide) ?_
    show Steps p.tables e below (T7.setTop (mkF m 64 #[.val (.int p1), .val (.int p2), .val (.int p3), .val (.int p4), .val (.ref b5), .val (.int (p1 % (64 : Int32))), .val (.int (p2 % (64 : Int32))), .val (.int (p3 % (64 : Int32))), .val (.double (FP.i2d (p4 % (1000 : Int32)))), .second, .val (.ref b7), .unset, .unset, .unset] [(.int (1 : Int32))])) _
    refine XS.istore X7.here hx rfl (hb hby at_64) rfl (l' := #[.val (.int p1), .val (.int p2), .val (.int p3), .val (.int p4), .val (.ref b5), .val (.int (p1 % (64 : Int32))), .val (.int (p2 % (64 : Int32))), .val (.int (p3 % (64 : Int32))), .val (.double (FP.i2d (p4 % (1000 : Int32)))), .second, .val (.ref b7), .val (.int (1 : Int32)), .unset, .unset]) rfl ?_
    show Steps p.tables e below (T7.setTop (mkF m 66 #[.val (.int p1), .val (.int p2), .val (.int p3), .val (.int p4), .val (.ref b5), .val (.int (p1 % (64 : Int32))), .val (.int (p2 % (64 : Int32))), .val (.int (p3 % (64 : Int32))), .val (.double (FP.i2d (p4 % (1000 : Int32)))), .second, .val (.ref b7), .val (.int (1 : Int32)), .unset, .unset] [])) _
    refine XS.aload X7.here hx rfl (hb hby at_66) rfl rfl ?_
    show Steps p.tables e below (T7.setTop (mkF m 68 #[.val (.int p1), .val (.int p2), .val (.int p3), .val (.int p4), .val (.ref b5), .val (.int (p1 % (64 : Int32))), .val (.int (p2 % (64 : Int32))), .val (.int (p3 % (64 : Int32))), .val (.double (FP.i2d (p4 % (1000 : Int32)))), .second, .val (.ref b7), .val (.int (1 : Int32)), .unset, .unset] [(.ref b7)])) _
    refine X7.arraylength hx (by exact Ar_b7_68.1) (State.isArrayOf_alike hZ.alike Ar_b7_68.2.1) (g := (mkF m 68 #[.val (.int p1), .val (.int p2), .val (.int p3), .val (.int p4), .val (.ref b5), .val (.int (p1 % (64 : Int32))), .val (.int (p2 % (64 : Int32))), .val (.int (p3 % (64 : Int32))), .val (.double (FP.i2d (p4 % (1000 : Int32)))), .second, .val (.ref b7), .val (.int (1 : Int32)), .unset, .unset] [(.ref b7)])) rfl rfl (hb hby at_68) _ ?_
    rw [len_of S_b7_68 N_b7_68]
    show Steps p.tables e below (T7.setTop (mkF m 69 #[.val (.int p1), .val (.int p2), .val (.int p3), .val (.int p4), .val (.ref b5), .val (.int (p1 % (64 : Int32))), .val (.int (p2 % (64 : Int32))), .val (.int (p3 % (64 : Int32))), .val (.double (FP.i2d (p4 % (1000 : Int32)))), .second, .val (.ref b7), .val (.int (1 : Int32)), .unset, .unset] [(.int (p1 % (64 : Int32)))])) _
    refine XS.ifNo X7.here hx rfl (hb hby at_69) rfl ((if0 _ _).trans (tlt hc69).2.2.2) ?_
    show Steps p.tables e below (T7.setTop (mkF m 72 #[.val (.int p1), .val (.int p2), .val (.int p3), .val (.int p4), .val (.ref b5), .val (.int (p1 % (64 : Int32))), .val (.int (p2 % (64 : Int32))), .val (.int (p3 % (64 : Int32))), .val (.double (FP.i2d (p4 % (1000 : Int32)))), .second, .val (.ref b7), .val (.int (1 : Int32)), .unset, .unset] [])) _
    refine XS.aload X7.here hx rfl (hb hby at_72) rfl rfl ?_
    show Steps p.tables e below (T7.setTop (mkF m 74 #[.val (.int p1), .val (.int p2), .val (.int p3), .val (.int p4), .val (.ref b5), .val (.int (p1 % (64 : Int32))), .val (.int (p2 % (64 : Int32))), .val (.int (p3 % (64 : Int32))), .val (.double (FP.i2d (p4 % (1000 : Int32)))), .second, .val (.ref b7), .val (.int (1 : Int32)), .unset, .unset] [(.ref b7)])) _
    refine XS.aload X7.here hx rfl (hb hby at_74) rfl rfl ?_
    show Steps p.tables e below (T7.setTop (mkF m 76 #[.val (.int p1), .val (.int p2), .val (.int p3), .val (.int p4), .val (.ref b5), .val (.int (p1 % (64 : Int32))), .val (.int (p2 % (64 : Int32))), .val (.int (p3 % (64 : Int32))), .val (.double (FP.i2d (p4 % (1000 : Int32)))), .second, .val (.ref b7), .val (.int (1 : Int32)), .unset, .unset] [(.ref b7), (.ref b7)])) _
    refine X7.arraylength hx (by exact Ar_b7_76.1) (State.isArrayOf_alike hZ.alike Ar_b7_76.2.1) (g := (mkF m 76 #[.val (.int p1), .val (.int p2), .val (.int p3), .val (.int p4), .val (.ref b5), .val (.int (p1 % (64 : Int32))), .val (.int (p2 % (64 : Int32))), .val (.int (p3 % (64 : Int32))), .val (.double (FP.i2d (p4 % (1000 : Int32)))), .second, .val (.ref b7), .val (.int (1 : Int32)), .unset, .unset] [(.ref b7), (.ref b7)])) rfl rfl (hb hby at_76) _ ?_
    rw [len_of S_b7_76 N_b7_76]
    show Steps p.tables e below (T7.setTop (mkF m 77 #[.val (.int p1), .val (.int p2), .val (.int p3), .val (.int p4), .val (.ref b5), .val (.int (p1 % (64 : Int32))), .val (.int (p2 % (64 : Int32))), .val (.int (p3 % (64 : Int32))), .val (.double (FP.i2d (p4 % (1000 : Int32)))), .second, .val (.ref b7), .val (.int (1 : Int32)), .unset, .unset] [(.int (p1 % (64 : Int32))), (.ref b7)])) _
    refine XS.iconst X7.here hx rfl (hb hby at_77) ?_
    show Steps p.tables e below (T7.setTop (mkF m 78 #[.val (.int p1), .val (.int p2), .val (.int p3), .val (.int p4), .val (.ref b5), .val (.int (p1 % (64 : Int32))), .val (.int (p2 % (64 : Int32))), .val (.int (p3 % (64 : Int32))), .val (.double (FP.i2d (p4 % (1000 : Int32)))), .second, .val (.ref b7), .val (.int (1 : Int32)), .unset, .unset] [(.int (1 : Int32)), (.int (p1 % (64 : Int32))), (.ref b7)])) _
    refine XS.isub X7.here hx rfl (hb hby at_78) rfl ?_
    show Steps p.tables e below (T7.setTop (mkF m 79 #[.val (.int p1), .val (.int p2), .val (.int p3), .val (.int p4), .val (.ref b5), .val (.int (p1 % (64 : Int32))), .val (.int (p2 % (64 : Int32))), .val (.int (p3 % (64 : Int32))), .val (.double (FP.i2d (p4 % (1000 : Int32)))), .second, .val (.ref b7), .val (.int (1 : Int32)), .unset, .unset] [(.int ((p1 % (64 : Int32)) - (1 : Int32))), (.ref b7)])) _
    refine XS.dload X7.here hx rfl (hb hby at_79) rfl ?_
    show Steps p.tables e below (T7.setTop (mkF m 81 #[.val (.int p1), .val (.int p2), .val (.int p3), .val (.int p4), .val (.ref b5), .val (.int (p1 % (64 : Int32))), .val (.int (p2 % (64 : Int32))), .val (.int (p3 % (64 : Int32))), .val (.double (FP.i2d (p4 % (1000 : Int32)))), .second, .val (.ref b7), .val (.int (1 : Int32)), .unset, .unset] [(.double (FP.i2d (p4 % (1000 : Int32)))), (.int ((p1 % (64 : Int32)) - (1 : Int32))), (.ref b7)])) _
    refine st8 _ ?_
    show Steps p.tables e below (T8.setTop (mkF m 82 #[.val (.int p1), .val (.int p2), .val (.int p3), .val (.int p4), .val (.ref b5), .val (.int (p1 % (64 : Int32))), .val (.int (p2 % (64 : Int32))), .val (.int (p3 % (64 : Int32))), .val (.double (FP.i2d (p4 % (1000 : Int32)))), .second, .val (.ref b7), .val (.int (1 : Int32)), .unset, .unset] [])) _
    refine XS.aload X8.here hx rfl (hb hby at_82) rfl rfl ?_
    show Steps p.tables e below (T8.setTop (mkF m 84 #[.val (.int p1), .val (.int p2), .val (.int p3), .val (.int p4), .val (.ref b5), .val (.int (p1 % (64 : Int32))), .val (.int (p2 % (64 : Int32))), .val (.int (p3 % (64 : Int32))), .val (.double (FP.i2d (p4 % (1000 : Int32)))), .second, .val (.ref b7), .val (.int (1 : Int32)), .unset, .unset] [(.ref b5)])) _
    refine XS.iload X8.here hx rfl (hb hby at_84) rfl ?_
    show Steps p.tables e below (T8.setTop (mkF m 86 #[.val (.int p1), .val (.int p2), .val (.int p3), .val (.int p4), .val (.ref b5), .val (.int (p1 % (64 : Int32))), .val (.int (p2 % (64 : Int32))), .val (.int (p3 % (64 : Int32))), .val (.double (FP.i2d (p4 % (1000 : Int32)))), .second, .val (.ref b7), .val (.int (1 : Int32)), .unset, .unset] [(.int (p2 % (64 : Int32))), (.ref b5)])) _
    refine st9.trans ?_
    show Steps p.tables e below (T9.setTop (mkF m 89 #[.val (.int p1), .val (.int p2), .val (.int p3), .val (.int p4), .val (.ref b5), .val (.int (p1 % (64 : Int32))), .val (.int (p2 % (64 : Int32))), .val (.int (p3 % (64 : Int32))), .val (.double (FP.i2d (p4 % (1000 : Int32)))), .second, .val (.ref b7), .val (.int (1 : Int32)), .unset, .unset] [(.ref b7)])) _
    refine XS.astore X9.here hx rfl (hb hby at_89) rfl rfl (l' := #[.val (.int p1), .val (.int p2), .val (.int p3), .val (.int p4), .val (.ref b5), .val (.int (p1 % (64 : Int32))), .val (.int (p2 % (64 : Int32))), .val (.int (p3 % (64 : Int32))), .val (.double (FP.i2d (p4 % (1000 : Int32)))), .second, .val (.ref b7), .val (.int (1 : Int32)), .val (.ref b7), .unset]) rfl ?_
    show Steps p.tables e below (T9.setTop (mkF m 91 #[.val (.int p1), .val (.int p2), .val (.int p3), .val (.int p4), .val (.ref b5), .val (.int (p1 % (64 : Int32))), .val (.int (p2 % (64 : Int32))), .val (.int (p3 % (64 : Int32))), .val (.double (FP.i2d (p4 % (1000 : Int32)))), .second, .val (.ref b7), .val (.int (1 : Int32)), .val (.ref b7), .unset] [])) _
    refine XS.aload X9.here hx rfl (hb hby at_91) rfl rfl ?_
    show Steps p.tables e below (T9.setTop (mkF m 93 #[.val (.int p1), .val (.int p2), .val (.int p3), .val (.int p4), .val (.ref b5), .val (.int (p1 % (64 : Int32))), .val (.int (p2 % (64 : Int32))), .val (.int (p3 % (64 : Int32))), .val (.double (FP.i2d (p4 % (1000 : Int32)))), .second, .val (.ref b7), .val (.int (1 : Int32)), .val (.ref b7), .unset] [(.ref b7)])) _
    refine XS.ifnonnullYes X9.here hx rfl (pc0 := 93) (pc' := 98) rfl (hb hby at_93) rfl (by decide) (by decide) ?_
    show Steps p.tables e below (T9.setTop (mkF m 98 #[.val (.int p1), .val (.int p2), .val (.int p3), .val (.int p4), .val (.ref b5), .val (.int (p1 % (64 : Int32))), .val (.int (p2 % (64 : Int32))), .val (.int (p3 % (64 : Int32))), .val (.double (FP.i2d (p4 % (1000 : Int32)))), .second, .val (.ref b7), .val (.int (1 : Int32)), .val (.ref b7), .unset] [])) _
    refine XS.iload X9.here hx rfl (hb hby at_98) rfl ?_
    show Steps p.tables e below (T9.setTop (mkF m 100 #[.val (.int p1), .val (.int p2), .val (.int p3), .val (.int p4), .val (.ref b5), .val (.int (p1 % (64 : Int32))), .val (.int (p2 % (64 : Int32))), .val (.int (p3 % (64 : Int32))), .val (.double (FP.i2d (p4 % (1000 : Int32)))), .second, .val (.ref b7), .val (.int (1 : Int32)), .val (.ref b7), .unset] [(.int (1 : Int32))])) _
    refine XS.ifNo X9.here hx rfl (hb hby at_100) rfl ((if0 _ _).trans (feq hc100).1) ?_
    show Steps p.tables e below (T9.setTop (mkF m 103 #[.val (.int p1), .val (.int p2), .val (.int p3), .val (.int p4), .val (.ref b5), .val (.int (p1 % (64 : Int32))), .val (.int (p2 % (64 : Int32))), .val (.int (p3 % (64 : Int32))), .val (.double (FP.i2d (p4 % (1000 : Int32)))), .second, .val (.ref b7), .val (.int (1 : Int32)), .val (.ref b7), .unset] [])) _
    refine XS.aload X9.here hx rfl (hb hby at_103) rfl rfl ?_
    show Steps p.tables e below (T9.setTop (mkF m 105 #[.val (.int p1), .val (.int p2), .val (.int p3), .val (.int p4), .val (.ref b5), .val (.int (p1 % (64 : Int32))), .val (.int (p2 % (64 : Int32))), .val (.int (p3 % (64 : Int32))), .val (.double (FP.i2d (p4 % (1000 : Int32)))), .second, .val (.ref b7), .val (.int (1 : Int32)), .val (.ref b7), .unset] [(.ref b7)])) _
    refine X9.arraylength hx (by rw [e9]; exact Ar_b7_105.1) (State.isArrayOf_alike hZ.alike Ar_b7_105.2.1) (g := (mkF m 105 #[.val (.int p1), .val (.int p2), .val (.int p3), .val (.int p4), .val (.ref b5), .val (.int (p1 % (64 : Int32))), .val (.int (p2 % (64 : Int32))), .val (.int (p3 % (64 : Int32))), .val (.double (FP.i2d (p4 % (1000 : Int32)))), .second, .val (.ref b7), .val (.int (1 : Int32)), .val (.ref b7), .unset] [(.ref b7)])) rfl rfl (hb hby at_105) _ ?_
    rw [len_of S_b7_105 N_b7_105]
    show Steps p.tables e below (T9.setTop (mkF m 106 #[.val (.int p1), .val (.int p2), .val (.int p3), .val (.int p4), .val (.ref b5), .val (.int (p1 % (64 : Int32))), .val (.int (p2 % (64 : Int32))), .val (.int (p3 % (64 : Int32))), .val (.double (FP.i2d (p4 % (1000 : Int32)))), .second, .val (.ref b7), .val (.int (1 : Int32)), .val (.ref b7), .unset] [(.int (p1 % (64 : Int32)))])) _
    refine XS.iload X9.here hx rfl (hb hby at_106) rfl ?_
    show Steps p.tables e below (T9.setTop (mkF m 108 #[.val (.int p1), .val (.int p2), .val (.int p3), .val (.int p4), .val (.ref b5), .val (.int (p1 % (64 : Int32))), .val (.int (p2 % (64 : Int32))), .val (.int (p3 % (64 : Int32))), .val (.double (FP.i2d (p4 % (1000 : Int32)))), .second, .val (.ref b7), .val (.int (1 : Int32)), .val (.ref b7), .unset] [(.int (p2 % (64 : Int32))), (.int (p1 % (64 : Int32)))])) _
    refine XS.icmpNo X9.here hx rfl (hb hby at_108) rfl (flt hc108).1 ?_
    show Steps p.tables e below (T9.setTop (mkF m 111 #[.val (.int p1), .val (.int p2), .val (.int p3), .val (.int p4), .val (.ref b5), .val (.int (p1 % (64 : Int32))), .val (.int (p2 % (64 : Int32))), .val (.int (p3 % (64 : Int32))), .val (.double (FP.i2d (p4 % (1000 : Int32)))), .second, .val (.ref b7), .val (.int (1 : Int32)), .val (.ref b7), .unset] [])) _
    refine XS.iconst X9.here hx rfl (hb hby at_111) ?_
    show Steps p.tables e below (T9.setTop (mkF m 112 #[.val (.int p1), .val (.int p2), .val (.int p3), .val (.int p4), .val (.ref b5), .val (.int (p1 % (64 : Int32))), .val (.int (p2 % (64 : Int32))), .val (.int (p3 % (64 : Int32))), .val (.double (FP.i2d (p4 % (1000 : Int32)))), .second, .val (.ref b7), .val (.int (1 : Int32)), .val (.ref b7), .unset] [(.int (1 : Int32))])) _
    refine XS.goto X9.here hx rfl (pc0 := 112) (pc' := 116) rfl (hb hby at_112) (by decide) (by decide) ?_
    show Steps p.tables e below (T9.setTop (mkF m 116 #[.val (.int p1), .val (.int p2), .val (.int p3), .val (.int p4), .val (.ref b5), .val (.int (p1 % (64 : Int32))), .val (.int (p2 % (64 : Int32))), .val (.int (p3 % (64 : Int32))), .val (.double (FP.i2d (p4 % (1000 : Int32)))), .second, .val (.ref b7), .val (.int (1 : Int32)), .val (.ref b7), .unset] [(.int (1 : Int32))])) _
    refine XS.istore X9.here hx rfl (hb hby at_116) rfl (l' := #[.val (.int p1), .val (.int p2), .val (.int p3), .val (.int p4), .val (.ref b5), .val (.int (p1 % (64 : Int32))), .val (.int (p2 % (64 : Int32))), .val (.int (p3 % (64 : Int32))), .val (.double (FP.i2d (p4 % (1000 : Int32)))), .second, .val (.ref b7), .val (.int (1 : Int32)), .val (.ref b7), .unset]) rfl ?_
    show Steps p.tables e below (T9.setTop (mkF m 118 #[.val (.int p1), .val (.int p2), .val (.int p3), .val (.int p4), .val (.ref b5), .val (.int (p1 % (64 : Int32))), .val (.int (p2 % (64 : Int32))), .val (.int (p3 % (64 : Int32))), .val (.double (FP.i2d (p4 % (1000 : Int32)))), .second, .val (.ref b7), .val (.int (1 : Int32)), .val (.ref b7), .unset] [])) _
    refine XS.iload X9.here hx rfl (hb hby at_118) rfl ?_
    show Steps p.tables e below (T9.setTop (mkF m 120 #[.val (.int p1), .val (.int p2), .val (.int p3), .val (.int p4), .val (.ref b5), .val (.int (p1 % (64 : Int32))), .val (.int (p2 % (64 : Int32))), .val (.int (p3 % (64 : Int32))), .val (.double (FP.i2d (p4 % (1000 : Int32)))), .second, .val (.ref b7), .val (.int (1 : Int32)), .val (.ref b7), .unset] [(.int (p2 % (64 : Int32)))])) _
    refine XS.aload X9.here hx rfl (hb hby at_120) rfl rfl ?_
    show Steps p.tables e below (T9.setTop (mkF m 122 #[.val (.int p1), .val (.int p2), .val (.int p3), .val (.int p4), .val (.ref b5), .val (.int (p1 % (64 : Int32))), .val (.int (p2 % (64 : Int32))), .val (.int (p3 % (64 : Int32))), .val (.double (FP.i2d (p4 % (1000 : Int32)))), .second, .val (.ref b7), .val (.int (1 : Int32)), .val (.ref b7), .unset] [(.ref b7), (.int (p2 % (64 : Int32)))])) _
    refine X9.arraylength hx (by rw [e9]; exact Ar_b7_122.1) (State.isArrayOf_alike hZ.alike Ar_b7_122.2.1) (g := (mkF m 122 #[.val (.int p1), .val (.int p2), .val (.int p3), .val (.int p4), .val (.ref b5), .val (.int (p1 % (64 : Int32))), .val (.int (p2 % (64 : Int32))), .val (.int (p3 % (64 : Int32))), .val (.double (FP.i2d (p4 % (1000 : Int32)))), .second, .val (.ref b7), .val (.int (1 : Int32)), .val (.ref b7), .unset] [(.ref b7), (.int (p2 % (64 : Int32)))])) rfl rfl (hb hby at_122) _ ?_
    rw [len_of S_b7_122 N_b7_122]
    show Steps p.tables e below (T9.setTop (mkF m 123 #[.val (.int p1), .val (.int p2), .val (.int p3), .val (.int p4), .val (.ref b5), .val (.int (p1 % (64 : Int32))), .val (.int (p2 % (64 : Int32))), .val (.int (p3 % (64 : Int32))), .val (.double (FP.i2d (p4 % (1000 : Int32)))), .second, .val (.ref b7), .val (.int (1 : Int32)), .val (.ref b7), .unset] [(.int (p1 % (64 : Int32))), (.int (p2 % (64 : Int32)))])) _
    refine XS.icmpNo X9.here hx rfl (hb hby at_123) rfl (flt hc123).2.2.1 ?_
    show Steps p.tables e below (T9.setTop (mkF m 126 #[.val (.int p1), .val (.int p2), .val (.int p3), .val (.int p4), .val (.ref b5), .val (.int (p1 % (64 : Int32))), .val (.int (p2 % (64 : Int32))), .val (.int (p3 % (64 : Int32))), .val (.double (FP.i2d (p4 % (1000 : Int32)))), .second, .val (.ref b7), .val (.int (1 : Int32)), .val (.ref b7), .unset] [])) _
    refine XS.iload X9.here hx rfl (hb hby at_126) rfl ?_
    show Steps p.tables e below (T9.setTop (mkF m 128 #[.val (.int p1), .val (.int p2), .val (.int p3), .val (.int p4), .val (.ref b5), .val (.int (p1 % (64 : Int32))), .val (.int (p2 % (64 : Int32))), .val (.int (p3 % (64 : Int32))), .val (.double (FP.i2d (p4 % (1000 : Int32)))), .second, .val (.ref b7), .val (.int (1 : Int32)), .val (.ref b7), .unset] [(.int (1 : Int32))])) _
    refine XS.ifNo X9.here hx rfl (hb hby at_128) rfl ((if0 _ _).trans (feq hc128).1) ?_
    show Steps p.tables e below (T9.setTop (mkF m 131 #[.val (.int p1), .val (.int p2), .val (.int p3), .val (.int p4), .val (.ref b5), .val (.int (p1 % (64 : Int32))), .val (.int (p2 % (64 : Int32))), .val (.int (p3 % (64 : Int32))), .val (.double (FP.i2d (p4 % (1000 : Int32)))), .second, .val (.ref b7), .val (.int (1 : Int32)), .val (.ref b7), .unset] [])) _
    refine XS.aload X9.here hx rfl (hb hby at_131) rfl rfl ?_
    show Steps p.tables e below (T9.setTop (mkF m 133 #[.val (.int p1), .val (.int p2), .val (.int p3), .val (.int p4), .val (.ref b5), .val (.int (p1 % (64 : Int32))), .val (.int (p2 % (64 : Int32))), .val (.int (p3 % (64 : Int32))), .val (.double (FP.i2d (p4 % (1000 : Int32)))), .second, .val (.ref b7), .val (.int (1 : Int32)), .val (.ref b7), .unset] [(.ref b7)])) _
    refine XS.aload X9.here hx rfl (hb hby at_133) rfl rfl ?_
    show Steps p.tables e below (T9.setTop (mkF m 135 #[.val (.int p1), .val (.int p2), .val (.int p3), .val (.int p4), .val (.ref b5), .val (.int (p1 % (64 : Int32))), .val (.int (p2 % (64 : Int32))), .val (.int (p3 % (64 : Int32))), .val (.double (FP.i2d (p4 % (1000 : Int32)))), .second, .val (.ref b7), .val (.int (1 : Int32)), .val (.ref b7), .unset] [(.ref b7), (.ref b7)])) _
    refine Jvm.RoadKit.acmp (g := (mkF m 135 #[.val (.int p1), .val (.int p2), .val (.int p3), .val (.int p4), .val (.ref b5), .val (.int (p1 % (64 : Int32))), .val (.int (p2 % (64 : Int32))), .val (.int (p3 % (64 : Int32))), .val (.double (FP.i2d (p4 % (1000 : Int32)))), .second, .val (.ref b7), .val (.int (1 : Int32)), .val (.ref b7), .unset] [(.ref b7), (.ref b7)])) X9 hx rfl rfl rfl (pc0 := 135) (pc' := 138) (same := true) rfl (hb hby at_135) rfl (decide_eq_true rfl) (by decide) (by decide) ?_
    show Steps p.tables e below (T9.setTop (mkF m 138 #[.val (.int p1), .val (.int p2), .val (.int p3), .val (.int p4), .val (.ref b5), .val (.int (p1 % (64 : Int32))), .val (.int (p2 % (64 : Int32))), .val (.int (p3 % (64 : Int32))), .val (.double (FP.i2d (p4 % (1000 : Int32)))), .second, .val (.ref b7), .val (.int (1 : Int32)), .val (.ref b7), .unset] [])) _
    refine XS.aload X9.here hx rfl (hb hby at_138) rfl rfl ?_
    show Steps p.tables e below (T9.setTop (mkF m 140 #[.val (.int p1), .val (.int p2), .val (.int p3), .val (.int p4), .val (.ref b5), .val (.int (p1 % (64 : Int32))), .val (.int (p2 % (64 : Int32))), .val (.int (p3 % (64 : Int32))), .val (.double (FP.i2d (p4 % (1000 : Int32)))), .second, .val (.ref b7), .val (.int (1 : Int32)), .val (.ref b7), .unset] [(.ref b7)])) _
    refine X9.arraylength hx (by rw [e9]; exact Ar_b7_140.1) (State.isArrayOf_alike hZ.alike Ar_b7_140.2.1) (g := (mkF m 140 #[.val (.int p1), .val (.int p2), .val (.int p3), .val (.int p4), .val (.ref b5), .val (.int (p1 % (64 : Int32))), .val (.int (p2 % (64 : Int32))), .val (.int (p3 % (64 : Int32))), .val (.double (FP.i2d (p4 % (1000 : Int32)))), .second, .val (.ref b7), .val (.int (1 : Int32)), .val (.ref b7), .unset] [(.ref b7)])) rfl rfl (hb hby at_140) _ ?_
    rw [len_of S_b7_140 N_b7_140]
    show Steps p.tables e below (T9.setTop (mkF m 141 #[.val (.int p1), .val (.int p2), .val (.int p3), .val (.int p4), .val (.ref b5), .val (.int (p1 % (64 : Int32))), .val (.int (p2 % (64 : Int32))), .val (.int (p3 % (64 : Int32))), .val (.double (FP.i2d (p4 % (1000 : Int32)))), .second, .val (.ref b7), .val (.int (1 : Int32)), .val (.ref b7), .unset] [(.int (p1 % (64 : Int32)))])) _
    refine XS.ifNo X9.here hx rfl (hb hby at_141) rfl ((if0 _ _).trans (feq hc141).1) ?_
    show Steps p.tables e below (T9.setTop (mkF m 144 #[.val (.int p1), .val (.int p2), .val (.int p3), .val (.int p4), .val (.ref b5), .val (.int (p1 % (64 : Int32))), .val (.int (p2 % (64 : Int32))), .val (.int (p3 % (64 : Int32))), .val (.double (FP.i2d (p4 % (1000 : Int32)))), .second, .val (.ref b7), .val (.int (1 : Int32)), .val (.ref b7), .unset] [])) _
    refine XS.aload X9.here hx rfl (hb hby at_144) rfl rfl ?_
    show Steps p.tables e below (T9.setTop (mkF m 146 #[.val (.int p1), .val (.int p2), .val (.int p3), .val (.int p4), .val (.ref b5), .val (.int (p1 % (64 : Int32))), .val (.int (p2 % (64 : Int32))), .val (.int (p3 % (64 : Int32))), .val (.double (FP.i2d (p4 % (1000 : Int32)))), .second, .val (.ref b7), .val (.int (1 : Int32)), .val (.ref b7), .unset] [(.ref b7)])) _
    refine XS.aload X9.here hx rfl (hb hby at_146) rfl rfl ?_
    show Steps p.tables e below (T9.setTop (mkF m 148 #[.val (.int p1), .val (.int p2), .val (.int p3), .val (.int p4), .val (.ref b5), .val (.int (p1 % (64 : Int32))), .val (.int (p2 % (64 : Int32))), .val (.int (p3 % (64 : Int32))), .val (.double (FP.i2d (p4 % (1000 : Int32)))), .second, .val (.ref b7), .val (.int (1 : Int32)), .val (.ref b7), .unset] [(.ref b7), (.ref b7)])) _
    refine X9.arraylength hx (by rw [e9]; exact Ar_b7_148.1) (State.isArrayOf_alike hZ.alike Ar_b7_148.2.1) (g := (mkF m 148 #[.val (.int p1), .val (.int p2), .val (.int p3), .val (.int p4), .val (.ref b5), .val (.int (p1 % (64 : Int32))), .val (.int (p2 % (64 : Int32))), .val (.int (p3 % (64 : Int32))), .val (.double (FP.i2d (p4 % (1000 : Int32)))), .second, .val (.ref b7), .val (.int (1 : Int32)), .val (.ref b7), .unset] [(.ref b7), (.ref b7)])) rfl rfl (hb hby at_148) _ ?_
    rw [len_of S_b7_148 N_b7_148]
    show Steps p.tables e below (T9.setTop (mkF m 149 #[.val (.int p1), .val (.int p2), .val (.int p3), .val (.int p4), .val (.ref b5), .val (.int (p1 % (64 : Int32))), .val (.int (p2 % (64 : Int32))), .val (.int (p3 % (64 : Int32))), .val (.double (FP.i2d (p4 % (1000 : Int32)))), .second, .val (.ref b7), .val (.int (1 : Int32)), .val (.ref b7), .unset] [(.int (p1 % (64 : Int32))), (.ref b7)])) _
    refine XS.iconst X9.here hx rfl (hb hby at_149) ?_
    show Steps p.tables e below (T9.setTop (mkF m 150 #[.val (.int p1), .val (.int p2), .val (.int p3), .val (.int p4), .val (.ref b5), .val (.int (p1 % (64 : Int32))), .val (.int (p2 % (64 : Int32))), .val (.int (p3 % (64 : Int32))), .val (.double (FP.i2d (p4 % (1000 : Int32)))), .second, .val (.ref b7), .val (.int (1 : Int32)), .val (.ref b7), .unset] [(.int (1 : Int32)), (.int (p1 % (64 : Int32))), (.ref b7)])) _
    refine XS.isub X9.here hx rfl (hb hby at_150) rfl ?_
    show Steps p.tables e below (T9.setTop (mkF m 151 #[.val (.int p1), .val (.int p2), .val (.int p3), .val (.int p4), .val (.ref b5), .val (.int (p1 % (64 : Int32))), .val (.int (p2 % (64 : Int32))), .val (.int (p3 % (64 : Int32))), .val (.double (FP.i2d (p4 % (1000 : Int32)))), .second, .val (.ref b7), .val (.int (1 : Int32)), .val (.ref b7), .unset] [(.int ((p1 % (64 : Int32)) - (1 : Int32))), (.ref b7)])) _
    refine X9.daload hx (j := ((p1 % (64 : Int32)) - (1 : Int32))) (v := (.double (FP.i2d (p4 % (1000 : Int32))))) (by rw [e9]; exact Ar_b7_151.1) (State.isArrayOf_alike hZ.alike Ar_b7_151.2.1) Ar_b7_151.2.2 hin151 hat151 (g := (mkF m 151 #[.val (.int p1), .val (.int p2), .val (.int p3), .val (.int p4), .val (.ref b5), .val (.int (p1 % (64 : Int32))), .val (.int (p2 % (64 : Int32))), .val (.int (p3 % (64 : Int32))), .val (.double (FP.i2d (p4 % (1000 : Int32)))), .second, .val (.ref b7), .val (.int (1 : Int32)), .val (.ref b7), .unset] [(.int ((p1 % (64 : Int32)) - (1 : Int32))), (.ref b7)])) rfl rfl (hb hby at_151) _ ?_
    show Steps p.tables e below (T9.setTop (mkF m 152 #[.val (.int p1), .val (.int p2), .val (.int p3), .val (.int p4), .val (.ref b5), .val (.int (p1 % (64 : Int32))), .val (.int (p2 % (64 : Int32))), .val (.int (p3 % (64 : Int32))), .val (.double (FP.i2d (p4 % (1000 : Int32)))), .second, .val (.ref b7), .val (.int (1 : Int32)), .val (.ref b7), .unset] [(.double (FP.i2d (p4 % (1000 : Int32))))])) _
    refine XS.dload X9.here hx rfl (hb hby at_152) rfl ?_
    show Steps p.tables e below (T9.setTop (mkF m 154 #[.val (.int p1), .val (.int p2), .val (.int p3), .val (.int p4), .val (.ref b5), .val (.int (p1 % (64 : Int32))), .val (.int (p2 % (64 : Int32))), .val (.int (p3 % (64 : Int32))), .val (.double (FP.i2d (p4 % (1000 : Int32)))), .second, .val (.ref b7), .val (.int (1 : Int32)), .val (.ref b7), .unset] [(.double (FP.i2d (p4 % (1000 : Int32)))), (.double (FP.i2d (p4 % (1000 : Int32))))])) _
    refine XS.dcmpS X9.here hx rfl (hb hby at_154) rfl rfl ?_
    show Steps p.tables e below (T9.setTop (mkF m 155 #[.val (.int p1), .val (.int p2), .val (.int p3), .val (.int p4), .val (.ref b5), .val (.int (p1 % (64 : Int32))), .val (.int (p2 % (64 : Int32))), .val (.int (p3 % (64 : Int32))), .val (.double (FP.i2d (p4 % (1000 : Int32)))), .second, .val (.ref b7), .val (.int (1 : Int32)), .val (.ref b7), .unset] [(.int (cmpValue (FP.dcmp (FP.i2d (p4 % (1000 : Int32))) (FP.i2d (p4 % (1000 : Int32)))) .l))])) _
    refine XS.ifNo X9.here hx rfl (hb hby at_155) rfl ((if0 _ _).trans (teq hc155).2) ?_
    show Steps p.tables e below (T9.setTop (mkF m 158 #[.val (.int p1), .val (.int p2), .val (.int p3), .val (.int p4), .val (.ref b5), .val (.int (p1 % (64 : Int32))), .val (.int (p2 % (64 : Int32))), .val (.int (p3 % (64 : Int32))), .val (.double (FP.i2d (p4 % (1000 : Int32)))), .second, .val (.ref b7), .val (.int (1 : Int32)), .val (.ref b7), .unset] [])) _
    refine XS.iconst X9.here hx rfl (hb hby at_158) ?_
    show Steps p.tables e below (T9.setTop (mkF m 159 #[.val (.int p1), .val (.int p2), .val (.int p3), .val (.int p4), .val (.ref b5), .val (.int (p1 % (64 : Int32))), .val (.int (p2 % (64 : Int32))), .val (.int (p3 % (64 : Int32))), .val (.double (FP.i2d (p4 % (1000 : Int32)))), .second, .val (.ref b7), .val (.int (1 : Int32)), .val (.ref b7), .unset] [(.int (1 : Int32))])) _
    refine XS.goto X9.here hx rfl (pc0 := 159) (pc' := 163) rfl (hb hby at_159) (by decide) (by decide) ?_
    show Steps p.tables e below (T9.setTop (mkF m 163 #[.val (.int p1), .val (.int p2), .val (.int p3), .val (.int p4), .val (.ref b5), .val (.int (p1 % (64 : Int32))), .val (.int (p2 % (64 : Int32))), .val (.int (p3 % (64 : Int32))), .val (.double (FP.i2d (p4 % (1000 : Int32)))), .second, .val (.ref b7), .val (.int (1 : Int32)), .val (.ref b7), .unset] [(.int (1 : Int32))])) _
    refine XS.istore X9.here hx rfl (hb hby at_163) rfl (l' := #[.val (.int p1), .val (.int p2), .val (.int p3), .val (.int p4), .val (.ref b5), .val (.int (p1 % (64 : Int32))), .val (.int (p2 % (64 : Int32))), .val (.int (p3 % (64 : Int32))), .val (.double (FP.i2d (p4 % (1000 : Int32)))), .second, .val (.ref b7), .val (.int (1 : Int32)), .val (.ref b7), .unset]) rfl ?_
    show Steps p.tables e below (T9.setTop (mkF m 165 #[.val (.int p1), .val (.int p2), .val (.int p3), .val (.int p4), .val (.ref b5), .val (.int (p1 % (64 : Int32))), .val (.int (p2 % (64 : Int32))), .val (.int (p3 % (64 : Int32))), .val (.double (FP.i2d (p4 % (1000 : Int32)))), .second, .val (.ref b7), .val (.int (1 : Int32)), .val (.ref b7), .unset] [])) _
    refine XS.aload X9.here hx rfl (hb hby at_165) rfl rfl ?_
    show Steps p.tables e below (T9.setTop (mkF m 167 #[.val (.int p1), .val (.int p2), .val (.int p3), .val (.int p4), .val (.ref b5), .val (.int (p1 % (64 : Int32))), .val (.int (p2 % (64 : Int32))), .val (.int (p3 % (64 : Int32))), .val (.double (FP.i2d (p4 % (1000 : Int32)))), .second, .val (.ref b7), .val (.int (1 : Int32)), .val (.ref b7), .unset] [(.ref b5)])) _
    refine XS.iload X9.here hx rfl (hb hby at_167) rfl ?_
    show Steps p.tables e below (T9.setTop (mkF m 169 #[.val (.int p1), .val (.int p2), .val (.int p3), .val (.int p4), .val (.ref b5), .val (.int (p1 % (64 : Int32))), .val (.int (p2 % (64 : Int32))), .val (.int (p3 % (64 : Int32))), .val (.double (FP.i2d (p4 % (1000 : Int32)))), .second, .val (.ref b7), .val (.int (1 : Int32)), .val (.ref b7), .unset] [(.int (p3 % (64 : Int32))), (.ref b5)])) _
    refine st10.trans ?_
    show Steps p.tables e below (T10.setTop (mkF m 172 #[.val (.int p1), .val (.int p2), .val (.int p3), .val (.int p4), .val (.ref b5), .val (.int (p1 % (64 : Int32))), .val (.int (p2 % (64 : Int32))), .val (.int (p3 % (64 : Int32))), .val (.double (FP.i2d (p4 % (1000 : Int32)))), .second, .val (.ref b7), .val (.int (1 : Int32)), .val (.ref b7), .unset] [(.ref b7)])) _
    refine XS.astore X10.here hx rfl (hb hby at_172) rfl rfl (l' := #[.val (.int p1), .val (.int p2), .val (.int p3), .val (.int p4), .val (.ref b5), .val (.int (p1 % (64 : Int32))), .val (.int (p2 % (64 : Int32))), .val (.int (p3 % (64 : Int32))), .val (.double (FP.i2d (p4 % (1000 : Int32)))), .second, .val (.ref b7), .val (.int (1 : Int32)), .val (.ref b7), .val (.ref b7)]) rfl ?_
    show Steps p.tables e below (T10.setTop (mkF m 174 #[.val (.int p1), .val (.int p2), .val (.int p3), .val (.int p4), .val (.ref b5), .val (.int (p1 % (64 : Int32))), .val (.int (p2 % (64 : Int32))), .val (.int (p3 % (64 : Int32))), .val (.double (FP.i2d (p4 % (1000 : Int32)))), .second, .val (.ref b7), .val (.int (1 : Int32)), .val (.ref b7), .val (.ref b7)] [])) _
    refine XS.aload X10.here hx rfl (hb hby at_174) rfl rfl ?_
    show Steps p.tables e below (T10.setTop (mkF m 176 #[.val (.int p1), .val (.int p2), .val (.int p3), .val (.int p4), .val (.ref b5), .val (.int (p1 % (64 : Int32))), .val (.int (p2 % (64 : Int32))), .val (.int (p3 % (64 : Int32))), .val (.double (FP.i2d (p4 % (1000 : Int32)))), .second, .val (.ref b7), .val (.int (1 : Int32)), .val (.ref b7), .val (.ref b7)] [(.ref b7)])) _
    refine XS.ifnonnullYes X10.here hx rfl (pc0 := 176) (pc' := 181) rfl (hb hby at_176) rfl (by decide) (by decide) ?_
    show Steps p.tables e below (T10.setTop (mkF m 181 #[.val (.int p1), .val (.int p2), .val (.int p3), .val (.int p4), .val (.ref b5), .val (.int (p1 % (64 : Int32))), .val (.int (p2 % (64 : Int32))), .val (.int (p3 % (64 : Int32))), .val (.double (FP.i2d (p4 % (1000 : Int32)))), .second, .val (.ref b7), .val (.int (1 : Int32)), .val (.ref b7), .val (.ref b7)] [])) _
    refine XS.iload X10.here hx rfl (hb hby at_181) rfl ?_
    show Steps p.tables e below (T10.setTop (mkF m 183 #[.val (.int p1), .val (.int p2), .val (.int p3), .val (.int p4), .val (.ref b5), .val (.int (p1 % (64 : Int32))), .val (.int (p2 % (64 : Int32))), .val (.int (p3 % (64 : Int32))), .val (.double (FP.i2d (p4 % (1000 : Int32)))), .second, .val (.ref b7), .val (.int (1 : Int32)), .val (.ref b7), .val (.ref b7)] [(.int (1 : Int32))])) _
    refine XS.ifNo X10.here hx rfl (hb hby at_183) rfl ((if0 _ _).trans (feq hc183).1) ?_
    show Steps p.tables e below (T10.setTop (mkF m 186 #[.val (.int p1), .val (.int p2), .val (.int p3), .val (.int p4), .val (.ref b5), .val (.int (p1 % (64 : Int32))), .val (.int (p2 % (64 : Int32))), .val (.int (p3 % (64 : Int32))), .val (.double (FP.i2d (p4 % (1000 : Int32)))), .second, .val (.ref b7), .val (.int (1 : Int32)), .val (.ref b7), .val (.ref b7)] [])) _
    refine XS.aload X10.here hx rfl (hb hby at_186) rfl rfl ?_
    show Steps p.tables e below (T10.setTop (mkF m 188 #[.val (.int p1), .val (.int p2), .val (.int p3), .val (.int p4), .val (.ref b5), .val (.int (p1 % (64 : Int32))), .val (.int (p2 % (64 : Int32))), .val (.int (p3 % (64 : Int32))), .val (.double (FP.i2d (p4 % (1000 : Int32)))), .second, .val (.ref b7), .val (.int (1 : Int32)), .val (.ref b7), .val (.ref b7)] [(.ref b7)])) _
    refine X10.arraylength hx (by rw [e10]; exact Ar_b7_188.1) (State.isArrayOf_alike hZ.alike Ar_b7_188.2.1) (g := (mkF m 188 #[.val (.int p1), .val (.int p2), .val (.int p3), .val (.int p4), .val (.ref b5), .val (.int (p1 % (64 : Int32))), .val (.int (p2 % (64 : Int32))), .val (.int (p3 % (64 : Int32))), .val (.double (FP.i2d (p4 % (1000 : Int32)))), .second, .val (.ref b7), .val (.int (1 : Int32)), .val (.ref b7), .val (.ref b7)] [(.ref b7)])) rfl rfl (hb hby at_188) _ ?_
    rw [len_of S_b7_188 N_b7_188]
    show Steps p.tables e below (T10.setTop (mkF m 189 #[.val (.int p1), .val (.int p2), .val (.int p3), .val (.int p4), .val (.ref b5), .val (.int (p1 % (64 : Int32))), .val (.int (p2 % (64 : Int32))), .val (.int (p3 % (64 : Int32))), .val (.double (FP.i2d (p4 % (1000 : Int32)))), .second, .val (.ref b7), .val (.int (1 : Int32)), .val (.ref b7), .val (.ref b7)] [(.int (p1 % (64 : Int32)))])) _
    refine XS.iload X10.here hx rfl (hb hby at_189) rfl ?_
    show Steps p.tables e below (T10.setTop (mkF m 191 #[.val (.int p1), .val (.int p2), .val (.int p3), .val (.int p4), .val (.ref b5), .val (.int (p1 % (64 : Int32))), .val (.int (p2 % (64 : Int32))), .val (.int (p3 % (64 : Int32))), .val (.double (FP.i2d (p4 % (1000 : Int32)))), .second, .val (.ref b7), .val (.int (1 : Int32)), .val (.ref b7), .val (.ref b7)] [(.int (p3 % (64 : Int32))), (.int (p1 % (64 : Int32)))])) _
    refine XS.icmpNo X10.here hx rfl (hb hby at_191) rfl (flt hc191).1 ?_
    show Steps p.tables e below (T10.setTop (mkF m 194 #[.val (.int p1), .val (.int p2), .val (.int p3), .val (.int p4), .val (.ref b5), .val (.int (p1 % (64 : Int32))), .val (.int (p2 % (64 : Int32))), .val (.int (p3 % (64 : Int32))), .val (.double (FP.i2d (p4 % (1000 : Int32)))), .second, .val (.ref b7), .val (.int (1 : Int32)), .val (.ref b7), .val (.ref b7)] [])) _
    refine XS.iconst X10.here hx rfl (hb hby at_194) ?_
    show Steps p.tables e below (T10.setTop (mkF m 195 #[.val (.int p1), .val (.int p2), .val (.int p3), .val (.int p4), .val (.ref b5), .val (.int (p1 % (64 : Int32))), .val (.int (p2 % (64 : Int32))), .val (.int (p3 % (64 : Int32))), .val (.double (FP.i2d (p4 % (1000 : Int32)))), .second, .val (.ref b7), .val (.int (1 : Int32)), .val (.ref b7), .val (.ref b7)] [(.int (1 : Int32))])) _
    refine XS.goto X10.here hx rfl (pc0 := 195) (pc' := 199) rfl (hb hby at_195) (by decide) (by decide) ?_
    show Steps p.tables e below (T10.setTop (mkF m 199 #[.val (.int p1), .val (.int p2), .val (.int p3), .val (.int p4), .val (.ref b5), .val (.int (p1 % (64 : Int32))), .val (.int (p2 % (64 : Int32))), .val (.int (p3 % (64 : Int32))), .val (.double (FP.i2d (p4 % (1000 : Int32)))), .second, .val (.ref b7), .val (.int (1 : Int32)), .val (.ref b7), .val (.ref b7)] [(.int (1 : Int32))])) _
    refine XS.istore X10.here hx rfl (hb hby at_199) rfl (l' := #[.val (.int p1), .val (.int p2), .val (.int p3), .val (.int p4), .val (.ref b5), .val (.int (p1 % (64 : Int32))), .val (.int (p2 % (64 : Int32))), .val (.int (p3 % (64 : Int32))), .val (.double (FP.i2d (p4 % (1000 : Int32)))), .second, .val (.ref b7), .val (.int (1 : Int32)), .val (.ref b7), .val (.ref b7)]) rfl ?_
    show Steps p.tables e below (T10.setTop (mkF m 201 #[.val (.int p1), .val (.int p2), .val (.int p3), .val (.int p4), .val (.ref b5), .val (.int (p1 % (64 : Int32))), .val (.int (p2 % (64 : Int32))), .val (.int (p3 % (64 : Int32))), .val (.double (FP.i2d (p4 % (1000 : Int32)))), .second, .val (.ref b7), .val (.int (1 : Int32)), .val (.ref b7), .val (.ref b7)] [])) _
    refine XS.iload X10.here hx rfl (hb hby at_201) rfl ?_
    show Steps p.tables e below (T10.setTop (mkF m 203 #[.val (.int p1), .val (.int p2), .val (.int p3), .val (.int p4), .val (.ref b5), .val (.int (p1 % (64 : Int32))), .val (.int (p2 % (64 : Int32))), .val (.int (p3 % (64 : Int32))), .val (.double (FP.i2d (p4 % (1000 : Int32)))), .second, .val (.ref b7), .val (.int (1 : Int32)), .val (.ref b7), .val (.ref b7)] [(.int (p3 % (64 : Int32)))])) _
    refine XS.aload X10.here hx rfl (hb hby at_203) rfl rfl ?_
    show Steps p.tables e below (T10.setTop (mkF m 205 #[.val (.int p1), .val (.int p2), .val (.int p3), .val (.int p4), .val (.ref b5), .val (.int (p1 % (64 : Int32))), .val (.int (p2 % (64 : Int32))), .val (.int (p3 % (64 : Int32))), .val (.double (FP.i2d (p4 % (1000 : Int32)))), .second, .val (.ref b7), .val (.int (1 : Int32)), .val (.ref b7), .val (.ref b7)] [(.ref b7), (.int (p3 % (64 : Int32)))])) _
    refine X10.arraylength hx (by rw [e10]; exact Ar_b7_205.1) (State.isArrayOf_alike hZ.alike Ar_b7_205.2.1) (g := (mkF m 205 #[.val (.int p1), .val (.int p2), .val (.int p3), .val (.int p4), .val (.ref b5), .val (.int (p1 % (64 : Int32))), .val (.int (p2 % (64 : Int32))), .val (.int (p3 % (64 : Int32))), .val (.double (FP.i2d (p4 % (1000 : Int32)))), .second, .val (.ref b7), .val (.int (1 : Int32)), .val (.ref b7), .val (.ref b7)] [(.ref b7), (.int (p3 % (64 : Int32)))])) rfl rfl (hb hby at_205) _ ?_
    rw [len_of S_b7_205 N_b7_205]
    show Steps p.tables e below (T10.setTop (mkF m 206 #[.val (.int p1), .val (.int p2), .val (.int p3), .val (.int p4), .val (.ref b5), .val (.int (p1 % (64 : Int32))), .val (.int (p2 % (64 : Int32))), .val (.int (p3 % (64 : Int32))), .val (.double (FP.i2d (p4 % (1000 : Int32)))), .second, .val (.ref b7), .val (.int (1 : Int32)), .val (.ref b7), .val (.ref b7)] [(.int (p1 % (64 : Int32))), (.int (p3 % (64 : Int32)))])) _
    refine XS.icmpNo X10.here hx rfl (hb hby at_206) rfl (flt hc206).2.2.1 ?_
    show Steps p.tables e below (T10.setTop (mkF m 209 #[.val (.int p1), .val (.int p2), .val (.int p3), .val (.int p4), .val (.ref b5), .val (.int (p1 % (64 : Int32))), .val (.int (p2 % (64 : Int32))), .val (.int (p3 % (64 : Int32))), .val (.double (FP.i2d (p4 % (1000 : Int32)))), .second, .val (.ref b7), .val (.int (1 : Int32)), .val (.ref b7), .val (.ref b7)] [])) _
    refine XS.iload X10.here hx rfl (hb hby at_209) rfl ?_
    show Steps p.tables e below (T10.setTop (mkF m 211 #[.val (.int p1), .val (.int p2), .val (.int p3), .val (.int p4), .val (.ref b5), .val (.int (p1 % (64 : Int32))), .val (.int (p2 % (64 : Int32))), .val (.int (p3 % (64 : Int32))), .val (.double (FP.i2d (p4 % (1000 : Int32)))), .second, .val (.ref b7), .val (.int (1 : Int32)), .val (.ref b7), .val (.ref b7)] [(.int (1 : Int32))])) _
    refine XS.ifNo X10.here hx rfl (hb hby at_211) rfl ((if0 _ _).trans (feq hc211).1) ?_
    show Steps p.tables e below (T10.setTop (mkF m 214 #[.val (.int p1), .val (.int p2), .val (.int p3), .val (.int p4), .val (.ref b5), .val (.int (p1 % (64 : Int32))), .val (.int (p2 % (64 : Int32))), .val (.int (p3 % (64 : Int32))), .val (.double (FP.i2d (p4 % (1000 : Int32)))), .second, .val (.ref b7), .val (.int (1 : Int32)), .val (.ref b7), .val (.ref b7)] [])) _
    refine XS.aload X10.here hx rfl (hb hby at_214) rfl rfl ?_
    show Steps p.tables e below (T10.setTop (mkF m 216 #[.val (.int p1), .val (.int p2), .val (.int p3), .val (.int p4), .val (.ref b5), .val (.int (p1 % (64 : Int32))), .val (.int (p2 % (64 : Int32))), .val (.int (p3 % (64 : Int32))), .val (.double (FP.i2d (p4 % (1000 : Int32)))), .second, .val (.ref b7), .val (.int (1 : Int32)), .val (.ref b7), .val (.ref b7)] [(.ref b7)])) _
    refine XS.aload X10.here hx rfl (hb hby at_216) rfl rfl ?_
    show Steps p.tables e below (T10.setTop (mkF m 218 #[.val (.int p1), .val (.int p2), .val (.int p3), .val (.int p4), .val (.ref b5), .val (.int (p1 % (64 : Int32))), .val (.int (p2 % (64 : Int32))), .val (.int (p3 % (64 : Int32))), .val (.double (FP.i2d (p4 % (1000 : Int32)))), .second, .val (.ref b7), .val (.int (1 : Int32)), .val (.ref b7), .val (.ref b7)] [(.ref b7), (.ref b7)])) _
    refine Jvm.RoadKit.acmp (g := (mkF m 218 #[.val (.int p1), .val (.int p2), .val (.int p3), .val (.int p4), .val (.ref b5), .val (.int (p1 % (64 : Int32))), .val (.int (p2 % (64 : Int32))), .val (.int (p3 % (64 : Int32))), .val (.double (FP.i2d (p4 % (1000 : Int32)))), .second, .val (.ref b7), .val (.int (1 : Int32)), .val (.ref b7), .val (.ref b7)] [(.ref b7), (.ref b7)])) X10 hx rfl rfl rfl (pc0 := 218) (pc' := 221) (same := true) rfl (hb hby at_218) rfl (decide_eq_true rfl) (by decide) (by decide) ?_
    show Steps p.tables e below (T10.setTop (mkF m 221 #[.val (.int p1), .val (.int p2), .val (.int p3), .val (.int p4), .val (.ref b5), .val (.int (p1 % (64 : Int32))), .val (.int (p2 % (64 : Int32))), .val (.int (p3 % (64 : Int32))), .val (.double (FP.i2d (p4 % (1000 : Int32)))), .second, .val (.ref b7), .val (.int (1 : Int32)), .val (.ref b7), .val (.ref b7)] [])) _
    refine XS.iconst X10.here hx rfl (hb hby at_221) ?_
    show Steps p.tables e below (T10.setTop (mkF m 222 #[.val (.int p1), .val (.int p2), .val (.int p3), .val (.int p4), .val (.ref b5), .val (.int (p1 % (64 : Int32))), .val (.int (p2 % (64 : Int32))), .val (.int (p3 % (64 : Int32))), .val (.double (FP.i2d (p4 % (1000 : Int32)))), .second, .val (.ref b7), .val (.int (1 : Int32)), .val (.ref b7), .val (.ref b7)] [(.int (1 : Int32))])) _
    refine XS.goto X10.here hx rfl (pc0 := 222) (pc' := 226) rfl (hb hby at_222) (by decide) (by decide) ?_
    show Steps p.tables e below (T10.setTop (mkF m 226 #[.val (.int p1), .val (.int p2), .val (.int p3), .val (.int p4), .val (.ref b5), .val (.int (p1 % (64 : Int32))), .val (.int (p2 % (64 : Int32))), .val (.int (p3 % (64 : Int32))), .val (.double (FP.i2d (p4 % (1000 : Int32)))), .second, .val (.ref b7), .val (.int (1 : Int32)), .val (.ref b7), .val (.ref b7)] [(.int (1 : Int32))])) _
    refine XS.istore X10.here hx rfl (hb hby at_226) rfl (l' := #[.val (.int p1), .val (.int p2), .val (.int p3), .val (.int p4), .val (.ref b5), .val (.int (p1 % (64 : Int32))), .val (.int (p2 % (64 : Int32))), .val (.int (p3 % (64 : Int32))), .val (.double (FP.i2d (p4 % (1000 : Int32)))), .second, .val (.ref b7), .val (.int (1 : Int32)), .val (.ref b7), .val (.ref b7)]) rfl ?_
    show Steps p.tables e below (T10.setTop (mkF m 228 #[.val (.int p1), .val (.int p2), .val (.int p3), .val (.int p4), .val (.ref b5), .val (.int (p1 % (64 : Int32))), .val (.int (p2 % (64 : Int32))), .val (.int (p3 % (64 : Int32))), .val (.double (FP.i2d (p4 % (1000 : Int32)))), .second, .val (.ref b7), .val (.int (1 : Int32)), .val (.ref b7), .val (.ref b7)] [])) _
    refine XS.iload X10.here hx rfl (hb hby at_228) rfl ?_
    show Steps p.tables e below (T10.setTop (mkF m 230 #[.val (.int p1), .val (.int p2), .val (.int p3), .val (.int p4), .val (.ref b5), .val (.int (p1 % (64 : Int32))), .val (.int (p2 % (64 : Int32))), .val (.int (p3 % (64 : Int32))), .val (.double (FP.i2d (p4 % (1000 : Int32)))), .second, .val (.ref b7), .val (.int (1 : Int32)), .val (.ref b7), .val (.ref b7)] [(.int (1 : Int32))])) _
    exact retN X10 hx (t := .boolean) Bd.returns (by simp) (hb hby at_230) hr
  · show Q0 Z p1 p2 p3 p4 h0 n0 _ T10.heap _
    rw [e10]
    exact ⟨rfl, N10⟩
set_option maxRecDepth 65536 in
set_option maxHeartbeats 40000000 in
theorem rm0_011 (l : Launch) (Z : State) (a0 : Array Value) (hw : ∀ d ∈ tables_1, d.before a0 Z = true) (ws : List Jvm.Cond) (p1 : Int32) (p2 : Int32) (p3 : Int32) (p4 : Int32) (h0 : Heap) (n0 : Nat) (Z0 : n0 ≤ h0.size) (ho39 : ¬ ((0 : Int32) < (p1 % (64 : Int32)))) (ho86 : (0 : Int32) < (p2 % (64 : Int32))) (ho169 : (p2 % (64 : Int32)) < (p3 % (64 : Int32))) (hc56 : ¬ ((0 : Int32) < (p1 % (64 : Int32)))) (hc69 : ¬ ((0 : Int32) < (0 : Int32))) (hc100 : ¬ ((1 : Int32) = (0 : Int32))) (hc108 : ¬ ((p2 % (64 : Int32)) < (p2 % (64 : Int32)))) (hc123 : (0 : Int32) < (p2 % (64 : Int32))) (hc183 : ¬ ((1 : Int32) = (0 : Int32))) (hc191 : ¬ ((p3 % (64 : Int32)) < (p3 % (64 : Int32)))) (hc206 : (p2 % (64 : Int32)) < (p3 % (64 : Int32))) :
    MetFree l x (head1 (Jvm.Cond.code x code maxLocals ret :: ws) room_1) (fun a U => a = #[(.int p1), (.int p2), (.int p3), (.int p4)] ∧ Z.Warmed39 U.vm ∧ U.heap = h0) (fun _ _ _ _ _ => True) (fun _ U o U' => ∃ v L, o = .returned v ∧ Q0 Z p1 p2 p3 p4 h0 n0 v U'.heap L ∧ FrameEnd U o U' L room_1.cells room_1.slots) := by
  refine MetFree.of_bodySF (plainFor_of_name pn_0) hisR ?_
  intro p e s m args below meth c s₁ Bd hml0 hP hK
  obtain ⟨rfl, hZ, hh⟩ := hP
  have hx := Bd.exec
  have hby := Bd.bytes
  have hml : c.maxLocals = 14 := hml0
  have hown : s.vm.findClass "com/example/understory/understory/sim/BufferOfPinLaw" = some m.cls := findClass_of_methodNamed Bd.named
  have hnm := (name_of_methodNamed Bd.named Bd.method).1
  have X0 : Stand p l e room_1 s m #[(.int p1), (.int p2), (.int p3), (.int p4)] below meth c s₁ [] 0 0 := Stand.of_body Bd
  have e0 : s₁.heap = h0 := by rw [← hh, Bd.state]; rfl
  have N0 := Fr.nil n0
  have pre0 : ∀ t, Steps p.tables e below (s₁.setTop (mkF m 0 #[.val (.int p1), .val (.int p2), .val (.int p3), .val (.int p4), .unset, .unset, .unset, .unset, .unset, .unset, .unset, .unset, .unset, .unset] [])) t → Steps p.tables e below (s₁.setTop (entryFrame m #[(.int p1), (.int p2), (.int p3), (.int p4)] maxLocals)) t := fun t k => castTop (ef_0 m p1 p2 p3 p4) k
  obtain ⟨T5, h5, X5, e5, E5, A5, D5, -, st5⟩ := newO X0 hx hZ hown (hw _ (List.mem_of_getElem? (i := 0) rfl)) (hw _ (List.mem_of_getElem? (i := 1) rfl)) (hw _ (List.mem_of_getElem? (i := 2) rfl)) e0 (g := (mkF m 0 #[.val (.int p1), .val (.int p2), .val (.int p3), .val (.int p4), .unset, .unset, .unset, .unset, .unset, .unset, .unset, .unset, .unset, .unset] [])) rfl (hb hby at_0) (by decide) (by decide)
  obtain ⟨b5, g5⟩ : ∃ z, z = h0.size := ⟨_, rfl⟩
  rw [← g5] at A5 D5 st5
  have F_values_b5 : Fld Z h5 b5 "com/example/understory/understory/sim/ColumnEvaluator$Buffer" "values" "[D" .null := D5 (Or.inl (hw _ (List.mem_of_getElem? (i := 11) rfl))) (ty := (.array .double)) (by decide)
  have E_b5 := A5
  have g_b5 : n0 ≤ b5 := Nat.le_trans Z0 (Nat.le_of_eq g5.symm)
  obtain ⟨b6, g6⟩ : ∃ z, z = h5.size := ⟨_, rfl⟩
  have g_b6 : n0 ≤ b6 := Nat.le_trans (Nat.le_trans Z0 E5.1) (Nat.le_of_eq g6.symm)
  have ne_b5_b6 : b5 ≠ b6 := Nat.ne_of_lt (Nat.lt_of_lt_of_le E_b5.lt (Nat.le_of_eq g6.symm))
  obtain ⟨_, _, ⟨T6, L6, k6, n6⟩, -, X6, ⟨Lc6, hQ6, l6, y6, z6⟩, st6⟩ := X5.specialBack hx (y := (⟨"com/example/understory/understory/sim/ColumnEvaluator$Buffer", "<init>", "()V"⟩ : MethodName)) rfl hown (mvT hZ (hw _ (List.mem_of_getElem? (i := 3) rfl))) (mvT hZ (hw _ (List.mem_of_getElem? (i := 4) rfl))) (mvT hZ (hw _ (List.mem_of_getElem? (i := 5) rfl))) (by decide) (backOf (W := 1) (rm1 l Z a0 hw [] b5 .null b6 h5 n0 (Nat.le_trans Z0 E5.1) E_b5 F_values_b5 g_b5 g6) hZ (hw _ (List.mem_of_getElem? (i := 5) rfl)) (hw _ (List.mem_of_getElem? (i := 2) rfl)) (by decide) (by decide)) (g := (mkF m 4 #[.val (.int p1), .val (.int p2), .val (.int p3), .val (.int p4), .unset, .unset, .unset, .unset, .unset, .unset, .unset, .unset, .unset, .unset] [(.ref b5), (.ref b5)])) rfl (by rw [hml]; rfl) (Steps.refl _) (a := b5) (argsL := []) (rest := [(.ref b5)]) (lenOf pd_0_0 rfl) rfl (by show 2 * 0 + _ ≤ _; exact Nat.le_of_eq rfl) (hb hby at_4) (fun _ _ => ⟨rfl, e5, (by decide : 1 + 1 ≤ _), (by decide : 1 + 0 ≤ _)⟩)
  dsimp only [Pt.U, Pt.locs, Pt.cells, Pt.slots] at X6 l6 y6 z6 st6 hQ6
  subst l6 y6 z6
  obtain ⟨rfl, N6q, K6, gE6, gF6, kk6, gV6⟩ := hQ6
  have N6 := Fr.app N0 N6q
  obtain ⟨cq7, kq7, q7a, q7b, q7c⟩ := isOf hZ rfl gE6
  obtain ⟨_, _, ⟨T7, L7, k7, n7⟩, -, X7, ⟨Lc7, hQ7, l7, y7, z7⟩, st7⟩ := X6.virtualBack hx (y := (⟨"com/example/understory/understory/sim/ColumnEvaluator$Buffer", "of", "(I)[D"⟩ : MethodName)) (z := (⟨"com/example/understory/understory/sim/ColumnEvaluator$Buffer", "of", "(I)[D"⟩ : MethodName)) hown (mvT hZ (hw _ (List.mem_of_getElem? (i := 12) rfl))) (mvT hZ (hw _ (List.mem_of_getElem? (i := 13) rfl))) (notFace_of_selects (args := #[]) (mvT hZ (hw _ (List.mem_of_getElem? (i := 15) rfl)))) (mvT hZ (hw _ (List.mem_of_getElem? (i := 15) rfl))) (mvT hZ (hw _ (List.mem_of_getElem? (i := 14) rfl))) (by decide) (backOf (W := 0) (rm3T l Z a0 hw [] b5 (p1 % (64 : Int32)) b6 _ (0 : Int32) _ _ T6.heap n0 (Nat.le_trans (Nat.le_trans Z0 E5.1) K6.1) gF6 gV6 ho39) hZ (hw _ (List.mem_of_getElem? (i := 16) rfl)) (hw _ (List.mem_of_getElem? (i := 2) rfl)) (by decide) (by decide)) q7a q7c (g := (mkF m 39 #[.val (.int p1), .val (.int p2), .val (.int p3), .val (.int p4), .val (.ref b5), .val (.int (p1 % (64 : Int32))), .val (.int (p2 % (64 : Int32))), .val (.int (p3 % (64 : Int32))), .val (.double (FP.i2d (p4 % (1000 : Int32)))), .second, .unset, .unset, .unset, .unset] [(.int (p1 % (64 : Int32))), (.ref b5)])) rfl (by rw [hml]; rfl) (Steps.refl _) (argsL := [(.int (p1 % (64 : Int32)))]) (rest := []) (lenOf pd_0_1 rfl) rfl (by show 2 * 0 + _ ≤ _; exact Nat.le_of_eq rfl) (hb hby at_39) (fun _ _ => ⟨rfl, rfl, (by decide : 2 + 0 ≤ _), (by decide : 1 + 0 ≤ _)⟩)
  dsimp only [Pt.U, Pt.locs, Pt.cells, Pt.slots] at X7 l7 y7 z7 st7 hQ7
  subst l7 y7 z7
  obtain ⟨rfl, N7q, e7⟩ := hQ7
  have N7 := Fr.app N6 N7q
  obtain ⟨cl_b6_53, Ar_b6_53, -, S_b6_53, N_b6_53, -, -⟩ := id (gV6)
  obtain ⟨cl_b6_68, Ar_b6_68, -, S_b6_68, N_b6_68, -, -⟩ := id (gV6)
  obtain ⟨cq8, kq8, q8a, q8b, q8c⟩ := isOf hZ e7 gE6
  obtain ⟨b8, g8⟩ : ∃ z, z = T6.heap.size := ⟨_, rfl⟩
  have g_b8 : n0 ≤ b8 := Nat.le_trans (Nat.le_trans (Nat.le_trans Z0 E5.1) K6.1) (Nat.le_of_eq g8.symm)
  have ne_b5_b8 : b5 ≠ b8 := Nat.ne_of_lt (Nat.lt_of_lt_of_le gE6.lt (Nat.le_of_eq g8.symm))
  have ne_b6_b8 : b6 ≠ b8 := Nat.ne_of_lt (Nat.lt_of_lt_of_le gV6.lt (Nat.le_of_eq g8.symm))
  obtain ⟨_, _, ⟨T8, L8, k8, n8⟩, -, X8, ⟨Lc8, hQ8, l8, y8, z8⟩, st8⟩ := X7.virtualBack hx (y := (⟨"com/example/understory/understory/sim/ColumnEvaluator$Buffer", "of", "(I)[D"⟩ : MethodName)) (z := (⟨"com/example/understory/understory/sim/ColumnEvaluator$Buffer", "of", "(I)[D"⟩ : MethodName)) hown (mvT hZ (hw _ (List.mem_of_getElem? (i := 12) rfl))) (mvT hZ (hw _ (List.mem_of_getElem? (i := 13) rfl))) (notFace_of_selects (args := #[]) (mvT hZ (hw _ (List.mem_of_getElem? (i := 15) rfl)))) (mvT hZ (hw _ (List.mem_of_getElem? (i := 15) rfl))) (mvT hZ (hw _ (List.mem_of_getElem? (i := 14) rfl))) (by decide) (backOf (W := 0) (rm3F l Z a0 hw [] b5 (p2 % (64 : Int32)) b6 _ (0 : Int32) _ _ b8 T6.heap n0 (Nat.le_trans (Nat.le_trans Z0 E5.1) K6.1) gF6 gV6 gE6 g_b5 ho86 g8 (own_mod _)) hZ (hw _ (List.mem_of_getElem? (i := 16) rfl)) (hw _ (List.mem_of_getElem? (i := 2) rfl)) (by decide) (by decide)) q8a q8c (g := (mkF m 86 #[.val (.int p1), .val (.int p2), .val (.int p3), .val (.int p4), .val (.ref b5), .val (.int (p1 % (64 : Int32))), .val (.int (p2 % (64 : Int32))), .val (.int (p3 % (64 : Int32))), .val (.double (FP.i2d (p4 % (1000 : Int32)))), .second, .val (.ref b6), .val (.int (1 : Int32)), .unset, .unset] [(.int (p2 % (64 : Int32))), (.ref b5)])) rfl (by rw [hml]; rfl) (Steps.refl _) (argsL := [(.int (p2 % (64 : Int32)))]) (rest := []) (lenOf pd_0_1 rfl) rfl (by show 2 * 0 + _ ≤ _; exact Nat.le_of_eq rfl) (hb hby at_86) (fun _ _ => ⟨rfl, e7, (by decide : 2 + 1 ≤ _), (by decide : 1 + 63 ≤ _)⟩)
  dsimp only [Pt.U, Pt.locs, Pt.cells, Pt.slots] at X8 l8 y8 z8 st8 hQ8
  subst l8 y8 z8
  obtain ⟨rfl, N8q, K8, gE8, gF8, kk8, gV8⟩ := hQ8
  have N8 := Fr.app N7 N8q
  obtain ⟨cl_b8_105, Ar_b8_105, -, S_b8_105, N_b8_105, -, -⟩ := id (gV8)
  obtain ⟨cl_b6_122, Ar_b6_122, -, S_b6_122, N_b6_122, -, -⟩ := id ((gV6.keep K8 (fun q => (Ne.symm ne_b5_b6) (List.mem_singleton.mp q))))
  obtain ⟨cq9, kq9, q9a, q9b, q9c⟩ := isOf hZ rfl gE8
  obtain ⟨b9, g9⟩ : ∃ z, z = T8.heap.size := ⟨_, rfl⟩
  have g_b9 : n0 ≤ b9 := Nat.le_trans (Nat.le_trans (Nat.le_trans (Nat.le_trans Z0 E5.1) K6.1) K8.1) (Nat.le_of_eq g9.symm)
  have ne_b5_b9 : b5 ≠ b9 := Nat.ne_of_lt (Nat.lt_of_lt_of_le gE8.lt (Nat.le_of_eq g9.symm))
  have ne_b6_b9 : b6 ≠ b9 := Nat.ne_of_lt (Nat.lt_of_lt_of_le (gV6.keep K8 (fun q => (Ne.symm ne_b5_b6) (List.mem_singleton.mp q))).lt (Nat.le_of_eq g9.symm))
  have ne_b8_b9 : b8 ≠ b9 := Nat.ne_of_lt (Nat.lt_of_lt_of_le gV8.lt (Nat.le_of_eq g9.symm))
  obtain ⟨_, _, ⟨T9, L9, k9, n9⟩, -, X9, ⟨Lc9, hQ9, l9, y9, z9⟩, st9⟩ := X8.virtualBack hx (y := (⟨"com/example/understory/understory/sim/ColumnEvaluator$Buffer", "of", "(I)[D"⟩ : MethodName)) (z := (⟨"com/example/understory/understory/sim/ColumnEvaluator$Buffer", "of", "(I)[D"⟩ : MethodName)) hown (mvT hZ (hw _ (List.mem_of_getElem? (i := 12) rfl))) (mvT hZ (hw _ (List.mem_of_getElem? (i := 13) rfl))) (notFace_of_selects (args := #[]) (mvT hZ (hw _ (List.mem_of_getElem? (i := 15) rfl)))) (mvT hZ (hw _ (List.mem_of_getElem? (i := 15) rfl))) (mvT hZ (hw _ (List.mem_of_getElem? (i := 14) rfl))) (by decide) (backOf (W := 0) (rm3F l Z a0 hw [] b5 (p3 % (64 : Int32)) b8 _ (p2 % (64 : Int32)) _ _ b9 T8.heap n0 (Nat.le_trans (Nat.le_trans (Nat.le_trans Z0 E5.1) K6.1) K8.1) gF8 gV8 gE8 g_b5 ho169 g9 (own_mod _)) hZ (hw _ (List.mem_of_getElem? (i := 16) rfl)) (hw _ (List.mem_of_getElem? (i := 2) rfl)) (by decide) (by decide)) q9a q9c (g := (mkF m 169 #[.val (.int p1), .val (.int p2), .val (.int p3), .val (.int p4), .val (.ref b5), .val (.int (p1 % (64 : Int32))), .val (.int (p2 % (64 : Int32))), .val (.int (p3 % (64 : Int32))), .val (.double (FP.i2d (p4 % (1000 : Int32)))), .second, .val (.ref b6), .val (.int (1 : Int32)), .val (.ref b8), .unset] [(.int (p3 % (64 : Int32))), (.ref b5)])) rfl (by rw [hml]; rfl) (Steps.refl _) (argsL := [(.int (p3 % (64 : Int32)))]) (rest := []) (lenOf pd_0_1 rfl) rfl (by show 2 * 0 + _ ≤ _; exact Nat.le_of_eq rfl) (hb hby at_169) (fun _ _ => ⟨rfl, rfl, (by decide : 3 + 1 ≤ _), (by decide : 64 + 63 ≤ _)⟩)
  dsimp only [Pt.U, Pt.locs, Pt.cells, Pt.slots] at X9 l9 y9 z9 st9 hQ9
  subst l9 y9 z9
  obtain ⟨rfl, N9q, K9, gE9, gF9, kk9, gV9⟩ := hQ9
  have N9 := Fr.app N8 N9q
  obtain ⟨cl_b9_188, Ar_b9_188, -, S_b9_188, N_b9_188, -, -⟩ := id (gV9)
  obtain ⟨cl_b8_205, Ar_b8_205, -, S_b8_205, N_b8_205, -, -⟩ := id ((gV8.keep K9 (fun q => (Ne.symm ne_b5_b8) (List.mem_singleton.mp q))))
  obtain ⟨fs, hr, hrun, hended, hW, hsame⟩ := X9.leave (v := some (.int (1 : Int32))) (fun h => by rw [Bd.returns] at h; cases h)
  refine ⟨_, _, pre0 _ ?_, hrun, hended, _, _, rfl, ?_, ⟨_, rfl⟩, hW, hsame.mono (by decide) (by decide)⟩
  · show Steps p.tables e below (s₁.setTop (mkF m 0 #[.val (.int p1), .val (.int p2), .val (.int p3), .val (.int p4), .unset, .unset, .unset, .unset, .unset, .unset, .unset, .unset, .unset, .unset] [])) _
    refine st5 _ ?_
    show Steps p.tables e below (T5.setTop (mkF m 3 #[.val (.int p1), .val (.int p2), .val (.int p3), .val (.int p4), .unset, .unset, .unset, .unset, .unset, .unset, .unset, .unset, .unset, .unset] [(.ref b5)])) _
    refine XS.dup X5.here hx rfl (hb hby at_3) rfl rfl ?_
    show Steps p.tables e below (T5.setTop (mkF m 4 #[.val (.int p1), .val (.int p2), .val (.int p3), .val (.int p4), .unset, .unset, .unset, .unset, .unset, .unset, .unset, .unset, .unset, .unset] [(.ref b5), (.ref b5)])) _
    refine st6.trans ?_
    show Steps p.tables e below (T6.setTop (mkF m 7 #[.val (.int p1), .val (.int p2), .val (.int p3), .val (.int p4), .unset, .unset, .unset, .unset, .unset, .unset, .unset, .unset, .unset, .unset] [(.ref b5)])) _
    refine XS.astore X6.here hx rfl (hb hby at_7) rfl rfl (l' := #[.val (.int p1), .val (.int p2), .val (.int p3), .val (.int p4), .val (.ref b5), .unset, .unset, .unset, .unset, .unset, .unset, .unset, .unset, .unset]) rfl ?_
    show Steps p.tables e below (T6.setTop (mkF m 9 #[.val (.int p1), .val (.int p2), .val (.int p3), .val (.int p4), .val (.ref b5), .unset, .unset, .unset, .unset, .unset, .unset, .unset, .unset, .unset] [])) _
    refine XS.iloadN X6.here hx rfl (hb hby at_9) rfl ?_
    show Steps p.tables e below (T6.setTop (mkF m 10 #[.val (.int p1), .val (.int p2), .val (.int p3), .val (.int p4), .val (.ref b5), .unset, .unset, .unset, .unset, .unset, .unset, .unset, .unset, .unset] [(.int p1)])) _
    refine XS.bipush X6.here hx rfl (hb hby at_10) ?_
    show Steps p.tables e below (T6.setTop (mkF m 12 #[.val (.int p1), .val (.int p2), .val (.int p3), .val (.int p4), .val (.ref b5), .unset, .unset, .unset, .unset, .unset, .unset, .unset, .unset, .unset] [(.int (64 : Int32)), (.int p1)])) _
    refine iremM X6 hx rfl (hb hby at_12) rfl (by decide) ?_
    show Steps p.tables e below (T6.setTop (mkF m 13 #[.val (.int p1), .val (.int p2), .val (.int p3), .val (.int p4), .val (.ref b5), .unset, .unset, .unset, .unset, .unset, .unset, .unset, .unset, .unset] [(.int (p1 % (64 : Int32)))])) _
    refine XS.istore X6.here hx rfl (hb hby at_13) rfl (l' := #[.val (.int p1), .val (.int p2), .val (.int p3), .val (.int p4), .val (.ref b5), .val (.int (p1 % (64 : Int32))), .unset, .unset, .unset, .unset, .unset, .unset, .unset, .unset]) rfl ?_
    show Steps p.tables e below (T6.setTop (mkF m 15 #[.val (.int p1), .val (.int p2), .val (.int p3), .val (.int p4), .val (.ref b5), .val (.int (p1 % (64 : Int32))), .unset, .unset, .unset, .unset, .unset, .unset, .unset, .unset] [])) _
    refine XS.iloadN X6.here hx rfl (hb hby at_15) rfl ?_
    show Steps p.tables e below (T6.setTop (mkF m 16 #[.val (.int p1), .val (.int p2), .val (.int p3), .val (.int p4), .val (.ref b5), .val (.int (p1 % (64 : Int32))), .unset, .unset, .unset, .unset, .unset, .unset, .unset, .unset] [(.int p2)])) _
    refine XS.bipush X6.here hx rfl (hb hby at_16) ?_
    show Steps p.tables e below (T6.setTop (mkF m 18 #[.val (.int p1), .val (.int p2), .val (.int p3), .val (.int p4), .val (.ref b5), .val (.int (p1 % (64 : Int32))), .unset, .unset, .unset, .unset, .unset, .unset, .unset, .unset] [(.int (64 : Int32)), (.int p2)])) _
    refine iremM X6 hx rfl (hb hby at_18) rfl (by decide) ?_
    show Steps p.tables e below (T6.setTop (mkF m 19 #[.val (.int p1), .val (.int p2), .val (.int p3), .val (.int p4), .val (.ref b5), .val (.int (p1 % (64 : Int32))), .unset, .unset, .unset, .unset, .unset, .unset, .unset, .unset] [(.int (p2 % (64 : Int32)))])) _
    refine XS.istore X6.here hx rfl (hb hby at_19) rfl (l' := #[.val (.int p1), .val (.int p2), .val (.int p3), .val (.int p4), .val (.ref b5), .val (.int (p1 % (64 : Int32))), .val (.int (p2 % (64 : Int32))), .unset, .unset, .unset, .unset, .unset, .unset, .unset]) rfl ?_
    show Steps p.tables e below (T6.setTop (mkF m 21 #[.val (.int p1), .val (.int p2), .val (.int p3), .val (.int p4), .val (.ref b5), .val (.int (p1 % (64 : Int32))), .val (.int (p2 % (64 : Int32))), .unset, .unset, .unset, .unset, .unset, .unset, .unset] [])) _
    refine XS.iloadN X6.here hx rfl (hb hby at_21) rfl ?_
    show Steps p.tables e below (T6.setTop (mkF m 22 #[.val (.int p1), .val (.int p2), .val (.int p3), .val (.int p4), .val (.ref b5), .val (.int (p1 % (64 : Int32))), .val (.int (p2 % (64 : Int32))), .unset, .unset, .unset, .unset, .unset, .unset, .unset] [(.int p3)])) _
    refine XS.bipush X6.here hx rfl (hb hby at_22) ?_
    show Steps p.tables e below (T6.setTop (mkF m 24 #[.val (.int p1), .val (.int p2), .val (.int p3), .val (.int p4), .val (.ref b5), .val (.int (p1 % (64 : Int32))), .val (.int (p2 % (64 : Int32))), .unset, .unset, .unset, .unset, .unset, .unset, .unset] [(.int (64 : Int32)), (.int p3)])) _
    refine iremM X6 hx rfl (hb hby at_24) rfl (by decide) ?_
    show Steps p.tables e below (T6.setTop (mkF m 25 #[.val (.int p1), .val (.int p2), .val (.int p3), .val (.int p4), .val (.ref b5), .val (.int (p1 % (64 : Int32))), .val (.int (p2 % (64 : Int32))), .unset, .unset, .unset, .unset, .unset, .unset, .unset] [(.int (p3 % (64 : Int32)))])) _
    refine XS.istore X6.here hx rfl (hb hby at_25) rfl (l' := #[.val (.int p1), .val (.int p2), .val (.int p3), .val (.int p4), .val (.ref b5), .val (.int (p1 % (64 : Int32))), .val (.int (p2 % (64 : Int32))), .val (.int (p3 % (64 : Int32))), .unset, .unset, .unset, .unset, .unset, .unset]) rfl ?_
    show Steps p.tables e below (T6.setTop (mkF m 27 #[.val (.int p1), .val (.int p2), .val (.int p3), .val (.int p4), .val (.ref b5), .val (.int (p1 % (64 : Int32))), .val (.int (p2 % (64 : Int32))), .val (.int (p3 % (64 : Int32))), .unset, .unset, .unset, .unset, .unset, .unset] [])) _
    refine XS.iloadN X6.here hx rfl (hb hby at_27) rfl ?_
    show Steps p.tables e below (T6.setTop (mkF m 28 #[.val (.int p1), .val (.int p2), .val (.int p3), .val (.int p4), .val (.ref b5), .val (.int (p1 % (64 : Int32))), .val (.int (p2 % (64 : Int32))), .val (.int (p3 % (64 : Int32))), .unset, .unset, .unset, .unset, .unset, .unset] [(.int p4)])) _
    refine XS.sipush X6.here hx rfl (hb hby at_28) ?_
    show Steps p.tables e below (T6.setTop (mkF m 31 #[.val (.int p1), .val (.int p2), .val (.int p3), .val (.int p4), .val (.ref b5), .val (.int (p1 % (64 : Int32))), .val (.int (p2 % (64 : Int32))), .val (.int (p3 % (64 : Int32))), .unset, .unset, .unset, .unset, .unset, .unset] [(.int (1000 : Int32)), (.int p4)])) _
    refine iremM X6 hx rfl (hb hby at_31) rfl (by decide) ?_
    show Steps p.tables e below (T6.setTop (mkF m 32 #[.val (.int p1), .val (.int p2), .val (.int p3), .val (.int p4), .val (.ref b5), .val (.int (p1 % (64 : Int32))), .val (.int (p2 % (64 : Int32))), .val (.int (p3 % (64 : Int32))), .unset, .unset, .unset, .unset, .unset, .unset] [(.int (p4 % (1000 : Int32)))])) _
    refine XS.i2dS X6.here hx rfl (hb hby at_32) rfl rfl ?_
    show Steps p.tables e below (T6.setTop (mkF m 33 #[.val (.int p1), .val (.int p2), .val (.int p3), .val (.int p4), .val (.ref b5), .val (.int (p1 % (64 : Int32))), .val (.int (p2 % (64 : Int32))), .val (.int (p3 % (64 : Int32))), .unset, .unset, .unset, .unset, .unset, .unset] [(.double (FP.i2d (p4 % (1000 : Int32))))])) _
    refine XS.dstore X6.here hx rfl (hb hby at_33) rfl (l' := #[.val (.int p1), .val (.int p2), .val (.int p3), .val (.int p4), .val (.ref b5), .val (.int (p1 % (64 : Int32))), .val (.int (p2 % (64 : Int32))), .val (.int (p3 % (64 : Int32))), .val (.double (FP.i2d (p4 % (1000 : Int32)))), .second, .unset, .unset, .unset, .unset]) rfl ?_
    show Steps p.tables e below (T6.setTop (mkF m 35 #[.val (.int p1), .val (.int p2), .val (.int p3), .val (.int p4), .val (.ref b5), .val (.int (p1 % (64 : Int32))), .val (.int (p2 % (64 : Int32))), .val (.int (p3 % (64 : Int32))), .val (.double (FP.i2d (p4 % (1000 : Int32)))), .second, .unset, .unset, .unset, .unset] [])) _
    refine XS.aload X6.here hx rfl (hb hby at_35) rfl rfl ?_
    show Steps p.tables e below (T6.setTop (mkF m 37 #[.val (.int p1), .val (.int p2), .val (.int p3), .val (.int p4), .val (.ref b5), .val (.int (p1 % (64 : Int32))), .val (.int (p2 % (64 : Int32))), .val (.int (p3 % (64 : Int32))), .val (.double (FP.i2d (p4 % (1000 : Int32)))), .second, .unset, .unset, .unset, .unset] [(.ref b5)])) _
    refine XS.iload X6.here hx rfl (hb hby at_37) rfl ?_
    show Steps p.tables e below (T6.setTop (mkF m 39 #[.val (.int p1), .val (.int p2), .val (.int p3), .val (.int p4), .val (.ref b5), .val (.int (p1 % (64 : Int32))), .val (.int (p2 % (64 : Int32))), .val (.int (p3 % (64 : Int32))), .val (.double (FP.i2d (p4 % (1000 : Int32)))), .second, .unset, .unset, .unset, .unset] [(.int (p1 % (64 : Int32))), (.ref b5)])) _
    refine st7.trans ?_
    show Steps p.tables e below (T7.setTop (mkF m 42 #[.val (.int p1), .val (.int p2), .val (.int p3), .val (.int p4), .val (.ref b5), .val (.int (p1 % (64 : Int32))), .val (.int (p2 % (64 : Int32))), .val (.int (p3 % (64 : Int32))), .val (.double (FP.i2d (p4 % (1000 : Int32)))), .second, .unset, .unset, .unset, .unset] [(.ref b6)])) _
    refine XS.astore X7.here hx rfl (hb hby at_42) rfl rfl (l' := #[.val (.int p1), .val (.int p2), .val (.int p3), .val (.int p4), .val (.ref b5), .val (.int (p1 % (64 : Int32))), .val (.int (p2 % (64 : Int32))), .val (.int (p3 % (64 : Int32))), .val (.double (FP.i2d (p4 % (1000 : Int32)))), .second, .val (.ref b6), .unset, .unset, .unset]) rfl ?_
    show Steps p.tables e below (T7.setTop (mkF m 44 #[.val (.int p1), .val (.int p2), .val (.int p3), .val (.int p4), .val (.ref b5), .val (.int (p1 % (64 : Int32))), .val (.int (p2 % (64 : Int32))), .val (.int (p3 % (64 : Int32))), .val (.double (FP.i2d (p4 % (1000 : Int32)))), .second, .val (.ref b6), .unset, .unset, .unset] [])) _
    refine XS.aload X7.here hx rfl (hb hby at_44) rfl rfl ?_
    show Steps p.tables e below (T7.setTop (mkF m 46 #[.val (.int p1), .val (.int p2), .val (.int p3), .val (.int p4), .val (.ref b5), .val (.int (p1 % (64 : Int32))), .val (.int (p2 % (64 : Int32))), .val (.int (p3 % (64 : Int32))), .val (.double (FP.i2d (p4 % (1000 : Int32)))), .second, .val (.ref b6), .unset, .unset, .unset] [(.ref b6)])) _
    refine XS.ifnonnullYes X7.here hx rfl (pc0 := 46) (pc' := 51) rfl (hb hby at_46) rfl (by decide) (by decide) ?_
    show Steps p.tables e below (T7.setTop (mkF m 51 #[.val (.int p1), .val (.int p2), .val (.int p3), .val (.int p4), .val (.ref b5), .val (.int (p1 % (64 : Int32))), .val (.int (p2 % (64 : Int32))), .val (.int (p3 % (64 : Int32))), .val (.double (FP.i2d (p4 % (1000 : Int32)))), .second, .val (.ref b6), .unset, .unset, .unset] [])) _
    refine XS.aload X7.here hx rfl (hb hby at_51) rfl rfl ?_
    show Steps p.tables e below (T7.setTop (mkF m 53 #[.val (.int p1), .val (.int p2), .val (.int p3), .val (.int p4), .val (.ref b5), .val (.int (p1 % (64 : Int32))), .val (.int (p2 % (64 : Int32))), .val (.int (p3 % (64 : Int32))), .val (.double (FP.i2d (p4 % (1000 : Int32)))), .second, .val (.ref b6), .unset, .unset, .unset] [(.ref b6)])) _
    refine X7.arraylength hx (by rw [e7]; exact Ar_b6_53.1) (State.isArrayOf_alike hZ.alike Ar_b6_53.2.1) (g := (mkF m 53 #[.val (.int p1), .val (.int p2), .val (.int p3), .val (.int p4), .val (.ref b5), .val (.int (p1 % (64 : Int32))), .val (.int (p2 % (64 : Int32))), .val (.int (p3 % (64 : Int32))), .val (.double (FP.i2d (p4 % (1000 : Int32)))), .second, .val (.ref b6), .unset, .unset, .unset] [(.ref b6)])) rfl rfl (hb hby at_53) _ ?_
    rw [len_of S_b6_53 N_b6_53]
    show Steps p.tables e below (T7.setTop (mkF m 54 #[.val (.int p1), .val (.int p2), .val (.int p3), .val (.int p4), .val (.ref b5), .val (.int (p1 % (64 : Int32))), .val (.int (p2 % (64 : Int32))), .val (.int (p3 % (64 : Int32))), .val (.double (FP.i2d (p4 % (1000 : Int32)))), .second, .val (.ref b6), .unset, .unset, .unset] [(.int (0 : Int32))])) _
    refine XS.iload X7.here hx rfl (hb hby at_54) rfl ?_
    show Steps p.tables e below (T7.setTop (mkF m 56 #[.val (.int p1), .val (.int p2), .val (.int p3), .val (.int p4), .val (.ref b5), .val (.int (p1 % (64 : Int32))), .val (.int (p2 % (64 : Int32))), .val (.int (p3 % (64 : Int32))), .val (.double (FP.i2d (p4 % (1000 : Int32)))), .second, .val (.ref b6), .unset, .unset, .unset] [(.int (p1 % (64 : Int32))), (.int (0 : Int32))])) _
    refine XS.icmpNo X7.here hx rfl (hb hby at_56) rfl (flt hc56).1 ?_
    show Steps p.tables e below (T7.setTop (mkF m 59 #[.val (.int p1), .val (.int p2), .val (.int p3), .val (.int p4), .val (.ref b5), .val (.int (p1 % (64 : Int32))), .val (.int (p2 % (64 : Int32))), .val (.int (p3 % (64 : Int32))), .val (.double (FP.i2d (p4 % (1000 : Int32)))), .second, .val (.ref b6), .unset, .unset, .unset] [])) _
    refine XS.iconst X7.here hx rfl (hb hby at_59) ?_
    show Steps p.tables e below (T7.setTop (mkF m 60 #[.val (.int p1), .val (.int p2), .val (.int p3), .val (.int p4), .val (.ref b5), .val (.int (p1 % (64 : Int32))), .val (.int (p2 % (64 : Int32))), .val (.int (p3 % (64 : Int32))), .val (.double (FP.i2d (p4 % (1000 : Int32)))), .second, .val (.ref b6), .unset, .unset, .unset] [(.int (1 : Int32))])) _
    refine XS.goto X7.here hx rfl (pc0 := 60) (pc' := 64) rfl (hb hby at_60) (by decide) (by decide) ?_
    show Steps p.tables e below (T7.setTop (mkF m 64 #[.val (.int p1), .val (.int p2), .val (.int p3), .val (.int p4), .val (.ref b5), .val (.int (p1 % (64 : Int32))), .val (.int (p2 % (64 : Int32))), .val (.int (p3 % (64 : Int32))), .val (.double (FP.i2d (p4 % (1000 : Int32)))), .second, .val (.ref b6), .unset, .unset, .unset] [(.int (1 : Int32))])) _
    refine XS.istore X7.here hx rfl (hb hby at_64) rfl (l' := #[.val (.int p1), .val (.int p2), .val (.int p3), .val (.int p4), .val (.ref b5), .val (.int (p1 % (64 : Int32))), .val (.int (p2 % (64 : Int32))), .val (.int (p3 % (64 : Int32))), .val (.double (FP.i2d (p4 % (1000 : Int32)))), .second, .val (.ref b6), .val (.int (1 : Int32)), .unset, .unset]) rfl ?_
    show Steps p.tables e below (T7.setTop (mkF m 66 #[.val (.int p1), .val (.int p2), .val (.int p3), .val (.int p4), .val (.ref b5), .val (.int (p1 % (64 : Int32))), .val (.int (p2 % (64 : Int32))), .val (.int (p3 % (64 : Int32))), .val (.double (FP.i2d (p4 % (1000 : Int32)))), .second, .val (.ref b6), .val (.int (1 : Int32)), .unset, .unset] [])) _
    refine XS.aload X7.here hx rfl (hb hby at_66) rfl rfl ?_
    show Steps p.tables e below (T7.setTop (mkF m 68 #[.val (.int p1), .val (.int p2), .val (.int p3), .val (.int p4), .val (.ref b5), .val (.int (p1 % (64 : Int32))), .val (.int (p2 % (64 : Int32))), .val (.int (p3 % (64 : Int32))), .val (.double (FP.i2d (p4 % (1000 : Int32)))), .second, .val (.ref b6), .val (.int (1 : Int32)), .unset, .unset] [(.ref b6)])) _
    refine X7.arraylength hx (by rw [e7]; exact Ar_b6_68.1) (State.isArrayOf_alike hZ.alike Ar_b6_68.2.1) (g := (mkF m 68 #[.val (.int p1), .val (.int p2), .val (.int p3), .val (.int p4), .val (.ref b5), .val (.int (p1 % (64 : Int32))), .val (.int (p2 % (64 : Int32))), .val (.int (p3 % (64 : Int32))), .val (.double (FP.i2d (p4 % (1000 : Int32)))), .second, .val (.ref b6), .val (.int (1 : Int32)), .unset, .unset] [(.ref b6)])) rfl rfl (hb hby at_68) _ ?_
    rw [len_of S_b6_68 N_b6_68]
    show Steps p.tables e below (T7.setTop (mkF m 69 #[.val (.int p1), .val (.int p2), .val (.int p3), .val (.int p4), .val (.ref b5), .val (.int (p1 % (64 : Int32))), .val (.int (p2 % (64 : Int32))), .val (.int (p3 % (64 : Int32))), .val (.double (FP.i2d (p4 % (1000 : Int32)))), .second, .val (.ref b6), .val (.int (1 : Int32)), .unset, .unset] [(.int (0 : Int32))])) _
    refine XS.ifYes X7.here hx rfl (pc0 := 69) (pc' := 82) rfl (hb hby at_69) rfl ((if0 _ _).trans (flt hc69).2.2.2) (by decide) (by decide) ?_
    show Steps p.tables e below (T7.setTop (mkF m 82 #[.val (.int p1), .val (.int p2), .val (.int p3), .val (.int p4), .val (.ref b5), .val (.int (p1 % (64 : Int32))), .val (.int (p2 % (64 : Int32))), .val (.int (p3 % (64 : Int32))), .val (.double (FP.i2d (p4 % (1000 : Int32)))), .second, .val (.ref b6), .val (.int (1 : Int32)), .unset, .unset] [])) _
    refine XS.aload X7.here hx rfl (hb hby at_82) rfl rfl ?_
    show Steps p.tables e below (T7.setTop (mkF m 84 #[.val (.int p1), .val (.int p2), .val (.int p3), .val (.int p4), .val (.ref b5), .val (.int (p1 % (64 : Int32))), .val (.int (p2 % (64 : Int32))), .val (.int (p3 % (64 : Int32))), .val (.double (FP.i2d (p4 % (1000 : Int32)))), .second, .val (.ref b6), .val (.int (1 : Int32)), .unset, .unset] [(.ref b5)])) _
    refine XS.iload X7.here hx rfl (hb hby at_84) rfl ?_
    show Steps p.tables e below (T7.setTop (mkF m 86 #[.val (.int p1), .val (.int p2), .val (.int p3), .val (.int p4), .val (.ref b5), .val (.int (p1 % (64 : Int32))), .val (.int (p2 % (64 : Int32))), .val (.int (p3 % (64 : Int32))), .val (.double (FP.i2d (p4 % (1000 : Int32)))), .second, .val (.ref b6), .val (.int (1 : Int32)), .unset, .unset] [(.int (p2 % (64 : Int32))), (.ref b5)])) _
    refine st8.trans ?_
    show Steps p.tables e below (T8.setTop (mkF m 89 #[.val (.int p1), .val (.int p2), .val (.int p3), .val (.int p4), .val (.ref b5), .val (.int (p1 % (64 : Int32))), .val (.int (p2 % (64 : Int32))), .val (.int (p3 % (64 : Int32))), .val (.double (FP.i2d (p4 % (1000 : Int32)))), .second, .val (.ref b6), .val (.int (1 : Int32)), .unset, .unset] [(.ref b8)])) _
    refine XS.astore X8.here hx rfl (hb hby at_89) rfl rfl (l' := #[.val (.int p1), .val (.int p2), .val (.int p3), .val (.int p4), .val (.ref b5), .val (.int (p1 % (64 : Int32))), .val (.int (p2 % (64 : Int32))), .val (.int (p3 % (64 : Int32))), .val (.double (FP.i2d (p4 % (1000 : Int32)))), .second, .val (.ref b6), .val (.int (1 : Int32)), .val (.ref b8), .unset]) rfl ?_
    show Steps p.tables e below (T8.setTop (mkF m 91 #[.val (.int p1), .val (.int p2), .val (.int p3), .val (.int p4), .val (.ref b5), .val (.int (p1 % (64 : Int32))), .val (.int (p2 % (64 : Int32))), .val (.int (p3 % (64 : Int32))), .val (.double (FP.i2d (p4 % (1000 : Int32)))), .second, .val (.ref b6), .val (.int (1 : Int32)), .val (.ref b8), .unset] [])) _
    refine XS.aload X8.here hx rfl (hb hby at_91) rfl rfl ?_
    show Steps p.tables e below (T8.setTop (mkF m 93 #[.val (.int p1), .val (.int p2), .val (.int p3), .val (.int p4), .val (.ref b5), .val (.int (p1 % (64 : Int32))), .val (.int (p2 % (64 : Int32))), .val (.int (p3 % (64 : Int32))), .val (.double (FP.i2d (p4 % (1000 : Int32)))), .second, .val (.ref b6), .val (.int (1 : Int32)), .val (.ref b8), .unset] [(.ref b8)])) _
    refine XS.ifnonnullYes X8.here hx rfl (pc0 := 93) (pc' := 98) rfl (hb hby at_93) rfl (by decide) (by decide) ?_
    show Steps p.tables e below (T8.setTop (mkF m 98 #[.val (.int p1), .val (.int p2), .val (.int p3), .val (.int p4), .val (.ref b5), .val (.int (p1 % (64 : Int32))), .val (.int (p2 % (64 : Int32))), .val (.int (p3 % (64 : Int32))), .val (.double (FP.i2d (p4 % (1000 : Int32)))), .second, .val (.ref b6), .val (.int (1 : Int32)), .val (.ref b8), .unset] [])) _
    refine XS.iload X8.here hx rfl (hb hby at_98) rfl ?_
    show Steps p.tables e below (T8.setTop (mkF m 100 #[.val (.int p1), .val (.int p2), .val (.int p3), .val (.int p4), .val (.ref b5), .val (.int (p1 % (64 : Int32))), .val (.int (p2 % (64 : Int32))), .val (.int (p3 % (64 : Int32))), .val (.double (FP.i2d (p4 % (1000 : Int32)))), .second, .val (.ref b6), .val (.int (1 : Int32)), .val (.ref b8), .unset] [(.int (1 : Int32))])) _
    refine XS.ifNo X8.here hx rfl (hb hby at_100) rfl ((if0 _ _).trans (feq hc100).1) ?_
    show Steps p.tables e below (T8.setTop (mkF m 103 #[.val (.int p1), .val (.int p2), .val (.int p3), .val (.int p4), .val (.ref b5), .val (.int (p1 % (64 : Int32))), .val (.int (p2 % (64 : Int32))), .val (.int (p3 % (64 : Int32))), .val (.double (FP.i2d (p4 % (1000 : Int32)))), .second, .val (.ref b6), .val (.int (1 : Int32)), .val (.ref b8), .unset] [])) _
    refine XS.aload X8.here hx rfl (hb hby at_103) rfl rfl ?_
    show Steps p.tables e below (T8.setTop (mkF m 105 #[.val (.int p1), .val (.int p2), .val (.int p3), .val (.int p4), .val (.ref b5), .val (.int (p1 % (64 : Int32))), .val (.int (p2 % (64 : Int32))), .val (.int (p3 % (64 : Int32))), .val (.double (FP.i2d (p4 % (1000 : Int32)))), .second, .val (.ref b6), .val (.int (1 : Int32)), .val (.ref b8), .unset] [(.ref b8)])) _
    refine X8.arraylength hx (by exact Ar_b8_105.1) (State.isArrayOf_alike hZ.alike Ar_b8_105.2.1) (g := (mkF m 105 #[.val (.int p1), .val (.int p2), .val (.int p3), .val (.int p4), .val (.ref b5), .val (.int (p1 % (64 : Int32))), .val (.int (p2 % (64 : Int32))), .val (.int (p3 % (64 : Int32))), .val (.double (FP.i2d (p4 % (1000 : Int32)))), .second, .val (.ref b6), .val (.int (1 : Int32)), .val (.ref b8), .unset] [(.ref b8)])) rfl rfl (hb hby at_105) _ ?_
    rw [len_of S_b8_105 N_b8_105]
    show Steps p.tables e below (T8.setTop (mkF m 106 #[.val (.int p1), .val (.int p2), .val (.int p3), .val (.int p4), .val (.ref b5), .val (.int (p1 % (64 : Int32))), .val (.int (p2 % (64 : Int32))), .val (.int (p3 % (64 : Int32))), .val (.double (FP.i2d (p4 % (1000 : Int32)))), .second, .val (.ref b6), .val (.int (1 : Int32)), .val (.ref b8), .unset] [(.int (p2 % (64 : Int32)))])) _
    refine XS.iload X8.here hx rfl (hb hby at_106) rfl ?_
    show Steps p.tables e below (T8.setTop (mkF m 108 #[.val (.int p1), .val (.int p2), .val (.int p3), .val (.int p4), .val (.ref b5), .val (.int (p1 % (64 : Int32))), .val (.int (p2 % (64 : Int32))), .val (.int (p3 % (64 : Int32))), .val (.double (FP.i2d (p4 % (1000 : Int32)))), .second, .val (.ref b6), .val (.int (1 : Int32)), .val (.ref b8), .unset] [(.int (p2 % (64 : Int32))), (.int (p2 % (64 : Int32)))])) _
    refine XS.icmpNo X8.here hx rfl (hb hby at_108) rfl (flt hc108).1 ?_
    show Steps p.tables e below (T8.setTop (mkF m 111 #[.val (.int p1), .val (.int p2), .val (.int p3), .val (.int p4), .val (.ref b5), .val (.int (p1 % (64 : Int32))), .val (.int (p2 % (64 : Int32))), .val (.int (p3 % (64 : Int32))), .val (.double (FP.i2d (p4 % (1000 : Int32)))), .second, .val (.ref b6), .val (.int (1 : Int32)), .val (.ref b8), .unset] [])) _
    refine XS.iconst X8.here hx rfl (hb hby at_111) ?_
    show Steps p.tables e below (T8.setTop (mkF m 112 #[.val (.int p1), .val (.int p2), .val (.int p3), .val (.int p4), .val (.ref b5), .val (.int (p1 % (64 : Int32))), .val (.int (p2 % (64 : Int32))), .val (.int (p3 % (64 : Int32))), .val (.double (FP.i2d (p4 % (1000 : Int32)))), .second, .val (.ref b6), .val (.int (1 : Int32)), .val (.ref b8), .unset] [(.int (1 : Int32))])) _
    refine XS.goto X8.here hx rfl (pc0 := 112) (pc' := 116) rfl (hb hby at_112) (by decide) (by decide) ?_
    show Steps p.tables e below (T8.setTop (mkF m 116 #[.val (.int p1), .val (.int p2), .val (.int p3), .val (.int p4), .val (.ref b5), .val (.int (p1 % (64 : Int32))), .val (.int (p2 % (64 : Int32))), .val (.int (p3 % (64 : Int32))), .val (.double (FP.i2d (p4 % (1000 : Int32)))), .second, .val (.ref b6), .val (.int (1 : Int32)), .val (.ref b8), .unset] [(.int (1 : Int32))])) _
    refine XS.istore X8.here hx rfl (hb hby at_116) rfl (l' := #[.val (.int p1), .val (.int p2), .val (.int p3), .val (.int p4), .val (.ref b5), .val (.int (p1 % (64 : Int32))), .val (.int (p2 % (64 : Int32))), .val (.int (p3 % (64 : Int32))), .val (.double (FP.i2d (p4 % (1000 : Int32)))), .second, .val (.ref b6), .val (.int (1 : Int32)), .val (.ref b8), .unset]) rfl ?_
    show Steps p.tables e below (T8.setTop (mkF m 118 #[.val (.int p1), .val (.int p2), .val (.int p3), .val (.int p4), .val (.ref b5), .val (.int (p1 % (64 : Int32))), .val (.int (p2 % (64 : Int32))), .val (.int (p3 % (64 : Int32))), .val (.double (FP.i2d (p4 % (1000 : Int32)))), .second, .val (.ref b6), .val (.int (1 : Int32)), .val (.ref b8), .unset] [])) _
    refine XS.iload X8.here hx rfl (hb hby at_118) rfl ?_
    show Steps p.tables e below (T8.setTop (mkF m 120 #[.val (.int p1), .val (.int p2), .val (.int p3), .val (.int p4), .val (.ref b5), .val (.int (p1 % (64 : Int32))), .val (.int (p2 % (64 : Int32))), .val (.int (p3 % (64 : Int32))), .val (.double (FP.i2d (p4 % (1000 : Int32)))), .second, .val (.ref b6), .val (.int (1 : Int32)), .val (.ref b8), .unset] [(.int (p2 % (64 : Int32)))])) _
    refine XS.aload X8.here hx rfl (hb hby at_120) rfl rfl ?_
    show Steps p.tables e below (T8.setTop (mkF m 122 #[.val (.int p1), .val (.int p2), .val (.int p3), .val (.int p4), .val (.ref b5), .val (.int (p1 % (64 : Int32))), .val (.int (p2 % (64 : Int32))), .val (.int (p3 % (64 : Int32))), .val (.double (FP.i2d (p4 % (1000 : Int32)))), .second, .val (.ref b6), .val (.int (1 : Int32)), .val (.ref b8), .unset] [(.ref b6), (.int (p2 % (64 : Int32)))])) _
    refine X8.arraylength hx (by exact Ar_b6_122.1) (State.isArrayOf_alike hZ.alike Ar_b6_122.2.1) (g := (mkF m 122 #[.val (.int p1), .val (.int p2), .val (.int p3), .val (.int p4), .val (.ref b5), .val (.int (p1 % (64 : Int32))), .val (.int (p2 % (64 : Int32))), .val (.int (p3 % (64 : Int32))), .val (.double (FP.i2d (p4 % (1000 : Int32)))), .second, .val (.ref b6), .val (.int (1 : Int32)), .val (.ref b8), .unset] [(.ref b6), (.int (p2 % (64 : Int32)))])) rfl rfl (hb hby at_122) _ ?_
    rw [len_of S_b6_122 N_b6_122]
    show Steps p.tables e below (T8.setTop (mkF m 123 #[.val (.int p1), .val (.int p2), .val (.int p3), .val (.int p4), .val (.ref b5), .val (.int (p1 % (64 : Int32))), .val (.int (p2 % (64 : Int32))), .val (.int (p3 % (64 : Int32))), .val (.double (FP.i2d (p4 % (1000 : Int32)))), .second, .val (.ref b6), .val (.int (1 : Int32)), .val (.ref b8), .unset] [(.int (0 : Int32)), (.int (p2 % (64 : Int32)))])) _
    refine XS.icmpYes X8.here hx rfl (pc0 := 123) (pc' := 165) rfl (hb hby at_123) rfl (tlt hc123).2.2.1 (by decide) (by decide) ?_
    show Steps p.tables e below (T8.setTop (mkF m 165 #[.val (.int p1), .val (.int p2), .val (.int p3), .val (.int p4), .val (.ref b5), .val (.int (p1 % (64 : Int32))), .val (.int (p2 % (64 : Int32))), .val (.int (p3 % (64 : Int32))), .val (.double (FP.i2d (p4 % (1000 : Int32)))), .second, .val (.ref b6), .val (.int (1 : Int32)), .val (.ref b8), .unset] [])) _
    refine XS.aload X8.here hx rfl (hb hby at_165) rfl rfl ?_
    show Steps p.tables e below (T8.setTop (mkF m 167 #[.val (.int p1), .val (.int p2), .val (.int p3), .val (.int p4), .val (.ref b5), .val (.int (p1 % (64 : Int32))), .val (.int (p2 % (64 : Int32))), .val (.int (p3 % (64 : Int32))), .val (.double (FP.i2d (p4 % (1000 : Int32)))), .second, .val (.ref b6), .val (.int (1 : Int32)), .val (.ref b8), .unset] [(.ref b5)])) _
    refine XS.iload X8.here hx rfl (hb hby at_167) rfl ?_
    show Steps p.tables e below (T8.setTop (mkF m 169 #[.val (.int p1), .val (.int p2), .val (.int p3), .val (.int p4), .val (.ref b5), .val (.int (p1 % (64 : Int32))), .val (.int (p2 % (64 : Int32))), .val (.int (p3 % (64 : Int32))), .val (.double (FP.i2d (p4 % (1000 : Int32)))), .second, .val (.ref b6), .val (.int (1 : Int32)), .val (.ref b8), .unset] [(.int (p3 % (64 : Int32))), (.ref b5)])) _
    refine st9.trans ?_
    show Steps p.tables e below (T9.setTop (mkF m 172 #[.val (.int p1), .val (.int p2), .val (.int p3), .val (.int p4), .val (.ref b5), .val (.int (p1 % (64 : Int32))), .val (.int (p2 % (64 : Int32))), .val (.int (p3 % (64 : Int32))), .val (.double (FP.i2d (p4 % (1000 : Int32)))), .second, .val (.ref b6), .val (.int (1 : Int32)), .val (.ref b8), .unset] [(.ref b9)])) _
    refine XS.astore X9.here hx rfl (hb hby at_172) rfl rfl (l' := #[.val (.int p1), .val (.int p2), .val (.int p3), .val (.int p4), .val (.ref b5), .val (.int (p1 % (64 : Int32))), .val (.int (p2 % (64 : Int32))), .val (.int (p3 % (64 : Int32))), .val (.double (FP.i2d (p4 % (1000 : Int32)))), .second, .val (.ref b6), .val (.int (1 : Int32)), .val (.ref b8), .val (.ref b9)]) rfl ?_
    show Steps p.tables e below (T9.setTop (mkF m 174 #[.val (.int p1), .val (.int p2), .val (.int p3), .val (.int p4), .val (.ref b5), .val (.int (p1 % (64 : Int32))), .val (.int (p2 % (64 : Int32))), .val (.int (p3 % (64 : Int32))), .val (.double (FP.i2d (p4 % (1000 : Int32)))), .second, .val (.ref b6), .val (.int (1 : Int32)), .val (.ref b8), .val (.ref b9)] [])) _
    refine XS.aload X9.here hx rfl (hb hby at_174) rfl rfl ?_
    show Steps p.tables e below (T9.setTop (mkF m 176 #[.val (.int p1), .val (.int p2), .val (.int p3), .val (.int p4), .val (.ref b5), .val (.int (p1 % (64 : Int32))), .val (.int (p2 % (64 : Int32))), .val (.int (p3 % (64 : Int32))), .val (.double (FP.i2d (p4 % (1000 : Int32)))), .second, .val (.ref b6), .val (.int (1 : Int32)), .val (.ref b8), .val (.ref b9)] [(.ref b9)])) _
    refine XS.ifnonnullYes X9.here hx rfl (pc0 := 176) (pc' := 181) rfl (hb hby at_176) rfl (by decide) (by decide) ?_
    show Steps p.tables e below (T9.setTop (mkF m 181 #[.val (.int p1), .val (.int p2), .val (.int p3), .val (.int p4), .val (.ref b5), .val (.int (p1 % (64 : Int32))), .val (.int (p2 % (64 : Int32))), .val (.int (p3 % (64 : Int32))), .val (.double (FP.i2d (p4 % (1000 : Int32)))), .second, .val (.ref b6), .val (.int (1 : Int32)), .val (.ref b8), .val (.ref b9)] [])) _
    refine XS.iload X9.here hx rfl (hb hby at_181) rfl ?_
    show Steps p.tables e below (T9.setTop (mkF m 183 #[.val (.int p1), .val (.int p2), .val (.int p3), .val (.int p4), .val (.ref b5), .val (.int (p1 % (64 : Int32))), .val (.int (p2 % (64 : Int32))), .val (.int (p3 % (64 : Int32))), .val (.double (FP.i2d (p4 % (1000 : Int32)))), .second, .val (.ref b6), .val (.int (1 : Int32)), .val (.ref b8), .val (.ref b9)] [(.int (1 : Int32))])) _
    refine XS.ifNo X9.here hx rfl (hb hby at_183) rfl ((if0 _ _).trans (feq hc183).1) ?_
    show Steps p.tables e below (T9.setTop (mkF m 186 #[.val (.int p1), .val (.int p2), .val (.int p3), .val (.int p4), .val (.ref b5), .val (.int (p1 % (64 : Int32))), .val (.int (p2 % (64 : Int32))), .val (.int (p3 % (64 : Int32))), .val (.double (FP.i2d (p4 % (1000 : Int32)))), .second, .val (.ref b6), .val (.int (1 : Int32)), .val (.ref b8), .val (.ref b9)] [])) _
    refine XS.aload X9.here hx rfl (hb hby at_186) rfl rfl ?_
    show Steps p.tables e below (T9.setTop (mkF m 188 #[.val (.int p1), .val (.int p2), .val (.int p3), .val (.int p4), .val (.ref b5), .val (.int (p1 % (64 : Int32))), .val (.int (p2 % (64 : Int32))), .val (.int (p3 % (64 : Int32))), .val (.double (FP.i2d (p4 % (1000 : Int32)))), .second, .val (.ref b6), .val (.int (1 : Int32)), .val (.ref b8), .val (.ref b9)] [(.ref b9)])) _
    refine X9.arraylength hx (by exact Ar_b9_188.1) (State.isArrayOf_alike hZ.alike Ar_b9_188.2.1) (g := (mkF m 188 #[.val (.int p1), .val (.int p2), .val (.int p3), .val (.int p4), .val (.ref b5), .val (.int (p1 % (64 : Int32))), .val (.int (p2 % (64 : Int32))), .val (.int (p3 % (64 : Int32))), .val (.double (FP.i2d (p4 % (1000 : Int32)))), .second, .val (.ref b6), .val (.int (1 : Int32)), .val (.ref b8), .val (.ref b9)] [(.ref b9)])) rfl rfl (hb hby at_188) _ ?_
    rw [len_of S_b9_188 N_b9_188]
    show Steps p.tables e below (T9.setTop (mkF m 189 #[.val (.int p1), .val (.int p2), .val (.int p3), .val (.int p4), .val (.ref b5), .val (.int (p1 % (64 : Int32))), .val (.int (p2 % (64 : Int32))), .val (.int (p3 % (64 : Int32))), .val (.double (FP.i2d (p4 % (1000 : Int32)))), .second, .val (.ref b6), .val (.int (1 : Int32)), .val (.ref b8), .val (.ref b9)] [(.int (p3 % (64 : Int32)))])) _
    refine XS.iload X9.here hx rfl (hb hby at_189) rfl ?_
    show Steps p.tables e below (T9.setTop (mkF m 191 #[.val (.int p1), .val (.int p2), .val (.int p3), .val (.int p4), .val (.ref b5), .val (.int (p1 % (64 : Int32))), .val (.int (p2 % (64 : Int32))), .val (.int (p3 % (64 : Int32))), .val (.double (FP.i2d (p4 % (1000 : Int32)))), .second, .val (.ref b6), .val (.int (1 : Int32)), .val (.ref b8), .val (.ref b9)] [(.int (p3 % (64 : Int32))), (.int (p3 % (64 : Int32)))])) _
    refine XS.icmpNo X9.here hx rfl (hb hby at_191) rfl (flt hc191).1 ?_
    show Steps p.tables e below (T9.setTop (mkF m 194 #[.val (.int p1), .val (.int p2), .val (.int p3), .val (.int p4), .val (.ref b5), .val (.int (p1 % (64 : Int32))), .val (.int (p2 % (64 : Int32))), .val (.int (p3 % (64 : Int32))), .val (.double (FP.i2d (p4 % (1000 : Int32)))), .second, .val (.ref b6), .val (.int (1 : Int32)), .val (.ref b8), .val (.ref b9)] [])) _
    refine XS.iconst X9.here hx rfl (hb hby at_194) ?_
    show Steps p.tables e below (T9.setTop (mkF m 195 #[.val (.int p1), .val (.int p2), .val (.int p3), .val (.int p4), .val (.ref b5), .val (.int (p1 % (64 : Int32))), .val (.int (p2 % (64 : Int32))), .val (.int (p3 % (64 : Int32))), .val (.double (FP.i2d (p4 % (1000 : Int32)))), .second, .val (.ref b6), .val (.int (1 : Int32)), .val (.ref b8), .val (.ref b9)] [(.int (1 : Int32))])) _
    refine XS.goto X9.here hx rfl (pc0 := 195) (pc' := 199) rfl (hb hby at_195) (by decide) (by decide) ?_
    show Steps p.tables e below (T9.setTop (mkF m 199 #[.val (.int p1), .val (.int p2), .val (.int p3), .val (.int p4), .val (.ref b5), .val (.int (p1 % (64 : Int32))), .val (.int (p2 % (64 : Int32))), .val (.int (p3 % (64 : Int32))), .val (.double (FP.i2d (p4 % (1000 : Int32)))), .second, .val (.ref b6), .val (.int (1 : Int32)), .val (.ref b8), .val (.ref b9)] [(.int (1 : Int32))])) _
    refine XS.istore X9.here hx rfl (hb hby at_199) rfl (l' := #[.val (.int p1), .val (.int p2), .val (.int p3), .val (.int p4), .val (.ref b5), .val (.int (p1 % (64 : Int32))), .val (.int (p2 % (64 : Int32))), .val (.int (p3 % (64 : Int32))), .val (.double (FP.i2d (p4 % (1000 : Int32)))), .second, .val (.ref b6), .val (.int (1 : Int32)), .val (.ref b8), .val (.ref b9)]) rfl ?_
    show Steps p.tables e below (T9.setTop (mkF m 201 #[.val (.int p1), .val (.int p2), .val (.int p3), .val (.int p4), .val (.ref b5), .val (.int (p1 % (64 : Int32))), .val (.int (p2 % (64 : Int32))), .val (.int (p3 % (64 : Int32))), .val (.double (FP.i2d (p4 % (1000 : Int32)))), .second, .val (.ref b6), .val (.int (1 : Int32)), .val (.ref b8), .val (.ref b9)] [])) _
    refine XS.iload X9.here hx rfl (hb hby at_201) rfl ?_
    show Steps p.tables e below (T9.setTop (mkF m 203 #[.val (.int p1), .val (.int p2), .val (.int p3), .val (.int p4), .val (.ref b5), .val (.int (p1 % (64 : Int32))), .val (.int (p2 % (64 : Int32))), .val (.int (p3 % (64 : Int32))), .val (.double (FP.i2d (p4 % (1000 : Int32)))), .second, .val (.ref b6), .val (.int (1 : Int32)), .val (.ref b8), .val (.ref b9)] [(.int (p3 % (64 : Int32)))])) _
    refine XS.aload X9.here hx rfl (hb hby at_203) rfl rfl ?_
    show Steps p.tables e below (T9.setTop (mkF m 205 #[.val (.int p1), .val (.int p2), .val (.int p3), .val (.int p4), .val (.ref b5), .val (.int (p1 % (64 : Int32))), .val (.int (p2 % (64 : Int32))), .val (.int (p3 % (64 : Int32))), .val (.double (FP.i2d (p4 % (1000 : Int32)))), .second, .val (.ref b6), .val (.int (1 : Int32)), .val (.ref b8), .val (.ref b9)] [(.ref b8), (.int (p3 % (64 : Int32)))])) _
    refine X9.arraylength hx (by exact Ar_b8_205.1) (State.isArrayOf_alike hZ.alike Ar_b8_205.2.1) (g := (mkF m 205 #[.val (.int p1), .val (.int p2), .val (.int p3), .val (.int p4), .val (.ref b5), .val (.int (p1 % (64 : Int32))), .val (.int (p2 % (64 : Int32))), .val (.int (p3 % (64 : Int32))), .val (.double (FP.i2d (p4 % (1000 : Int32)))), .second, .val (.ref b6), .val (.int (1 : Int32)), .val (.ref b8), .val (.ref b9)] [(.ref b8), (.int (p3 % (64 : Int32)))])) rfl rfl (hb hby at_205) _ ?_
    rw [len_of S_b8_205 N_b8_205]
    show Steps p.tables e below (T9.setTop (mkF m 206 #[.val (.int p1), .val (.int p2), .val (.int p3), .val (.int p4), .val (.ref b5), .val (.int (p1 % (64 : Int32))), .val (.int (p2 % (64 : Int32))), .val (.int (p3 % (64 : Int32))), .val (.double (FP.i2d (p4 % (1000 : Int32)))), .second, .val (.ref b6), .val (.int (1 : Int32)), .val (.ref b8), .val (.ref b9)] [(.int (p2 % (64 : Int32))), (.int (p3 % (64 : Int32)))])) _
    refine XS.icmpYes X9.here hx rfl (pc0 := 206) (pc' := 228) rfl (hb hby at_206) rfl (tlt hc206).2.2.1 (by decide) (by decide) ?_
    show Steps p.tables e below (T9.setTop (mkF m 228 #[.val (.int p1), .val (.int p2), .val (.int p3), .val (.int p4), .val (.ref b5), .val (.int (p1 % (64 : Int32))), .val (.int (p2 % (64 : Int32))), .val (.int (p3 % (64 : Int32))), .val (.double (FP.i2d (p4 % (1000 : Int32)))), .second, .val (.ref b6), .val (.int (1 : Int32)), .val (.ref b8), .val (.ref b9)] [])) _
    refine XS.iload X9.here hx rfl (hb hby at_228) rfl ?_
    show Steps p.tables e below (T9.setTop (mkF m 230 #[.val (.int p1), .val (.int p2), .val (.int p3), .val (.int p4), .val (.ref b5), .val (.int (p1 % (64 : Int32))), .val (.int (p2 % (64 : Int32))), .val (.int (p3 % (64 : Int32))), .val (.double (FP.i2d (p4 % (1000 : Int32)))), .second, .val (.ref b6), .val (.int (1 : Int32)), .val (.ref b8), .val (.ref b9)] [(.int (1 : Int32))])) _
    exact retN X9 hx (t := .boolean) Bd.returns (by simp) (hb hby at_230) hr
  · show Q0 Z p1 p2 p3 p4 h0 n0 _ T9.heap _
    exact ⟨rfl, N9⟩
set_option maxRecDepth 65536 in
set_option maxHeartbeats 40000000 in
theorem rm0_010 (l : Launch) (Z : State) (a0 : Array Value) (hw : ∀ d ∈ tables_1, d.before a0 Z = true) (ws : List Jvm.Cond) (p1 : Int32) (p2 : Int32) (p3 : Int32) (p4 : Int32) (h0 : Heap) (n0 : Nat) (Z0 : n0 ≤ h0.size) (ho39 : ¬ ((0 : Int32) < (p1 % (64 : Int32)))) (ho86 : (0 : Int32) < (p2 % (64 : Int32))) (ho169 : ¬ ((p2 % (64 : Int32)) < (p3 % (64 : Int32)))) (hc56 : ¬ ((0 : Int32) < (p1 % (64 : Int32)))) (hc69 : ¬ ((0 : Int32) < (0 : Int32))) (hc100 : ¬ ((1 : Int32) = (0 : Int32))) (hc108 : ¬ ((p2 % (64 : Int32)) < (p2 % (64 : Int32)))) (hc123 : (0 : Int32) < (p2 % (64 : Int32))) (hc183 : ¬ ((1 : Int32) = (0 : Int32))) (hc191 : ¬ ((p2 % (64 : Int32)) < (p3 % (64 : Int32)))) (hc206 : ¬ ((p2 % (64 : Int32)) < (p3 % (64 : Int32)))) (hc211 : ¬ ((1 : Int32) = (0 : Int32))) :
    MetFree l x (head1 (Jvm.Cond.code x code maxLocals ret :: ws) room_1) (fun a U => a = #[(.int p1), (.int p2), (.int p3), (.int p4)] ∧ Z.Warmed39 U.vm ∧ U.heap = h0) (fun _ _ _ _ _ => True) (fun _ U o U' => ∃ v L, o = .returned v ∧ Q0 Z p1 p2 p3 p4 h0 n0 v U'.heap L ∧ FrameEnd U o U' L room_1.cells room_1.slots) := by
  refine MetFree.of_bodySF (plainFor_of_name pn_0) hisR ?_
  intro p e s m args below meth c s₁ Bd hml0 hP hK
  obtain ⟨rfl, hZ, hh⟩ := hP
  have hx := Bd.exec
  have hby := Bd.bytes
  have hml : c.maxLocals = 14 := hml0
  have hown : s.vm.findClass "com/example/understory/understory/sim/BufferOfPinLaw" = some m.cls := findClass_of_methodNamed Bd.named
  have hnm := (name_of_methodNamed Bd.named Bd.method).1
  have X0 : Stand p l e room_1 s m #[(.int p1), (.int p2), (.int p3), (.int p4)] below meth c s₁ [] 0 0 := Stand.of_body Bd
  have e0 : s₁.heap = h0 := by rw [← hh, Bd.state]; rfl
  have N0 := Fr.nil n0
  have pre0 : ∀ t, Steps p.tables e below (s₁.setTop (mkF m 0 #[.val (.int p1), .val (.int p2), .val (.int p3), .val (.int p4), .unset, .unset, .unset, .unset, .unset, .unset, .unset, .unset, .unset, .unset] [])) t → Steps p.tables e below (s₁.setTop (entryFrame m #[(.int p1), (.int p2), (.int p3), (.int p4)] maxLocals)) t := fun t k => castTop (ef_0 m p1 p2 p3 p4) k
  obtain ⟨T5, h5, X5, e5, E5, A5, D5, -, st5⟩ := newO X0 hx hZ hown (hw _ (List.mem_of_getElem? (i := 0) rfl)) (hw _ (List.mem_of_getElem? (i := 1) rfl)) (hw _ (List.mem_of_getElem? (i := 2) rfl)) e0 (g := (mkF m 0 #[.val (.int p1), .val (.int p2), .val (.int p3), .val (.int p4), .unset, .unset, .unset, .unset, .unset, .unset, .unset, .unset, .unset, .unset] [])) rfl (hb hby at_0) (by decide) (by decide)
  obtain ⟨b5, g5⟩ : ∃ z, z = h0.size := ⟨_, rfl⟩
  rw [← g5] at A5 D5 st5
  have F_values_b5 : Fld Z h5 b5 "com/example/understory/understory/sim/ColumnEvaluator$Buffer" "values" "[D" .null := D5 (Or.inl (hw _ (List.mem_of_getElem? (i := 11) rfl))) (ty := (.array .double)) (by decide)
  have E_b5 := A5
  have g_b5 : n0 ≤ b5 := Nat.le_trans Z0 (Nat.le_of_eq g5.symm)
  obtain ⟨b6, g6⟩ : ∃ z, z = h5.size := ⟨_, rfl⟩
  have g_b6 : n0 ≤ b6 := Nat.le_trans (Nat.le_trans Z0 E5.1) (Nat.le_of_eq g6.symm)
  have ne_b5_b6 : b5 ≠ b6 := Nat.ne_of_lt (Nat.lt_of_lt_of_le E_b5.lt (Nat.le_of_eq g6.symm))
  obtain ⟨_, _, ⟨T6, L6, k6, n6⟩, -, X6, ⟨Lc6, hQ6, l6, y6, z6⟩, st6⟩ := X5.specialBack hx (y := (⟨"com/example/understory/understory/sim/ColumnEvaluator$Buffer", "<init>", "()V"⟩ : MethodName)) rfl hown (mvT hZ (hw _ (List.mem_of_getElem? (i := 3) rfl))) (mvT hZ (hw _ (List.mem_of_getElem? (i := 4) rfl))) (mvT hZ (hw _ (List.mem_of_getElem? (i := 5) rfl))) (by decide) (backOf (W := 1) (rm1 l Z a0 hw [] b5 .null b6 h5 n0 (Nat.le_trans Z0 E5.1) E_b5 F_values_b5 g_b5 g6) hZ (hw _ (List.mem_of_getElem? (i := 5) rfl)) (hw _ (List.mem_of_getElem? (i := 2) rfl)) (by decide) (by decide)) (g := (mkF m 4 #[.val (.int p1), .val (.int p2), .val (.int p3), .val (.int p4), .unset, .unset, .unset, .unset, .unset, .unset, .unset, .unset, .unset, .unset] [(.ref b5), (.ref b5)])) rfl (by rw [hml]; rfl) (Steps.refl _) (a := b5) (argsL := []) (rest := [(.ref b5)]) (lenOf pd_0_0 rfl) rfl (by show 2 * 0 + _ ≤ _; exact Nat.le_of_eq rfl) (hb hby at_4) (fun _ _ => ⟨rfl, e5, (by decide : 1 + 1 ≤ _), (by decide : 1 + 0 ≤ _)⟩)
  dsimp only [Pt.U, Pt.locs, Pt.cells, Pt.slots] at X6 l6 y6 z6 st6 hQ6
  subst l6 y6 z6
  obtain ⟨rfl, N6q, K6, gE6, gF6, kk6, gV6⟩ := hQ6
  have N6 := Fr.app N0 N6q
  obtain ⟨cq7, kq7, q7a, q7b, q7c⟩ := isOf hZ rfl gE6
  obtain ⟨_, _, ⟨T7, L7, k7, n7⟩, -, X7, ⟨Lc7, hQ7, l7, y7, z7⟩, st7⟩ := X6.virtualBack hx (y := (⟨"com/example/understory/understory/sim/ColumnEvaluator$Buffer", "of", "(I)[D"⟩ : MethodName)) (z := (⟨"com/example/understory/understory/sim/ColumnEvaluator$Buffer", "of", "(I)[D"⟩ : MethodName)) hown (mvT hZ (hw _ (List.mem_of_getElem? (i := 12) rfl))) (mvT hZ (hw _ (List.mem_of_getElem? (i := 13) rfl))) (notFace_of_selects (args := #[]) (mvT hZ (hw _ (List.mem_of_getElem? (i := 15) rfl)))) (mvT hZ (hw _ (List.mem_of_getElem? (i := 15) rfl))) (mvT hZ (hw _ (List.mem_of_getElem? (i := 14) rfl))) (by decide) (backOf (W := 0) (rm3T l Z a0 hw [] b5 (p1 % (64 : Int32)) b6 _ (0 : Int32) _ _ T6.heap n0 (Nat.le_trans (Nat.le_trans Z0 E5.1) K6.1) gF6 gV6 ho39) hZ (hw _ (List.mem_of_getElem? (i := 16) rfl)) (hw _ (List.mem_of_getElem? (i := 2) rfl)) (by decide) (by decide)) q7a q7c (g := (mkF m 39 #[.val (.int p1), .val (.int p2), .val (.int p3), .val (.int p4), .val (.ref b5), .val (.int (p1 % (64 : Int32))), .val (.int (p2 % (64 : Int32))), .val (.int (p3 % (64 : Int32))), .val (.double (FP.i2d (p4 % (1000 : Int32)))), .second, .unset, .unset, .unset, .unset] [(.int (p1 % (64 : Int32))), (.ref b5)])) rfl (by rw [hml]; rfl) (Steps.refl _) (argsL := [(.int (p1 % (64 : Int32)))]) (rest := []) (lenOf pd_0_1 rfl) rfl (by show 2 * 0 + _ ≤ _; exact Nat.le_of_eq rfl) (hb hby at_39) (fun _ _ => ⟨rfl, rfl, (by decide : 2 + 0 ≤ _), (by decide : 1 + 0 ≤ _)⟩)
  dsimp only [Pt.U, Pt.locs, Pt.cells, Pt.slots] at X7 l7 y7 z7 st7 hQ7
  subst l7 y7 z7
  obtain ⟨rfl, N7q, e7⟩ := hQ7
  have N7 := Fr.app N6 N7q
  obtain ⟨cl_b6_53, Ar_b6_53, -, S_b6_53, N_b6_53, -, -⟩ := id (gV6)
  obtain ⟨cl_b6_68, Ar_b6_68, -, S_b6_68, N_b6_68, -, -⟩ := id (gV6)
  obtain ⟨cq8, kq8, q8a, q8b, q8c⟩ := isOf hZ e7 gE6
  obtain ⟨b8, g8⟩ : ∃ z, z = T6.heap.size := ⟨_, rfl⟩
  have g_b8 : n0 ≤ b8 := Nat.le_trans (Nat.le_trans (Nat.le_trans Z0 E5.1) K6.1) (Nat.le_of_eq g8.symm)
  have ne_b5_b8 : b5 ≠ b8 := Nat.ne_of_lt (Nat.lt_of_lt_of_le gE6.lt (Nat.le_of_eq g8.symm))
  have ne_b6_b8 : b6 ≠ b8 := Nat.ne_of_lt (Nat.lt_of_lt_of_le gV6.lt (Nat.le_of_eq g8.symm))
  obtain ⟨_, _, ⟨T8, L8, k8, n8⟩, -, X8, ⟨Lc8, hQ8, l8, y8, z8⟩, st8⟩ := X7.virtualBack hx (y := (⟨"com/example/understory/understory/sim/ColumnEvaluator$Buffer", "of", "(I)[D"⟩ : MethodName)) (z := (⟨"com/example/understory/understory/sim/ColumnEvaluator$Buffer", "of", "(I)[D"⟩ : MethodName)) hown (mvT hZ (hw _ (List.mem_of_getElem? (i := 12) rfl))) (mvT hZ (hw _ (List.mem_of_getElem? (i := 13) rfl))) (notFace_of_selects (args := #[]) (mvT hZ (hw _ (List.mem_of_getElem? (i := 15) rfl)))) (mvT hZ (hw _ (List.mem_of_getElem? (i := 15) rfl))) (mvT hZ (hw _ (List.mem_of_getElem? (i := 14) rfl))) (by decide) (backOf (W := 0) (rm3F l Z a0 hw [] b5 (p2 % (64 : Int32)) b6 _ (0 : Int32) _ _ b8 T6.heap n0 (Nat.le_trans (Nat.le_trans Z0 E5.1) K6.1) gF6 gV6 gE6 g_b5 ho86 g8 (own_mod _)) hZ (hw _ (List.mem_of_getElem? (i := 16) rfl)) (hw _ (List.mem_of_getElem? (i := 2) rfl)) (by decide) (by decide)) q8a q8c (g := (mkF m 86 #[.val (.int p1), .val (.int p2), .val (.int p3), .val (.int p4), .val (.ref b5), .val (.int (p1 % (64 : Int32))), .val (.int (p2 % (64 : Int32))), .val (.int (p3 % (64 : Int32))), .val (.double (FP.i2d (p4 % (1000 : Int32)))), .second, .val (.ref b6), .val (.int (1 : Int32)), .unset, .unset] [(.int (p2 % (64 : Int32))), (.ref b5)])) rfl (by rw [hml]; rfl) (Steps.refl _) (argsL := [(.int (p2 % (64 : Int32)))]) (rest := []) (lenOf pd_0_1 rfl) rfl (by show 2 * 0 + _ ≤ _; exact Nat.le_of_eq rfl) (hb hby at_86) (fun _ _ => ⟨rfl, e7, (by decide : 2 + 1 ≤ _), (by decide : 1 + 63 ≤ _)⟩)
  dsimp only [Pt.U, Pt.locs, Pt.cells, Pt.slots] at X8 l8 y8 z8 st8 hQ8
  subst l8 y8 z8
  obtain ⟨rfl, N8q, K8, gE8, gF8, kk8, gV8⟩ := hQ8
  have N8 := Fr.app N7 N8q
  obtain ⟨cl_b8_105, Ar_b8_105, -, S_b8_105, N_b8_105, -, -⟩ := id (gV8)
  obtain ⟨cl_b6_122, Ar_b6_122, -, S_b6_122, N_b6_122, -, -⟩ := id ((gV6.keep K8 (fun q => (Ne.symm ne_b5_b6) (List.mem_singleton.mp q))))
  obtain ⟨cq9, kq9, q9a, q9b, q9c⟩ := isOf hZ rfl gE8
  obtain ⟨_, _, ⟨T9, L9, k9, n9⟩, -, X9, ⟨Lc9, hQ9, l9, y9, z9⟩, st9⟩ := X8.virtualBack hx (y := (⟨"com/example/understory/understory/sim/ColumnEvaluator$Buffer", "of", "(I)[D"⟩ : MethodName)) (z := (⟨"com/example/understory/understory/sim/ColumnEvaluator$Buffer", "of", "(I)[D"⟩ : MethodName)) hown (mvT hZ (hw _ (List.mem_of_getElem? (i := 12) rfl))) (mvT hZ (hw _ (List.mem_of_getElem? (i := 13) rfl))) (notFace_of_selects (args := #[]) (mvT hZ (hw _ (List.mem_of_getElem? (i := 15) rfl)))) (mvT hZ (hw _ (List.mem_of_getElem? (i := 15) rfl))) (mvT hZ (hw _ (List.mem_of_getElem? (i := 14) rfl))) (by decide) (backOf (W := 0) (rm3T l Z a0 hw [] b5 (p3 % (64 : Int32)) b8 _ (p2 % (64 : Int32)) _ _ T8.heap n0 (Nat.le_trans (Nat.le_trans (Nat.le_trans Z0 E5.1) K6.1) K8.1) gF8 gV8 ho169) hZ (hw _ (List.mem_of_getElem? (i := 16) rfl)) (hw _ (List.mem_of_getElem? (i := 2) rfl)) (by decide) (by decide)) q9a q9c (g := (mkF m 169 #[.val (.int p1), .val (.int p2), .val (.int p3), .val (.int p4), .val (.ref b5), .val (.int (p1 % (64 : Int32))), .val (.int (p2 % (64 : Int32))), .val (.int (p3 % (64 : Int32))), .val (.double (FP.i2d (p4 % (1000 : Int32)))), .second, .val (.ref b6), .val (.int (1 : Int32)), .val (.ref b8), .unset] [(.int (p3 % (64 : Int32))), (.ref b5)])) rfl (by rw [hml]; rfl) (Steps.refl _) (argsL := [(.int (p3 % (64 : Int32)))]) (rest := []) (lenOf pd_0_1 rfl) rfl (by show 2 * 0 + _ ≤ _; exact Nat.le_of_eq rfl) (hb hby at_169) (fun _ _ => ⟨rfl, rfl, (by decide : 3 + 0 ≤ _), (by decide : 64 + 0 ≤ _)⟩)
  dsimp only [Pt.U, Pt.locs, Pt.cells, Pt.slots] at X9 l9 y9 z9 st9 hQ9
  subst l9 y9 z9
  obtain ⟨rfl, N9q, e9⟩ := hQ9
  have N9 := Fr.app N8 N9q
  obtain ⟨cl_b8_188, Ar_b8_188, -, S_b8_188, N_b8_188, -, -⟩ := id (gV8)
  obtain ⟨cl_b8_205, Ar_b8_205, -, S_b8_205, N_b8_205, -, -⟩ := id (gV8)
  obtain ⟨fs, hr, hrun, hended, hW, hsame⟩ := X9.leave (v := some (.int (1 : Int32))) (fun h => by rw [Bd.returns] at h; cases h)
  refine ⟨_, _, pre0 _ ?_, hrun, hended, _, _, rfl, ?_, ⟨_, rfl⟩, hW, hsame.mono (by decide) (by decide)⟩
  · show Steps p.tables e below (s₁.setTop (mkF m 0 #[.val (.int p1), .val (.int p2), .val (.int p3), .val (.int p4), .unset, .unset, .unset, .unset, .unset, .unset, .unset, .unset, .unset, .unset] [])) _
    refine st5 _ ?_
    show Steps p.tables e below (T5.setTop (mkF m 3 #[.val (.int p1), .val (.int p2), .val (.int p3), .val (.int p4), .unset, .unset, .unset, .unset, .unset, .unset, .unset, .unset, .unset, .unset] [(.ref b5)])) _
    refine XS.dup X5.here hx rfl (hb hby at_3) rfl rfl ?_
    show Steps p.tables e below (T5.setTop (mkF m 4 #[.val (.int p1), .val (.int p2), .val (.int p3), .val (.int p4), .unset, .unset, .unset, .unset, .unset, .unset, .unset, .unset, .unset, .unset] [(.ref b5), (.ref b5)])) _
    refine st6.trans ?_
    show Steps p.tables e below (T6.setTop (mkF m 7 #[.val (.int p1), .val (.int p2), .val (.int p3), .val (.int p4), .unset, .unset, .unset, .unset, .unset, .unset, .unset, .unset, .unset, .unset] [(.ref b5)])) _
    refine XS.astore X6.here hx rfl (hb hby at_7) rfl rfl (l' := #[.val (.int p1), .val (.int p2), .val (.int p3), .val (.int p4), .val (.ref b5), .unset, .unset, .unset, .unset, .unset, .unset, .unset, .unset, .unset]) rfl ?_
    show Steps p.tables e below (T6.setTop (mkF m 9 #[.val (.int p1), .val (.int p2), .val (.int p3), .val (.int p4), .val (.ref b5), .unset, .unset, .unset, .unset, .unset, .unset, .unset, .unset, .unset] [])) _
    refine XS.iloadN X6.here hx rfl (hb hby at_9) rfl ?_
    show Steps p.tables e below (T6.setTop (mkF m 10 #[.val (.int p1), .val (.int p2), .val (.int p3), .val (.int p4), .val (.ref b5), .unset, .unset, .unset, .unset, .unset, .unset, .unset, .unset, .unset] [(.int p1)])) _
    refine XS.bipush X6.here hx rfl (hb hby at_10) ?_
    show Steps p.tables e below (T6.setTop (mkF m 12 #[.val (.int p1), .val (.int p2), .val (.int p3), .val (.int p4), .val (.ref b5), .unset, .unset, .unset, .unset, .unset, .unset, .unset, .unset, .unset] [(.int (64 : Int32)), (.int p1)])) _
    refine iremM X6 hx rfl (hb hby at_12) rfl (by decide) ?_
    show Steps p.tables e below (T6.setTop (mkF m 13 #[.val (.int p1), .val (.int p2), .val (.int p3), .val (.int p4), .val (.ref b5), .unset, .unset, .unset, .unset, .unset, .unset, .unset, .unset, .unset] [(.int (p1 % (64 : Int32)))])) _
    refine XS.istore X6.here hx rfl (hb hby at_13) rfl (l' := #[.val (.int p1), .val (.int p2), .val (.int p3), .val (.int p4), .val (.ref b5), .val (.int (p1 % (64 : Int32))), .unset, .unset, .unset, .unset, .unset, .unset, .unset, .unset]) rfl ?_
    show Steps p.tables e below (T6.setTop (mkF m 15 #[.val (.int p1), .val (.int p2), .val (.int p3), .val (.int p4), .val (.ref b5), .val (.int (p1 % (64 : Int32))), .unset, .unset, .unset, .unset, .unset, .unset, .unset, .unset] [])) _
    refine XS.iloadN X6.here hx rfl (hb hby at_15) rfl ?_
    show Steps p.tables e below (T6.setTop (mkF m 16 #[.val (.int p1), .val (.int p2), .val (.int p3), .val (.int p4), .val (.ref b5), .val (.int (p1 % (64 : Int32))), .unset, .unset, .unset, .unset, .unset, .unset, .unset, .unset] [(.int p2)])) _
    refine XS.bipush X6.here hx rfl (hb hby at_16) ?_
    show Steps p.tables e below (T6.setTop (mkF m 18 #[.val (.int p1), .val (.int p2), .val (.int p3), .val (.int p4), .val (.ref b5), .val (.int (p1 % (64 : Int32))), .unset, .unset, .unset, .unset, .unset, .unset, .unset, .unset] [(.int (64 : Int32)), (.int p2)])) _
    refine iremM X6 hx rfl (hb hby at_18) rfl (by decide) ?_
    show Steps p.tables e below (T6.setTop (mkF m 19 #[.val (.int p1), .val (.int p2), .val (.int p3), .val (.int p4), .val (.ref b5), .val (.int (p1 % (64 : Int32))), .unset, .unset, .unset, .unset, .unset, .unset, .unset, .unset] [(.int (p2 % (64 : Int32)))])) _
    refine XS.istore X6.here hx rfl (hb hby at_19) rfl (l' := #[.val (.int p1), .val (.int p2), .val (.int p3), .val (.int p4), .val (.ref b5), .val (.int (p1 % (64 : Int32))), .val (.int (p2 % (64 : Int32))), .unset, .unset, .unset, .unset, .unset, .unset, .unset]) rfl ?_
    show Steps p.tables e below (T6.setTop (mkF m 21 #[.val (.int p1), .val (.int p2), .val (.int p3), .val (.int p4), .val (.ref b5), .val (.int (p1 % (64 : Int32))), .val (.int (p2 % (64 : Int32))), .unset, .unset, .unset, .unset, .unset, .unset, .unset] [])) _
    refine XS.iloadN X6.here hx rfl (hb hby at_21) rfl ?_
    show Steps p.tables e below (T6.setTop (mkF m 22 #[.val (.int p1), .val (.int p2), .val (.int p3), .val (.int p4), .val (.ref b5), .val (.int (p1 % (64 : Int32))), .val (.int (p2 % (64 : Int32))), .unset, .unset, .unset, .unset, .unset, .unset, .unset] [(.int p3)])) _
    refine XS.bipush X6.here hx rfl (hb hby at_22) ?_
    show Steps p.tables e below (T6.setTop (mkF m 24 #[.val (.int p1), .val (.int p2), .val (.int p3), .val (.int p4), .val (.ref b5), .val (.int (p1 % (64 : Int32))), .val (.int (p2 % (64 : Int32))), .unset, .unset, .unset, .unset, .unset, .unset, .unset] [(.int (64 : Int32)), (.int p3)])) _
    refine iremM X6 hx rfl (hb hby at_24) rfl (by decide) ?_
    show Steps p.tables e below (T6.setTop (mkF m 25 #[.val (.int p1), .val (.int p2), .val (.int p3), .val (.int p4), .val (.ref b5), .val (.int (p1 % (64 : Int32))), .val (.int (p2 % (64 : Int32))), .unset, .unset, .unset, .unset, .unset, .unset, .unset] [(.int (p3 % (64 : Int32)))])) _
    refine XS.istore X6.here hx rfl (hb hby at_25) rfl (l' := #[.val (.int p1), .val (.int p2), .val (.int p3), .val (.int p4), .val (.ref b5), .val (.int (p1 % (64 : Int32))), .val (.int (p2 % (64 : Int32))), .val (.int (p3 % (64 : Int32))), .unset, .unset, .unset, .unset, .unset, .unset]) rfl ?_
    show Steps p.tables e below (T6.setTop (mkF m 27 #[.val (.int p1), .val (.int p2), .val (.int p3), .val (.int p4), .val (.ref b5), .val (.int (p1 % (64 : Int32))), .val (.int (p2 % (64 : Int32))), .val (.int (p3 % (64 : Int32))), .unset, .unset, .unset, .unset, .unset, .unset] [])) _
    refine XS.iloadN X6.here hx rfl (hb hby at_27) rfl ?_
    show Steps p.tables e below (T6.setTop (mkF m 28 #[.val (.int p1), .val (.int p2), .val (.int p3), .val (.int p4), .val (.ref b5), .val (.int (p1 % (64 : Int32))), .val (.int (p2 % (64 : Int32))), .val (.int (p3 % (64 : Int32))), .unset, .unset, .unset, .unset, .unset, .unset] [(.int p4)])) _
    refine XS.sipush X6.here hx rfl (hb hby at_28) ?_
    show Steps p.tables e below (T6.setTop (mkF m 31 #[.val (.int p1), .val (.int p2), .val (.int p3), .val (.int p4), .val (.ref b5), .val (.int (p1 % (64 : Int32))), .val (.int (p2 % (64 : Int32))), .val (.int (p3 % (64 : Int32))), .unset, .unset, .unset, .unset, .unset, .unset] [(.int (1000 : Int32)), (.int p4)])) _
    refine iremM X6 hx rfl (hb hby at_31) rfl (by decide) ?_
    show Steps p.tables e below (T6.setTop (mkF m 32 #[.val (.int p1), .val (.int p2), .val (.int p3), .val (.int p4), .val (.ref b5), .val (.int (p1 % (64 : Int32))), .val (.int (p2 % (64 : Int32))), .val (.int (p3 % (64 : Int32))), .unset, .unset, .unset, .unset, .unset, .unset] [(.int (p4 % (1000 : Int32)))])) _
    refine XS.i2dS X6.here hx rfl (hb hby at_32) rfl rfl ?_
    show Steps p.tables e below (T6.setTop (mkF m 33 #[.val (.int p1), .val (.int p2), .val (.int p3), .val (.int p4), .val (.ref b5), .val (.int (p1 % (64 : Int32))), .val (.int (p2 % (64 : Int32))), .val (.int (p3 % (64 : Int32))), .unset, .unset, .unset, .unset, .unset, .unset] [(.double (FP.i2d (p4 % (1000 : Int32))))])) _
    refine XS.dstore X6.here hx rfl (hb hby at_33) rfl (l' := #[.val (.int p1), .val (.int p2), .val (.int p3), .val (.int p4), .val (.ref b5), .val (.int (p1 % (64 : Int32))), .val (.int (p2 % (64 : Int32))), .val (.int (p3 % (64 : Int32))), .val (.double (FP.i2d (p4 % (1000 : Int32)))), .second, .unset, .unset, .unset, .unset]) rfl ?_
    show Steps p.tables e below (T6.setTop (mkF m 35 #[.val (.int p1), .val (.int p2), .val (.int p3), .val (.int p4), .val (.ref b5), .val (.int (p1 % (64 : Int32))), .val (.int (p2 % (64 : Int32))), .val (.int (p3 % (64 : Int32))), .val (.double (FP.i2d (p4 % (1000 : Int32)))), .second, .unset, .unset, .unset, .unset] [])) _
    refine XS.aload X6.here hx rfl (hb hby at_35) rfl rfl ?_
    show Steps p.tables e below (T6.setTop (mkF m 37 #[.val (.int p1), .val (.int p2), .val (.int p3), .val (.int p4), .val (.ref b5), .val (.int (p1 % (64 : Int32))), .val (.int (p2 % (64 : Int32))), .val (.int (p3 % (64 : Int32))), .val (.double (FP.i2d (p4 % (1000 : Int32)))), .second, .unset, .unset, .unset, .unset] [(.ref b5)])) _
    refine XS.iload X6.here hx rfl (hb hby at_37) rfl ?_
    show Steps p.tables e below (T6.setTop (mkF m 39 #[.val (.int p1), .val (.int p2), .val (.int p3), .val (.int p4), .val (.ref b5), .val (.int (p1 % (64 : Int32))), .val (.int (p2 % (64 : Int32))), .val (.int (p3 % (64 : Int32))), .val (.double (FP.i2d (p4 % (1000 : Int32)))), .second, .unset, .unset, .unset, .unset] [(.int (p1 % (64 : Int32))), (.ref b5)])) _
    refine st7.trans ?_
    show Steps p.tables e below (T7.setTop (mkF m 42 #[.val (.int p1), .val (.int p2), .val (.int p3), .val (.int p4), .val (.ref b5), .val (.int (p1 % (64 : Int32))), .val (.int (p2 % (64 : Int32))), .val (.int (p3 % (64 : Int32))), .val (.double (FP.i2d (p4 % (1000 : Int32)))), .second, .unset, .unset, .unset, .unset] [(.ref b6)])) _
    refine XS.astore X7.here hx rfl (hb hby at_42) rfl rfl (l' := #[.val (.int p1), .val (.int p2), .val (.int p3), .val (.int p4), .val (.ref b5), .val (.int (p1 % (64 : Int32))), .val (.int (p2 % (64 : Int32))), .val (.int (p3 % (64 : Int32))), .val (.double (FP.i2d (p4 % (1000 : Int32)))), .second, .val (.ref b6), .unset, .unset, .unset]) rfl ?_
    show Steps p.tables e below (T7.setTop (mkF m 44 #[.val (.int p1), .val (.int p2), .val (.int p3), .val (.int p4), .val (.ref b5), .val (.int (p1 % (64 : Int32))), .val (.int (p2 % (64 : Int32))), .val (.int (p3 % (64 : Int32))), .val (.double (FP.i2d (p4 % (1000 : Int32)))), .second, .val (.ref b6), .unset, .unset, .unset] [])) _
    refine XS.aload X7.here hx rfl (hb hby at_44) rfl rfl ?_
    show Steps p.tables e below (T7.setTop (mkF m 46 #[.val (.int p1), .val (.int p2), .val (.int p3), .val (.int p4), .val (.ref b5), .val (.int (p1 % (64 : Int32))), .val (.int (p2 % (64 : Int32))), .val (.int (p3 % (64 : Int32))), .val (.double (FP.i2d (p4 % (1000 : Int32)))), .second, .val (.ref b6), .unset, .unset, .unset] [(.ref b6)])) _
    refine XS.ifnonnullYes X7.here hx rfl (pc0 := 46) (pc' := 51) rfl (hb hby at_46) rfl (by decide) (by decide) ?_
    show Steps p.tables e below (T7.setTop (mkF m 51 #[.val (.int p1), .val (.int p2), .val (.int p3), .val (.int p4), .val (.ref b5), .val (.int (p1 % (64 : Int32))), .val (.int (p2 % (64 : Int32))), .val (.int (p3 % (64 : Int32))), .val (.double (FP.i2d (p4 % (1000 : Int32)))), .second, .val (.ref b6), .unset, .unset, .unset] [])) _
    refine XS.aload X7.here hx rfl (hb hby at_51) rfl rfl ?_
    show Steps p.tables e below (T7.setTop (mkF m 53 #[.val (.int p1), .val (.int p2), .val (.int p3), .val (.int p4), .val (.ref b5), .val (.int (p1 % (64 : Int32))), .val (.int (p2 % (64 : Int32))), .val (.int (p3 % (64 : Int32))), .val (.double (FP.i2d (p4 % (1000 : Int32)))), .second, .val (.ref b6), .unset, .unset, .unset] [(.ref b6)])) _
    refine X7.arraylength hx (by rw [e7]; exact Ar_b6_53.1) (State.isArrayOf_alike hZ.alike Ar_b6_53.2.1) (g := (mkF m 53 #[.val (.int p1), .val (.int p2), .val (.int p3), .val (.int p4), .val (.ref b5), .val (.int (p1 % (64 : Int32))), .val (.int (p2 % (64 : Int32))), .val (.int (p3 % (64 : Int32))), .val (.double (FP.i2d (p4 % (1000 : Int32)))), .second, .val (.ref b6), .unset, .unset, .unset] [(.ref b6)])) rfl rfl (hb hby at_53) _ ?_
    rw [len_of S_b6_53 N_b6_53]
    show Steps p.tables e below (T7.setTop (mkF m 54 #[.val (.int p1), .val (.int p2), .val (.int p3), .val (.int p4), .val (.ref b5), .val (.int (p1 % (64 : Int32))), .val (.int (p2 % (64 : Int32))), .val (.int (p3 % (64 : Int32))), .val (.double (FP.i2d (p4 % (1000 : Int32)))), .second, .val (.ref b6), .unset, .unset, .unset] [(.int (0 : Int32))])) _
    refine XS.iload X7.here hx rfl (hb hby at_54) rfl ?_
    show Steps p.tables e below (T7.setTop (mkF m 56 #[.val (.int p1), .val (.int p2), .val (.int p3), .val (.int p4), .val (.ref b5), .val (.int (p1 % (64 : Int32))), .val (.int (p2 % (64 : Int32))), .val (.int (p3 % (64 : Int32))), .val (.double (FP.i2d (p4 % (1000 : Int32)))), .second, .val (.ref b6), .unset, .unset, .unset] [(.int (p1 % (64 : Int32))), (.int (0 : Int32))])) _
    refine XS.icmpNo X7.here hx rfl (hb hby at_56) rfl (flt hc56).1 ?_
    show Steps p.tables e below (T7.setTop (mkF m 59 #[.val (.int p1), .val (.int p2), .val (.int p3), .val (.int p4), .val (.ref b5), .val (.int (p1 % (64 : Int32))), .val (.int (p2 % (64 : Int32))), .val (.int (p3 % (64 : Int32))), .val (.double (FP.i2d (p4 % (1000 : Int32)))), .second, .val (.ref b6), .unset, .unset, .unset] [])) _
    refine XS.iconst X7.here hx rfl (hb hby at_59) ?_
    show Steps p.tables e below (T7.setTop (mkF m 60 #[.val (.int p1), .val (.int p2), .val (.int p3), .val (.int p4), .val (.ref b5), .val (.int (p1 % (64 : Int32))), .val (.int (p2 % (64 : Int32))), .val (.int (p3 % (64 : Int32))), .val (.double (FP.i2d (p4 % (1000 : Int32)))), .second, .val (.ref b6), .unset, .unset, .unset] [(.int (1 : Int32))])) _
    refine XS.goto X7.here hx rfl (pc0 := 60) (pc' := 64) rfl (hb hby at_60) (by decide) (by decide) ?_
    show Steps p.tables e below (T7.setTop (mkF m 64 #[.val (.int p1), .val (.int p2), .val (.int p3), .val (.int p4), .val (.ref b5), .val (.int (p1 % (64 : Int32))), .val (.int (p2 % (64 : Int32))), .val (.int (p3 % (64 : Int32))), .val (.double (FP.i2d (p4 % (1000 : Int32)))), .second, .val (.ref b6), .unset, .unset, .unset] [(.int (1 : Int32))])) _
    refine XS.istore X7.here hx rfl (hb hby at_64) rfl (l' := #[.val (.int p1), .val (.int p2), .val (.int p3), .val (.int p4), .val (.ref b5), .val (.int (p1 % (64 : Int32))), .val (.int (p2 % (64 : Int32))), .val (.int (p3 % (64 : Int32))), .val (.double (FP.i2d (p4 % (1000 : Int32)))), .second, .val (.ref b6), .val (.int (1 : Int32)), .unset, .unset]) rfl ?_
    show Steps p.tables e below (T7.setTop (mkF m 66 #[.val (.int p1), .val (.int p2), .val (.int p3), .val (.int p4), .val (.ref b5), .val (.int (p1 % (64 : Int32))), .val (.int (p2 % (64 : Int32))), .val (.int (p3 % (64 : Int32))), .val (.double (FP.i2d (p4 % (1000 : Int32)))), .second, .val (.ref b6), .val (.int (1 : Int32)), .unset, .unset] [])) _
    refine XS.aload X7.here hx rfl (hb hby at_66) rfl rfl ?_
    show Steps p.tables e below (T7.setTop (mkF m 68 #[.val (.int p1), .val (.int p2), .val (.int p3), .val (.int p4), .val (.ref b5), .val (.int (p1 % (64 : Int32))), .val (.int (p2 % (64 : Int32))), .val (.int (p3 % (64 : Int32))), .val (.double (FP.i2d (p4 % (1000 : Int32)))), .second, .val (.ref b6), .val (.int (1 : Int32)), .unset, .unset] [(.ref b6)])) _
    refine X7.arraylength hx (by rw [e7]; exact Ar_b6_68.1) (State.isArrayOf_alike hZ.alike Ar_b6_68.2.1) (g := (mkF m 68 #[.val (.int p1), .val (.int p2), .val (.int p3), .val (.int p4), .val (.ref b5), .val (.int (p1 % (64 : Int32))), .val (.int (p2 % (64 : Int32))), .val (.int (p3 % (64 : Int32))), .val (.double (FP.i2d (p4 % (1000 : Int32)))), .second, .val (.ref b6), .val (.int (1 : Int32)), .unset, .unset] [(.ref b6)])) rfl rfl (hb hby at_68) _ ?_
    rw [len_of S_b6_68 N_b6_68]
    show Steps p.tables e below (T7.setTop (mkF m 69 #[.val (.int p1), .val (.int p2), .val (.int p3), .val (.int p4), .val (.ref b5), .val (.int (p1 % (64 : Int32))), .val (.int (p2 % (64 : Int32))), .val (.int (p3 % (64 : Int32))), .val (.double (FP.i2d (p4 % (1000 : Int32)))), .second, .val (.ref b6), .val (.int (1 : Int32)), .unset, .unset] [(.int (0 : Int32))])) _
    refine XS.ifYes X7.here hx rfl (pc0 := 69) (pc' := 82) rfl (hb hby at_69) rfl ((if0 _ _).trans (flt hc69).2.2.2) (by decide) (by decide) ?_
    show Steps p.tables e below (T7.setTop (mkF m 82 #[.val (.int p1), .val (.int p2), .val (.int p3), .val (.int p4), .val (.ref b5), .val (.int (p1 % (64 : Int32))), .val (.int (p2 % (64 : Int32))), .val (.int (p3 % (64 : Int32))), .val (.double (FP.i2d (p4 % (1000 : Int32)))), .second, .val (.ref b6), .val (.int (1 : Int32)), .unset, .unset] [])) _
    refine XS.aload X7.here hx rfl (hb hby at_82) rfl rfl ?_
    show Steps p.tables e below (T7.setTop (mkF m 84 #[.val (.int p1), .val (.int p2), .val (.int p3), .val (.int p4), .val (.ref b5), .val (.int (p1 % (64 : Int32))), .val (.int (p2 % (64 : Int32))), .val (.int (p3 % (64 : Int32))), .val (.double (FP.i2d (p4 % (1000 : Int32)))), .second, .val (.ref b6), .val (.int (1 : Int32)), .unset, .unset] [(.ref b5)])) _
    refine XS.iload X7.here hx rfl (hb hby at_84) rfl ?_
    show Steps p.tables e below (T7.setTop (mkF m 86 #[.val (.int p1), .val (.int p2), .val (.int p3), .val (.int p4), .val (.ref b5), .val (.int (p1 % (64 : Int32))), .val (.int (p2 % (64 : Int32))), .val (.int (p3 % (64 : Int32))), .val (.double (FP.i2d (p4 % (1000 : Int32)))), .second, .val (.ref b6), .val (.int (1 : Int32)), .unset, .unset] [(.int (p2 % (64 : Int32))), (.ref b5)])) _
    refine st8.trans ?_
    show Steps p.tables e below (T8.setTop (mkF m 89 #[.val (.int p1), .val (.int p2), .val (.int p3), .val (.int p4), .val (.ref b5), .val (.int (p1 % (64 : Int32))), .val (.int (p2 % (64 : Int32))), .val (.int (p3 % (64 : Int32))), .val (.double (FP.i2d (p4 % (1000 : Int32)))), .second, .val (.ref b6), .val (.int (1 : Int32)), .unset, .unset] [(.ref b8)])) _
    refine XS.astore X8.here hx rfl (hb hby at_89) rfl rfl (l' := #[.val (.int p1), .val (.int p2), .val (.int p3), .val (.int p4), .val (.ref b5), .val (.int (p1 % (64 : Int32))), .val (.int (p2 % (64 : Int32))), .val (.int (p3 % (64 : Int32))), .val (.double (FP.i2d (p4 % (1000 : Int32)))), .second, .val (.ref b6), .val (.int (1 : Int32)), .val (.ref b8), .unset]) rfl ?_
    show Steps p.tables e below (T8.setTop (mkF m 91 #[.val (.int p1), .val (.int p2), .val (.int p3), .val (.int p4), .val (.ref b5), .val (.int (p1 % (64 : Int32))), .val (.int (p2 % (64 : Int32))), .val (.int (p3 % (64 : Int32))), .val (.double (FP.i2d (p4 % (1000 : Int32)))), .second, .val (.ref b6), .val (.int (1 : Int32)), .val (.ref b8), .unset] [])) _
    refine XS.aload X8.here hx rfl (hb hby at_91) rfl rfl ?_
    show Steps p.tables e below (T8.setTop (mkF m 93 #[.val (.int p1), .val (.int p2), .val (.int p3), .val (.int p4), .val (.ref b5), .val (.int (p1 % (64 : Int32))), .val (.int (p2 % (64 : Int32))), .val (.int (p3 % (64 : Int32))), .val (.double (FP.i2d (p4 % (1000 : Int32)))), .second, .val (.ref b6), .val (.int (1 : Int32)), .val (.ref b8), .unset] [(.ref b8)])) _
    refine XS.ifnonnullYes X8.here hx rfl (pc0 := 93) (pc' := 98) rfl (hb hby at_93) rfl (by decide) (by decide) ?_
    show Steps p.tables e below (T8.setTop (mkF m 98 #[.val (.int p1), .val (.int p2), .val (.int p3), .val (.int p4), .val (.ref b5), .val (.int (p1 % (64 : Int32))), .val (.int (p2 % (64 : Int32))), .val (.int (p3 % (64 : Int32))), .val (.double (FP.i2d (p4 % (1000 : Int32)))), .second, .val (.ref b6), .val (.int (1 : Int32)), .val (.ref b8), .unset] [])) _
    refine XS.iload X8.here hx rfl (hb hby at_98) rfl ?_
    show Steps p.tables e below (T8.setTop (mkF m 100 #[.val (.int p1), .val (.int p2), .val (.int p3), .val (.int p4), .val (.ref b5), .val (.int (p1 % (64 : Int32))), .val (.int (p2 % (64 : Int32))), .val (.int (p3 % (64 : Int32))), .val (.double (FP.i2d (p4 % (1000 : Int32)))), .second, .val (.ref b6), .val (.int (1 : Int32)), .val (.ref b8), .unset] [(.int (1 : Int32))])) _
    refine XS.ifNo X8.here hx rfl (hb hby at_100) rfl ((if0 _ _).trans (feq hc100).1) ?_
    show Steps p.tables e below (T8.setTop (mkF m 103 #[.val (.int p1), .val (.int p2), .val (.int p3), .val (.int p4), .val (.ref b5), .val (.int (p1 % (64 : Int32))), .val (.int (p2 % (64 : Int32))), .val (.int (p3 % (64 : Int32))), .val (.double (FP.i2d (p4 % (1000 : Int32)))), .second, .val (.ref b6), .val (.int (1 : Int32)), .val (.ref b8), .unset] [])) _
    refine XS.aload X8.here hx rfl (hb hby at_103) rfl rfl ?_
    show Steps p.tables e below (T8.setTop (mkF m 105 #[.val (.int p1), .val (.int p2), .val (.int p3), .val (.int p4), .val (.ref b5), .val (.int (p1 % (64 : Int32))), .val (.int (p2 % (64 : Int32))), .val (.int (p3 % (64 : Int32))), .val (.double (FP.i2d (p4 % (1000 : Int32)))), .second, .val (.ref b6), .val (.int (1 : Int32)), .val (.ref b8), .unset] [(.ref b8)])) _
    refine X8.arraylength hx (by exact Ar_b8_105.1) (State.isArrayOf_alike hZ.alike Ar_b8_105.2.1) (g := (mkF m 105 #[.val (.int p1), .val (.int p2), .val (.int p3), .val (.int p4), .val (.ref b5), .val (.int (p1 % (64 : Int32))), .val (.int (p2 % (64 : Int32))), .val (.int (p3 % (64 : Int32))), .val (.double (FP.i2d (p4 % (1000 : Int32)))), .second, .val (.ref b6), .val (.int (1 : Int32)), .val (.ref b8), .unset] [(.ref b8)])) rfl rfl (hb hby at_105) _ ?_
    rw [len_of S_b8_105 N_b8_105]
    show Steps p.tables e below (T8.setTop (mkF m 106 #[.val (.int p1), .val (.int p2), .val (.int p3), .val (.int p4), .val (.ref b5), .val (.int (p1 % (64 : Int32))), .val (.int (p2 % (64 : Int32))), .val (.int (p3 % (64 : Int32))), .val (.double (FP.i2d (p4 % (1000 : Int32)))), .second, .val (.ref b6), .val (.int (1 : Int32)), .val (.ref b8), .unset] [(.int (p2 % (64 : Int32)))])) _
    refine XS.iload X8.here hx rfl (hb hby at_106) rfl ?_
    show Steps p.tables e below (T8.setTop (mkF m 108 #[.val (.int p1), .val (.int p2), .val (.int p3), .val (.int p4), .val (.ref b5), .val (.int (p1 % (64 : Int32))), .val (.int (p2 % (64 : Int32))), .val (.int (p3 % (64 : Int32))), .val (.double (FP.i2d (p4 % (1000 : Int32)))), .second, .val (.ref b6), .val (.int (1 : Int32)), .val (.ref b8), .unset] [(.int (p2 % (64 : Int32))), (.int (p2 % (64 : Int32)))])) _
    refine XS.icmpNo X8.here hx rfl (hb hby at_108) rfl (flt hc108).1 ?_
    show Steps p.tables e below (T8.setTop (mkF m 111 #[.val (.int p1), .val (.int p2), .val (.int p3), .val (.int p4), .val (.ref b5), .val (.int (p1 % (64 : Int32))), .val (.int (p2 % (64 : Int32))), .val (.int (p3 % (64 : Int32))), .val (.double (FP.i2d (p4 % (1000 : Int32)))), .second, .val (.ref b6), .val (.int (1 : Int32)), .val (.ref b8), .unset] [])) _
    refine XS.iconst X8.here hx rfl (hb hby at_111) ?_
    show Steps p.tables e below (T8.setTop (mkF m 112 #[.val (.int p1), .val (.int p2), .val (.int p3), .val (.int p4), .val (.ref b5), .val (.int (p1 % (64 : Int32))), .val (.int (p2 % (64 : Int32))), .val (.int (p3 % (64 : Int32))), .val (.double (FP.i2d (p4 % (1000 : Int32)))), .second, .val (.ref b6), .val (.int (1 : Int32)), .val (.ref b8), .unset] [(.int (1 : Int32))])) _
    refine XS.goto X8.here hx rfl (pc0 := 112) (pc' := 116) rfl (hb hby at_112) (by decide) (by decide) ?_
    show Steps p.tables e below (T8.setTop (mkF m 116 #[.val (.int p1), .val (.int p2), .val (.int p3), .val (.int p4), .val (.ref b5), .val (.int (p1 % (64 : Int32))), .val (.int (p2 % (64 : Int32))), .val (.int (p3 % (64 : Int32))), .val (.double (FP.i2d (p4 % (1000 : Int32)))), .second, .val (.ref b6), .val (.int (1 : Int32)), .val (.ref b8), .unset] [(.int (1 : Int32))])) _
    refine XS.istore X8.here hx rfl (hb hby at_116) rfl (l' := #[.val (.int p1), .val (.int p2), .val (.int p3), .val (.int p4), .val (.ref b5), .val (.int (p1 % (64 : Int32))), .val (.int (p2 % (64 : Int32))), .val (.int (p3 % (64 : Int32))), .val (.double (FP.i2d (p4 % (1000 : Int32)))), .second, .val (.ref b6), .val (.int (1 : Int32)), .val (.ref b8), .unset]) rfl ?_
    show Steps p.tables e below (T8.setTop (mkF m 118 #[.val (.int p1), .val (.int p2), .val (.int p3), .val (.int p4), .val (.ref b5), .val (.int (p1 % (64 : Int32))), .val (.int (p2 % (64 : Int32))), .val (.int (p3 % (64 : Int32))), .val (.double (FP.i2d (p4 % (1000 : Int32)))), .second, .val (.ref b6), .val (.int (1 : Int32)), .val (.ref b8), .unset] [])) _
    refine XS.iload X8.here hx rfl (hb hby at_118) rfl ?_
    show Steps p.tables e below (T8.setTop (mkF m 120 #[.val (.int p1), .val (.int p2), .val (.int p3), .val (.int p4), .val (.ref b5), .val (.int (p1 % (64 : Int32))), .val (.int (p2 % (64 : Int32))), .val (.int (p3 % (64 : Int32))), .val (.double (FP.i2d (p4 % (1000 : Int32)))), .second, .val (.ref b6), .val (.int (1 : Int32)), .val (.ref b8), .unset] [(.int (p2 % (64 : Int32)))])) _
    refine XS.aload X8.here hx rfl (hb hby at_120) rfl rfl ?_
    show Steps p.tables e below (T8.setTop (mkF m 122 #[.val (.int p1), .val (.int p2), .val (.int p3), .val (.int p4), .val (.ref b5), .val (.int (p1 % (64 : Int32))), .val (.int (p2 % (64 : Int32))), .val (.int (p3 % (64 : Int32))), .val (.double (FP.i2d (p4 % (1000 : Int32)))), .second, .val (.ref b6), .val (.int (1 : Int32)), .val (.ref b8), .unset] [(.ref b6), (.int (p2 % (64 : Int32)))])) _
    refine X8.arraylength hx (by exact Ar_b6_122.1) (State.isArrayOf_alike hZ.alike Ar_b6_122.2.1) (g := (mkF m 122 #[.val (.int p1), .val (.int p2), .val (.int p3), .val (.int p4), .val (.ref b5), .val (.int (p1 % (64 : Int32))), .val (.int (p2 % (64 : Int32))), .val (.int (p3 % (64 : Int32))), .val (.double (FP.i2d (p4 % (1000 : Int32)))), .second, .val (.ref b6), .val (.int (1 : Int32)), .val (.ref b8), .unset] [(.ref b6), (.int (p2 % (64 : Int32)))])) rfl rfl (hb hby at_122) _ ?_
    rw [len_of S_b6_122 N_b6_122]
    show Steps p.tables e below (T8.setTop (mkF m 123 #[.val (.int p1), .val (.int p2), .val (.int p3), .val (.int p4), .val (.ref b5), .val (.int (p1 % (64 : Int32))), .val (.int (p2 % (64 : Int32))), .val (.int (p3 % (64 : Int32))), .val (.double (FP.i2d (p4 % (1000 : Int32)))), .second, .val (.ref b6), .val (.int (1 : Int32)), .val (.ref b8), .unset] [(.int (0 : Int32)), (.int (p2 % (64 : Int32)))])) _
    refine XS.icmpYes X8.here hx rfl (pc0 := 123) (pc' := 165) rfl (hb hby at_123) rfl (tlt hc123).2.2.1 (by decide) (by decide) ?_
    show Steps p.tables e below (T8.setTop (mkF m 165 #[.val (.int p1), .val (.int p2), .val (.int p3), .val (.int p4), .val (.ref b5), .val (.int (p1 % (64 : Int32))), .val (.int (p2 % (64 : Int32))), .val (.int (p3 % (64 : Int32))), .val (.double (FP.i2d (p4 % (1000 : Int32)))), .second, .val (.ref b6), .val (.int (1 : Int32)), .val (.ref b8), .unset] [])) _
    refine XS.aload X8.here hx rfl (hb hby at_165) rfl rfl ?_
    show Steps p.tables e below (T8.setTop (mkF m 167 #[.val (.int p1), .val (.int p2), .val (.int p3), .val (.int p4), .val (.ref b5), .val (.int (p1 % (64 : Int32))), .val (.int (p2 % (64 : Int32))), .val (.int (p3 % (64 : Int32))), .val (.double (FP.i2d (p4 % (1000 : Int32)))), .second, .val (.ref b6), .val (.int (1 : Int32)), .val (.ref b8), .unset] [(.ref b5)])) _
    refine XS.iload X8.here hx rfl (hb hby at_167) rfl ?_
    show Steps p.tables e below (T8.setTop (mkF m 169 #[.val (.int p1), .val (.int p2), .val (.int p3), .val (.int p4), .val (.ref b5), .val (.int (p1 % (64 : Int32))), .val (.int (p2 % (64 : Int32))), .val (.int (p3 % (64 : Int32))), .val (.double (FP.i2d (p4 % (1000 : Int32)))), .second, .val (.ref b6), .val (.int (1 : Int32)), .val (.ref b8), .unset] [(.int (p3 % (64 : Int32))), (.ref b5)])) _
    refine st9.trans ?_
    show Steps p.tables e below (T9.setTop (mkF m 172 #[.val (.int p1), .val (.int p2), .val (.int p3), .val (.int p4), .val (.ref b5), .val (.int (p1 % (64 : Int32))), .val (.int (p2 % (64 : Int32))), .val (.int (p3 % (64 : Int32))), .val (.double (FP.i2d (p4 % (1000 : Int32)))), .second, .val (.ref b6), .val (.int (1 : Int32)), .val (.ref b8), .unset] [(.ref b8)])) _
    refine XS.astore X9.here hx rfl (hb hby at_172) rfl rfl (l' := #[.val (.int p1), .val (.int p2), .val (.int p3), .val (.int p4), .val (.ref b5), .val (.int (p1 % (64 : Int32))), .val (.int (p2 % (64 : Int32))), .val (.int (p3 % (64 : Int32))), .val (.double (FP.i2d (p4 % (1000 : Int32)))), .second, .val (.ref b6), .val (.int (1 : Int32)), .val (.ref b8), .val (.ref b8)]) rfl ?_
    show Steps p.tables e below (T9.setTop (mkF m 174 #[.val (.int p1), .val (.int p2), .val (.int p3), .val (.int p4), .val (.ref b5), .val (.int (p1 % (64 : Int32))), .val (.int (p2 % (64 : Int32))), .val (.int (p3 % (64 : Int32))), .val (.double (FP.i2d (p4 % (1000 : Int32)))), .second, .val (.ref b6), .val (.int (1 : Int32)), .val (.ref b8), .val (.ref b8)] [])) _
    refine XS.aload X9.here hx rfl (hb hby at_174) rfl rfl ?_
    show Steps p.tables e below (T9.setTop (mkF m 176 #[.val (.int p1), .val (.int p2), .val (.int p3), .val (.int p4), .val (.ref b5), .val (.int (p1 % (64 : Int32))), .val (.int (p2 % (64 : Int32))), .val (.int (p3 % (64 : Int32))), .val (.double (FP.i2d (p4 % (1000 : Int32)))), .second, .val (.ref b6), .val (.int (1 : Int32)), .val (.ref b8), .val (.ref b8)] [(.ref b8)])) _
    refine XS.ifnonnullYes X9.here hx rfl (pc0 := 176) (pc' := 181) rfl (hb hby at_176) rfl (by decide) (by decide) ?_
    show Steps p.tables e below (T9.setTop (mkF m 181 #[.val (.int p1), .val (.int p2), .val (.int p3), .val (.int p4), .val (.ref b5), .val (.int (p1 % (64 : Int32))), .val (.int (p2 % (64 : Int32))), .val (.int (p3 % (64 : Int32))), .val (.double (FP.i2d (p4 % (1000 : Int32)))), .second, .val (.ref b6), .val (.int (1 : Int32)), .val (.ref b8), .val (.ref b8)] [])) _
    refine XS.iload X9.here hx rfl (hb hby at_181) rfl ?_
    show Steps p.tables e below (T9.setTop (mkF m 183 #[.val (.int p1), .val (.int p2), .val (.int p3), .val (.int p4), .val (.ref b5), .val (.int (p1 % (64 : Int32))), .val (.int (p2 % (64 : Int32))), .val (.int (p3 % (64 : Int32))), .val (.double (FP.i2d (p4 % (1000 : Int32)))), .second, .val (.ref b6), .val (.int (1 : Int32)), .val (.ref b8), .val (.ref b8)] [(.int (1 : Int32))])) _
    refine XS.ifNo X9.here hx rfl (hb hby at_183) rfl ((if0 _ _).trans (feq hc183).1) ?_
    show Steps p.tables e below (T9.setTop (mkF m 186 #[.val (.int p1), .val (.int p2), .val (.int p3), .val (.int p4), .val (.ref b5), .val (.int (p1 % (64 : Int32))), .val (.int (p2 % (64 : Int32))), .val (.int (p3 % (64 : Int32))), .val (.double (FP.i2d (p4 % (1000 : Int32)))), .second, .val (.ref b6), .val (.int (1 : Int32)), .val (.ref b8), .val (.ref b8)] [])) _
    refine XS.aload X9.here hx rfl (hb hby at_186) rfl rfl ?_
    show Steps p.tables e below (T9.setTop (mkF m 188 #[.val (.int p1), .val (.int p2), .val (.int p3), .val (.int p4), .val (.ref b5), .val (.int (p1 % (64 : Int32))), .val (.int (p2 % (64 : Int32))), .val (.int (p3 % (64 : Int32))), .val (.double (FP.i2d (p4 % (1000 : Int32)))), .second, .val (.ref b6), .val (.int (1 : Int32)), .val (.ref b8), .val (.ref b8)] [(.ref b8)])) _
    refine X9.arraylength hx (by rw [e9]; exact Ar_b8_188.1) (State.isArrayOf_alike hZ.alike Ar_b8_188.2.1) (g := (mkF m 188 #[.val (.int p1), .val (.int p2), .val (.int p3), .val (.int p4), .val (.ref b5), .val (.int (p1 % (64 : Int32))), .val (.int (p2 % (64 : Int32))), .val (.int (p3 % (64 : Int32))), .val (.double (FP.i2d (p4 % (1000 : Int32)))), .second, .val (.ref b6), .val (.int (1 : Int32)), .val (.ref b8), .val (.ref b8)] [(.ref b8)])) rfl rfl (hb hby at_188) _ ?_
    rw [len_of S_b8_188 N_b8_188]
    show Steps p.tables e below (T9.setTop (mkF m 189 #[.val (.int p1), .val (.int p2), .val (.int p3), .val (.int p4), .val (.ref b5), .val (.int (p1 % (64 : Int32))), .val (.int (p2 % (64 : Int32))), .val (.int (p3 % (64 : Int32))), .val (.double (FP.i2d (p4 % (1000 : Int32)))), .second, .val (.ref b6), .val (.int (1 : Int32)), .val (.ref b8), .val (.ref b8)] [(.int (p2 % (64 : Int32)))])) _
    refine XS.iload X9.here hx rfl (hb hby at_189) rfl ?_
    show Steps p.tables e below (T9.setTop (mkF m 191 #[.val (.int p1), .val (.int p2), .val (.int p3), .val (.int p4), .val (.ref b5), .val (.int (p1 % (64 : Int32))), .val (.int (p2 % (64 : Int32))), .val (.int (p3 % (64 : Int32))), .val (.double (FP.i2d (p4 % (1000 : Int32)))), .second, .val (.ref b6), .val (.int (1 : Int32)), .val (.ref b8), .val (.ref b8)] [(.int (p3 % (64 : Int32))), (.int (p2 % (64 : Int32)))])) _
    refine XS.icmpNo X9.here hx rfl (hb hby at_191) rfl (flt hc191).1 ?_
    show Steps p.tables e below (T9.setTop (mkF m 194 #[.val (.int p1), .val (.int p2), .val (.int p3), .val (.int p4), .val (.ref b5), .val (.int (p1 % (64 : Int32))), .val (.int (p2 % (64 : Int32))), .val (.int (p3 % (64 : Int32))), .val (.double (FP.i2d (p4 % (1000 : Int32)))), .second, .val (.ref b6), .val (.int (1 : Int32)), .val (.ref b8), .val (.ref b8)] [])) _
    refine XS.iconst X9.here hx rfl (hb hby at_194) ?_
    show Steps p.tables e below (T9.setTop (mkF m 195 #[.val (.int p1), .val (.int p2), .val (.int p3), .val (.int p4), .val (.ref b5), .val (.int (p1 % (64 : Int32))), .val (.int (p2 % (64 : Int32))), .val (.int (p3 % (64 : Int32))), .val (.double (FP.i2d (p4 % (1000 : Int32)))), .second, .val (.ref b6), .val (.int (1 : Int32)), .val (.ref b8), .val (.ref b8)] [(.int (1 : Int32))])) _
    refine XS.goto X9.here hx rfl (pc0 := 195) (pc' := 199) rfl (hb hby at_195) (by decide) (by decide) ?_
    show Steps p.tables e below (T9.setTop (mkF m 199 #[.val (.int p1), .val (.int p2), .val (.int p3), .val (.int p4), .val (.ref b5), .val (.int (p1 % (64 : Int32))), .val (.int (p2 % (64 : Int32))), .val (.int (p3 % (64 : Int32))), .val (.double (FP.i2d (p4 % (1000 : Int32)))), .second, .val (.ref b6), .val (.int (1 : Int32)), .val (.ref b8), .val (.ref b8)] [(.int (1 : Int32))])) _
    refine XS.istore X9.here hx rfl (hb hby at_199) rfl (l' := #[.val (.int p1), .val (.int p2), .val (.int p3), .val (.int p4), .val (.ref b5), .val (.int (p1 % (64 : Int32))), .val (.int (p2 % (64 : Int32))), .val (.int (p3 % (64 : Int32))), .val (.double (FP.i2d (p4 % (1000 : Int32)))), .second, .val (.ref b6), .val (.int (1 : Int32)), .val (.ref b8), .val (.ref b8)]) rfl ?_
    show Steps p.tables e below (T9.setTop (mkF m 201 #[.val (.int p1), .val (.int p2), .val (.int p3), .val (.int p4), .val (.ref b5), .val (.int (p1 % (64 : Int32))), .val (.int (p2 % (64 : Int32))), .val (.int (p3 % (64 : Int32))), .val (.double (FP.i2d (p4 % (1000 : Int32)))), .second, .val (.ref b6), .val (.int (1 : Int32)), .val (.ref b8), .val (.ref b8)] [])) _
    refine XS.iload X9.here hx rfl (hb hby at_201) rfl ?_
    show Steps p.tables e below (T9.setTop (mkF m 203 #[.val (.int p1), .val (.int p2), .val (.int p3), .val (.int p4), .val (.ref b5), .val (.int (p1 % (64 : Int32))), .val (.int (p2 % (64 : Int32))), .val (.int (p3 % (64 : Int32))), .val (.double (FP.i2d (p4 % (1000 : Int32)))), .second, .val (.ref b6), .val (.int (1 : Int32)), .val (.ref b8), .val (.ref b8)] [(.int (p3 % (64 : Int32)))])) _
    refine XS.aload X9.here hx rfl (hb hby at_203) rfl rfl ?_
    show Steps p.tables e below (T9.setTop (mkF m 205 #[.val (.int p1), .val (.int p2), .val (.int p3), .val (.int p4), .val (.ref b5), .val (.int (p1 % (64 : Int32))), .val (.int (p2 % (64 : Int32))), .val (.int (p3 % (64 : Int32))), .val (.double (FP.i2d (p4 % (1000 : Int32)))), .second, .val (.ref b6), .val (.int (1 : Int32)), .val (.ref b8), .val (.ref b8)] [(.ref b8), (.int (p3 % (64 : Int32)))])) _
    refine X9.arraylength hx (by rw [e9]; exact Ar_b8_205.1) (State.isArrayOf_alike hZ.alike Ar_b8_205.2.1) (g := (mkF m 205 #[.val (.int p1), .val (.int p2), .val (.int p3), .val (.int p4), .val (.ref b5), .val (.int (p1 % (64 : Int32))), .val (.int (p2 % (64 : Int32))), .val (.int (p3 % (64 : Int32))), .val (.double (FP.i2d (p4 % (1000 : Int32)))), .second, .val (.ref b6), .val (.int (1 : Int32)), .val (.ref b8), .val (.ref b8)] [(.ref b8), (.int (p3 % (64 : Int32)))])) rfl rfl (hb hby at_205) _ ?_
    rw [len_of S_b8_205 N_b8_205]
    show Steps p.tables e below (T9.setTop (mkF m 206 #[.val (.int p1), .val (.int p2), .val (.int p3), .val (.int p4), .val (.ref b5), .val (.int (p1 % (64 : Int32))), .val (.int (p2 % (64 : Int32))), .val (.int (p3 % (64 : Int32))), .val (.double (FP.i2d (p4 % (1000 : Int32)))), .second, .val (.ref b6), .val (.int (1 : Int32)), .val (.ref b8), .val (.ref b8)] [(.int (p2 % (64 : Int32))), (.int (p3 % (64 : Int32)))])) _
    refine XS.icmpNo X9.here hx rfl (hb hby at_206) rfl (flt hc206).2.2.1 ?_
    show Steps p.tables e below (T9.setTop (mkF m 209 #[.val (.int p1), .val (.int p2), .val (.int p3), .val (.int p4), .val (.ref b5), .val (.int (p1 % (64 : Int32))), .val (.int (p2 % (64 : Int32))), .val (.int (p3 % (64 : Int32))), .val (.double (FP.i2d (p4 % (1000 : Int32)))), .second, .val (.ref b6), .val (.int (1 : Int32)), .val (.ref b8), .val (.ref b8)] [])) _
    refine XS.iload X9.here hx rfl (hb hby at_209) rfl ?_
    show Steps p.tables e below (T9.setTop (mkF m 211 #[.val (.int p1), .val (.int p2), .val (.int p3), .val (.int p4), .val (.ref b5), .val (.int (p1 % (64 : Int32))), .val (.int (p2 % (64 : Int32))), .val (.int (p3 % (64 : Int32))), .val (.double (FP.i2d (p4 % (1000 : Int32)))), .second, .val (.ref b6), .val (.int (1 : Int32)), .val (.ref b8), .val (.ref b8)] [(.int (1 : Int32))])) _
    refine XS.ifNo X9.here hx rfl (hb hby at_211) rfl ((if0 _ _).trans (feq hc211).1) ?_
    show Steps p.tables e below (T9.setTop (mkF m 214 #[.val (.int p1), .val (.int p2), .val (.int p3), .val (.int p4), .val (.ref b5), .val (.int (p1 % (64 : Int32))), .val (.int (p2 % (64 : Int32))), .val (.int (p3 % (64 : Int32))), .val (.double (FP.i2d (p4 % (1000 : Int32)))), .second, .val (.ref b6), .val (.int (1 : Int32)), .val (.ref b8), .val (.ref b8)] [])) _
    refine XS.aload X9.here hx rfl (hb hby at_214) rfl rfl ?_
    show Steps p.tables e below (T9.setTop (mkF m 216 #[.val (.int p1), .val (.int p2), .val (.int p3), .val (.int p4), .val (.ref b5), .val (.int (p1 % (64 : Int32))), .val (.int (p2 % (64 : Int32))), .val (.int (p3 % (64 : Int32))), .val (.double (FP.i2d (p4 % (1000 : Int32)))), .second, .val (.ref b6), .val (.int (1 : Int32)), .val (.ref b8), .val (.ref b8)] [(.ref b8)])) _
    refine XS.aload X9.here hx rfl (hb hby at_216) rfl rfl ?_
    show Steps p.tables e below (T9.setTop (mkF m 218 #[.val (.int p1), .val (.int p2), .val (.int p3), .val (.int p4), .val (.ref b5), .val (.int (p1 % (64 : Int32))), .val (.int (p2 % (64 : Int32))), .val (.int (p3 % (64 : Int32))), .val (.double (FP.i2d (p4 % (1000 : Int32)))), .second, .val (.ref b6), .val (.int (1 : Int32)), .val (.ref b8), .val (.ref b8)] [(.ref b8), (.ref b8)])) _
    refine Jvm.RoadKit.acmp (g := (mkF m 218 #[.val (.int p1), .val (.int p2), .val (.int p3), .val (.int p4), .val (.ref b5), .val (.int (p1 % (64 : Int32))), .val (.int (p2 % (64 : Int32))), .val (.int (p3 % (64 : Int32))), .val (.double (FP.i2d (p4 % (1000 : Int32)))), .second, .val (.ref b6), .val (.int (1 : Int32)), .val (.ref b8), .val (.ref b8)] [(.ref b8), (.ref b8)])) X9 hx rfl rfl rfl (pc0 := 218) (pc' := 221) (same := true) rfl (hb hby at_218) rfl (decide_eq_true rfl) (by decide) (by decide) ?_
    show Steps p.tables e below (T9.setTop (mkF m 221 #[.val (.int p1), .val (.int p2), .val (.int p3), .val (.int p4), .val (.ref b5), .val (.int (p1 % (64 : Int32))), .val (.int (p2 % (64 : Int32))), .val (.int (p3 % (64 : Int32))), .val (.double (FP.i2d (p4 % (1000 : Int32)))), .second, .val (.ref b6), .val (.int (1 : Int32)), .val (.ref b8), .val (.ref b8)] [])) _
    refine XS.iconst X9.here hx rfl (hb hby at_221) ?_
    show Steps p.tables e below (T9.setTop (mkF m 222 #[.val (.int p1), .val (.int p2), .val (.int p3), .val (.int p4), .val (.ref b5), .val (.int (p1 % (64 : Int32))), .val (.int (p2 % (64 : Int32))), .val (.int (p3 % (64 : Int32))), .val (.double (FP.i2d (p4 % (1000 : Int32)))), .second, .val (.ref b6), .val (.int (1 : Int32)), .val (.ref b8), .val (.ref b8)] [(.int (1 : Int32))])) _
    refine XS.goto X9.here hx rfl (pc0 := 222) (pc' := 226) rfl (hb hby at_222) (by decide) (by decide) ?_
    show Steps p.tables e below (T9.setTop (mkF m 226 #[.val (.int p1), .val (.int p2), .val (.int p3), .val (.int p4), .val (.ref b5), .val (.int (p1 % (64 : Int32))), .val (.int (p2 % (64 : Int32))), .val (.int (p3 % (64 : Int32))), .val (.double (FP.i2d (p4 % (1000 : Int32)))), .second, .val (.ref b6), .val (.int (1 : Int32)), .val (.ref b8), .val (.ref b8)] [(.int (1 : Int32))])) _
    refine XS.istore X9.here hx rfl (hb hby at_226) rfl (l' := #[.val (.int p1), .val (.int p2), .val (.int p3), .val (.int p4), .val (.ref b5), .val (.int (p1 % (64 : Int32))), .val (.int (p2 % (64 : Int32))), .val (.int (p3 % (64 : Int32))), .val (.double (FP.i2d (p4 % (1000 : Int32)))), .second, .val (.ref b6), .val (.int (1 : Int32)), .val (.ref b8), .val (.ref b8)]) rfl ?_
    show Steps p.tables e below (T9.setTop (mkF m 228 #[.val (.int p1), .val (.int p2), .val (.int p3), .val (.int p4), .val (.ref b5), .val (.int (p1 % (64 : Int32))), .val (.int (p2 % (64 : Int32))), .val (.int (p3 % (64 : Int32))), .val (.double (FP.i2d (p4 % (1000 : Int32)))), .second, .val (.ref b6), .val (.int (1 : Int32)), .val (.ref b8), .val (.ref b8)] [])) _
    refine XS.iload X9.here hx rfl (hb hby at_228) rfl ?_
    show Steps p.tables e below (T9.setTop (mkF m 230 #[.val (.int p1), .val (.int p2), .val (.int p3), .val (.int p4), .val (.ref b5), .val (.int (p1 % (64 : Int32))), .val (.int (p2 % (64 : Int32))), .val (.int (p3 % (64 : Int32))), .val (.double (FP.i2d (p4 % (1000 : Int32)))), .second, .val (.ref b6), .val (.int (1 : Int32)), .val (.ref b8), .val (.ref b8)] [(.int (1 : Int32))])) _
    exact retN X9 hx (t := .boolean) Bd.returns (by simp) (hb hby at_230) hr
  · show Q0 Z p1 p2 p3 p4 h0 n0 _ T9.heap _
    rw [e9]
    exact ⟨rfl, N9⟩
set_option maxRecDepth 65536 in
set_option maxHeartbeats 40000000 in
theorem rm0_001 (l : Launch) (Z : State) (a0 : Array Value) (hw : ∀ d ∈ tables_1, d.before a0 Z = true) (ws : List Jvm.Cond) (p1 : Int32) (p2 : Int32) (p3 : Int32) (p4 : Int32) (h0 : Heap) (n0 : Nat) (Z0 : n0 ≤ h0.size) (ho39 : ¬ ((0 : Int32) < (p1 % (64 : Int32)))) (ho86 : ¬ ((0 : Int32) < (p2 % (64 : Int32)))) (ho169 : (0 : Int32) < (p3 % (64 : Int32))) (hc56 : ¬ ((0 : Int32) < (p1 % (64 : Int32)))) (hc69 : ¬ ((0 : Int32) < (0 : Int32))) (hc100 : ¬ ((1 : Int32) = (0 : Int32))) (hc108 : ¬ ((0 : Int32) < (p2 % (64 : Int32)))) (hc123 : ¬ ((0 : Int32) < (p2 % (64 : Int32)))) (hc128 : ¬ ((1 : Int32) = (0 : Int32))) (hc183 : ¬ ((1 : Int32) = (0 : Int32))) (hc191 : ¬ ((p3 % (64 : Int32)) < (p3 % (64 : Int32)))) (hc206 : (0 : Int32) < (p3 % (64 : Int32))) :
    MetFree l x (head1 (Jvm.Cond.code x code maxLocals ret :: ws) room_1) (fun a U => a = #[(.int p1), (.int p2), (.int p3), (.int p4)] ∧ Z.Warmed39 U.vm ∧ U.heap = h0) (fun _ _ _ _ _ => True) (fun _ U o U' => ∃ v L, o = .returned v ∧ Q0 Z p1 p2 p3 p4 h0 n0 v U'.heap L ∧ FrameEnd U o U' L room_1.cells room_1.slots) := by
  refine MetFree.of_bodySF (plainFor_of_name pn_0) hisR ?_
  intro p e s m args below meth c s₁ Bd hml0 hP hK
  obtain ⟨rfl, hZ, hh⟩ := hP
  have hx := Bd.exec
  have hby := Bd.bytes
  have hml : c.maxLocals = 14 := hml0
  have hown : s.vm.findClass "com/example/understory/understory/sim/BufferOfPinLaw" = some m.cls := findClass_of_methodNamed Bd.named
  have hnm := (name_of_methodNamed Bd.named Bd.method).1
  have X0 : Stand p l e room_1 s m #[(.int p1), (.int p2), (.int p3), (.int p4)] below meth c s₁ [] 0 0 := Stand.of_body Bd
  have e0 : s₁.heap = h0 := by rw [← hh, Bd.state]; rfl
  have N0 := Fr.nil n0
  have pre0 : ∀ t, Steps p.tables e below (s₁.setTop (mkF m 0 #[.val (.int p1), .val (.int p2), .val (.int p3), .val (.int p4), .unset, .unset, .unset, .unset, .unset, .unset, .unset, .unset, .unset, .unset] [])) t → Steps p.tables e below (s₁.setTop (entryFrame m #[(.int p1), (.int p2), (.int p3), (.int p4)] maxLocals)) t := fun t k => castTop (ef_0 m p1 p2 p3 p4) k
  obtain ⟨T5, h5, X5, e5, E5, A5, D5, -, st5⟩ := newO X0 hx hZ hown (hw _ (List.mem_of_getElem? (i := 0) rfl)) (hw _ (List.mem_of_getElem? (i := 1) rfl)) (hw _ (List.mem_of_getElem? (i := 2) rfl)) e0 (g := (mkF m 0 #[.val (.int p1), .val (.int p2), .val (.int p3), .val (.int p4), .unset, .unset, .unset, .unset, .unset, .unset, .unset, .unset, .unset, .unset] [])) rfl (hb hby at_0) (by decide) (by decide)
  obtain ⟨b5, g5⟩ : ∃ z, z = h0.size := ⟨_, rfl⟩
  rw [← g5] at A5 D5 st5
  have F_values_b5 : Fld Z h5 b5 "com/example/understory/understory/sim/ColumnEvaluator$Buffer" "values" "[D" .null := D5 (Or.inl (hw _ (List.mem_of_getElem? (i := 11) rfl))) (ty := (.array .double)) (by decide)
  have E_b5 := A5
  have g_b5 : n0 ≤ b5 := Nat.le_trans Z0 (Nat.le_of_eq g5.symm)
  obtain ⟨b6, g6⟩ : ∃ z, z = h5.size := ⟨_, rfl⟩
  have g_b6 : n0 ≤ b6 := Nat.le_trans (Nat.le_trans Z0 E5.1) (Nat.le_of_eq g6.symm)
  have ne_b5_b6 : b5 ≠ b6 := Nat.ne_of_lt (Nat.lt_of_lt_of_le E_b5.lt (Nat.le_of_eq g6.symm))
  obtain ⟨_, _, ⟨T6, L6, k6, n6⟩, -, X6, ⟨Lc6, hQ6, l6, y6, z6⟩, st6⟩ := X5.specialBack hx (y := (⟨"com/example/understory/understory/sim/ColumnEvaluator$Buffer", "<init>", "()V"⟩ : MethodName)) rfl hown (mvT hZ (hw _ (List.mem_of_getElem? (i := 3) rfl))) (mvT hZ (hw _ (List.mem_of_getElem? (i := 4) rfl))) (mvT hZ (hw _ (List.mem_of_getElem? (i := 5) rfl))) (by decide) (backOf (W := 1) (rm1 l Z a0 hw [] b5 .null b6 h5 n0 (Nat.le_trans Z0 E5.1) E_b5 F_values_b5 g_b5 g6) hZ (hw _ (List.mem_of_getElem? (i := 5) rfl)) (hw _ (List.mem_of_getElem? (i := 2) rfl)) (by decide) (by decide)) (g := (mkF m 4 #[.val (.int p1), .val (.int p2), .val (.int p3), .val (.int p4), .unset, .unset, .unset, .unset, .unset, .unset, .unset, .unset, .unset, .unset] [(.ref b5), (.ref b5)])) rfl (by rw [hml]; rfl) (Steps.refl _) (a := b5) (argsL := []) (rest := [(.ref b5)]) (lenOf pd_0_0 rfl) rfl (by show 2 * 0 + _ ≤ _; exact Nat.le_of_eq rfl) (hb hby at_4) (fun _ _ => ⟨rfl, e5, (by decide : 1 + 1 ≤ _), (by decide : 1 + 0 ≤ _)⟩)
  dsimp only [Pt.U, Pt.locs, Pt.cells, Pt.slots] at X6 l6 y6 z6 st6 hQ6
  subst l6 y6 z6
  obtain ⟨rfl, N6q, K6, gE6, gF6, kk6, gV6⟩ := hQ6
  have N6 := Fr.app N0 N6q
  obtain ⟨cq7, kq7, q7a, q7b, q7c⟩ := isOf hZ rfl gE6
  obtain ⟨_, _, ⟨T7, L7, k7, n7⟩, -, X7, ⟨Lc7, hQ7, l7, y7, z7⟩, st7⟩ := X6.virtualBack hx (y := (⟨"com/example/understory/understory/sim/ColumnEvaluator$Buffer", "of", "(I)[D"⟩ : MethodName)) (z := (⟨"com/example/understory/understory/sim/ColumnEvaluator$Buffer", "of", "(I)[D"⟩ : MethodName)) hown (mvT hZ (hw _ (List.mem_of_getElem? (i := 12) rfl))) (mvT hZ (hw _ (List.mem_of_getElem? (i := 13) rfl))) (notFace_of_selects (args := #[]) (mvT hZ (hw _ (List.mem_of_getElem? (i := 15) rfl)))) (mvT hZ (hw _ (List.mem_of_getElem? (i := 15) rfl))) (mvT hZ (hw _ (List.mem_of_getElem? (i := 14) rfl))) (by decide) (backOf (W := 0) (rm3T l Z a0 hw [] b5 (p1 % (64 : Int32)) b6 _ (0 : Int32) _ _ T6.heap n0 (Nat.le_trans (Nat.le_trans Z0 E5.1) K6.1) gF6 gV6 ho39) hZ (hw _ (List.mem_of_getElem? (i := 16) rfl)) (hw _ (List.mem_of_getElem? (i := 2) rfl)) (by decide) (by decide)) q7a q7c (g := (mkF m 39 #[.val (.int p1), .val (.int p2), .val (.int p3), .val (.int p4), .val (.ref b5), .val (.int (p1 % (64 : Int32))), .val (.int (p2 % (64 : Int32))), .val (.int (p3 % (64 : Int32))), .val (.double (FP.i2d (p4 % (1000 : Int32)))), .second, .unset, .unset, .unset, .unset] [(.int (p1 % (64 : Int32))), (.ref b5)])) rfl (by rw [hml]; rfl) (Steps.refl _) (argsL := [(.int (p1 % (64 : Int32)))]) (rest := []) (lenOf pd_0_1 rfl) rfl (by show 2 * 0 + _ ≤ _; exact Nat.le_of_eq rfl) (hb hby at_39) (fun _ _ => ⟨rfl, rfl, (by decide : 2 + 0 ≤ _), (by decide : 1 + 0 ≤ _)⟩)
  dsimp only [Pt.U, Pt.locs, Pt.cells, Pt.slots] at X7 l7 y7 z7 st7 hQ7
  subst l7 y7 z7
  obtain ⟨rfl, N7q, e7⟩ := hQ7
  have N7 := Fr.app N6 N7q
  obtain ⟨cl_b6_53, Ar_b6_53, -, S_b6_53, N_b6_53, -, -⟩ := id (gV6)
  obtain ⟨cl_b6_68, Ar_b6_68, -, S_b6_68, N_b6_68, -, -⟩ := id (gV6)
  obtain ⟨cq8, kq8, q8a, q8b, q8c⟩ := isOf hZ e7 gE6
  obtain ⟨_, _, ⟨T8, L8, k8, n8⟩, -, X8, ⟨Lc8, hQ8, l8, y8, z8⟩, st8⟩ := X7.virtualBack hx (y := (⟨"com/example/understory/understory/sim/ColumnEvaluator$Buffer", "of", "(I)[D"⟩ : MethodName)) (z := (⟨"com/example/understory/understory/sim/ColumnEvaluator$Buffer", "of", "(I)[D"⟩ : MethodName)) hown (mvT hZ (hw _ (List.mem_of_getElem? (i := 12) rfl))) (mvT hZ (hw _ (List.mem_of_getElem? (i := 13) rfl))) (notFace_of_selects (args := #[]) (mvT hZ (hw _ (List.mem_of_getElem? (i := 15) rfl)))) (mvT hZ (hw _ (List.mem_of_getElem? (i := 15) rfl))) (mvT hZ (hw _ (List.mem_of_getElem? (i := 14) rfl))) (by decide) (backOf (W := 0) (rm3T l Z a0 hw [] b5 (p2 % (64 : Int32)) b6 _ (0 : Int32) _ _ T6.heap n0 (Nat.le_trans (Nat.le_trans Z0 E5.1) K6.1) gF6 gV6 ho86) hZ (hw _ (List.mem_of_getElem? (i := 16) rfl)) (hw _ (List.mem_of_getElem? (i := 2) rfl)) (by decide) (by decide)) q8a q8c (g := (mkF m 86 #[.val (.int p1), .val (.int p2), .val (.int p3), .val (.int p4), .val (.ref b5), .val (.int (p1 % (64 : Int32))), .val (.int (p2 % (64 : Int32))), .val (.int (p3 % (64 : Int32))), .val (.double (FP.i2d (p4 % (1000 : Int32)))), .second, .val (.ref b6), .val (.int (1 : Int32)), .unset, .unset] [(.int (p2 % (64 : Int32))), (.ref b5)])) rfl (by rw [hml]; rfl) (Steps.refl _) (argsL := [(.int (p2 % (64 : Int32)))]) (rest := []) (lenOf pd_0_1 rfl) rfl (by show 2 * 0 + _ ≤ _; exact Nat.le_of_eq rfl) (hb hby at_86) (fun _ _ => ⟨rfl, e7, (by decide : 2 + 0 ≤ _), (by decide : 1 + 0 ≤ _)⟩)
  dsimp only [Pt.U, Pt.locs, Pt.cells, Pt.slots] at X8 l8 y8 z8 st8 hQ8
  subst l8 y8 z8
  obtain ⟨rfl, N8q, e8⟩ := hQ8
  have N8 := Fr.app N7 N8q
  obtain ⟨cl_b6_105, Ar_b6_105, -, S_b6_105, N_b6_105, -, -⟩ := id (gV6)
  obtain ⟨cl_b6_122, Ar_b6_122, -, S_b6_122, N_b6_122, -, -⟩ := id (gV6)
  obtain ⟨cl_b6_140, Ar_b6_140, -, S_b6_140, N_b6_140, -, -⟩ := id (gV6)
  obtain ⟨cq9, kq9, q9a, q9b, q9c⟩ := isOf hZ e8 gE6
  obtain ⟨b9, g9⟩ : ∃ z, z = T6.heap.size := ⟨_, rfl⟩
  have g_b9 : n0 ≤ b9 := Nat.le_trans (Nat.le_trans (Nat.le_trans Z0 E5.1) K6.1) (Nat.le_of_eq g9.symm)
  have ne_b5_b9 : b5 ≠ b9 := Nat.ne_of_lt (Nat.lt_of_lt_of_le gE6.lt (Nat.le_of_eq g9.symm))
  have ne_b6_b9 : b6 ≠ b9 := Nat.ne_of_lt (Nat.lt_of_lt_of_le gV6.lt (Nat.le_of_eq g9.symm))
  obtain ⟨_, _, ⟨T9, L9, k9, n9⟩, -, X9, ⟨Lc9, hQ9, l9, y9, z9⟩, st9⟩ := X8.virtualBack hx (y := (⟨"com/example/understory/understory/sim/ColumnEvaluator$Buffer", "of", "(I)[D"⟩ : MethodName)) (z := (⟨"com/example/understory/understory/sim/ColumnEvaluator$Buffer", "of", "(I)[D"⟩ : MethodName)) hown (mvT hZ (hw _ (List.mem_of_getElem? (i := 12) rfl))) (mvT hZ (hw _ (List.mem_of_getElem? (i := 13) rfl))) (notFace_of_selects (args := #[]) (mvT hZ (hw _ (List.mem_of_getElem? (i := 15) rfl)))) (mvT hZ (hw _ (List.mem_of_getElem? (i := 15) rfl))) (mvT hZ (hw _ (List.mem_of_getElem? (i := 14) rfl))) (by decide) (backOf (W := 0) (rm3F l Z a0 hw [] b5 (p3 % (64 : Int32)) b6 _ (0 : Int32) _ _ b9 T6.heap n0 (Nat.le_trans (Nat.le_trans Z0 E5.1) K6.1) gF6 gV6 gE6 g_b5 ho169 g9 (own_mod _)) hZ (hw _ (List.mem_of_getElem? (i := 16) rfl)) (hw _ (List.mem_of_getElem? (i := 2) rfl)) (by decide) (by decide)) q9a q9c (g := (mkF m 169 #[.val (.int p1), .val (.int p2), .val (.int p3), .val (.int p4), .val (.ref b5), .val (.int (p1 % (64 : Int32))), .val (.int (p2 % (64 : Int32))), .val (.int (p3 % (64 : Int32))), .val (.double (FP.i2d (p4 % (1000 : Int32)))), .second, .val (.ref b6), .val (.int (1 : Int32)), .val (.ref b6), .unset] [(.int (p3 % (64 : Int32))), (.ref b5)])) rfl (by rw [hml]; rfl) (Steps.refl _) (argsL := [(.int (p3 % (64 : Int32)))]) (rest := []) (lenOf pd_0_1 rfl) rfl (by show 2 * 0 + _ ≤ _; exact Nat.le_of_eq rfl) (hb hby at_169) (fun _ _ => ⟨rfl, e8, (by decide : 2 + 1 ≤ _), (by decide : 1 + 63 ≤ _)⟩)
  dsimp only [Pt.U, Pt.locs, Pt.cells, Pt.slots] at X9 l9 y9 z9 st9 hQ9
  subst l9 y9 z9
  obtain ⟨rfl, N9q, K9, gE9, gF9, kk9, gV9⟩ := hQ9
  have N9 := Fr.app N8 N9q
  obtain ⟨cl_b9_188, Ar_b9_188, -, S_b9_188, N_b9_188, -, -⟩ := id (gV9)
  obtain ⟨cl_b6_205, Ar_b6_205, -, S_b6_205, N_b6_205, -, -⟩ := id ((gV6.keep K9 (fun q => (Ne.symm ne_b5_b6) (List.mem_singleton.mp q))))
  obtain ⟨fs, hr, hrun, hended, hW, hsame⟩ := X9.leave (v := some (.int (1 : Int32))) (fun h => by rw [Bd.returns] at h; cases h)
  refine ⟨_, _, pre0 _ ?_, hrun, hended, _, _, rfl, ?_, ⟨_, rfl⟩, hW, hsame.mono (by decide) (by decide)⟩
  · show Steps p.tables e below (s₁.setTop (mkF m 0 #[.val (.int p1), .val (.int p2), .val (.int p3), .val (.int p4), .unset, .unset, .unset, .unset, .unset, .unset, .unset, .unset, .unset, .unset] [])) _
    refine st5 _ ?_
    show Steps p.tables e below (T5.setTop (mkF m 3 #[.val (.int p1), .val (.int p2), .val (.int p3), .val (.int p4), .unset, .unset, .unset, .unset, .unset, .unset, .unset, .unset, .unset, .unset] [(.ref b5)])) _
    refine XS.dup X5.here hx rfl (hb hby at_3) rfl rfl ?_
    show Steps p.tables e below (T5.setTop (mkF m 4 #[.val (.int p1), .val (.int p2), .val (.int p3), .val (.int p4), .unset, .unset, .unset, .unset, .unset, .unset, .unset, .unset, .unset, .unset] [(.ref b5), (.ref b5)])) _
    refine st6.trans ?_
    show Steps p.tables e below (T6.setTop (mkF m 7 #[.val (.int p1), .val (.int p2), .val (.int p3), .val (.int p4), .unset, .unset, .unset, .unset, .unset, .unset, .unset, .unset, .unset, .unset] [(.ref b5)])) _
    refine XS.astore X6.here hx rfl (hb hby at_7) rfl rfl (l' := #[.val (.int p1), .val (.int p2), .val (.int p3), .val (.int p4), .val (.ref b5), .unset, .unset, .unset, .unset, .unset, .unset, .unset, .unset, .unset]) rfl ?_
    show Steps p.tables e below (T6.setTop (mkF m 9 #[.val (.int p1), .val (.int p2), .val (.int p3), .val (.int p4), .val (.ref b5), .unset, .unset, .unset, .unset, .unset, .unset, .unset, .unset, .unset] [])) _
    refine XS.iloadN X6.here hx rfl (hb hby at_9) rfl ?_
    show Steps p.tables e below (T6.setTop (mkF m 10 #[.val (.int p1), .val (.int p2), .val (.int p3), .val (.int p4), .val (.ref b5), .unset, .unset, .unset, .unset, .unset, .unset, .unset, .unset, .unset] [(.int p1)])) _
    refine XS.bipush X6.here hx rfl (hb hby at_10) ?_
    show Steps p.tables e below (T6.setTop (mkF m 12 #[.val (.int p1), .val (.int p2), .val (.int p3), .val (.int p4), .val (.ref b5), .unset, .unset, .unset, .unset, .unset, .unset, .unset, .unset, .unset] [(.int (64 : Int32)), (.int p1)])) _
    refine iremM X6 hx rfl (hb hby at_12) rfl (by decide) ?_
    show Steps p.tables e below (T6.setTop (mkF m 13 #[.val (.int p1), .val (.int p2), .val (.int p3), .val (.int p4), .val (.ref b5), .unset, .unset, .unset, .unset, .unset, .unset, .unset, .unset, .unset] [(.int (p1 % (64 : Int32)))])) _
    refine XS.istore X6.here hx rfl (hb hby at_13) rfl (l' := #[.val (.int p1), .val (.int p2), .val (.int p3), .val (.int p4), .val (.ref b5), .val (.int (p1 % (64 : Int32))), .unset, .unset, .unset, .unset, .unset, .unset, .unset, .unset]) rfl ?_
    show Steps p.tables e below (T6.setTop (mkF m 15 #[.val (.int p1), .val (.int p2), .val (.int p3), .val (.int p4), .val (.ref b5), .val (.int (p1 % (64 : Int32))), .unset, .unset, .unset, .unset, .unset, .unset, .unset, .unset] [])) _
    refine XS.iloadN X6.here hx rfl (hb hby at_15) rfl ?_
    show Steps p.tables e below (T6.setTop (mkF m 16 #[.val (.int p1), .val (.int p2), .val (.int p3), .val (.int p4), .val (.ref b5), .val (.int (p1 % (64 : Int32))), .unset, .unset, .unset, .unset, .unset, .unset, .unset, .unset] [(.int p2)])) _
    refine XS.bipush X6.here hx rfl (hb hby at_16) ?_
    show Steps p.tables e below (T6.setTop (mkF m 18 #[.val (.int p1), .val (.int p2), .val (.int p3), .val (.int p4), .val (.ref b5), .val (.int (p1 % (64 : Int32))), .unset, .unset, .unset, .unset, .unset, .unset, .unset, .unset] [(.int (64 : Int32)), (.int p2)])) _
    refine iremM X6 hx rfl (hb hby at_18) rfl (by decide) ?_
    show Steps p.tables e below (T6.setTop (mkF m 19 #[.val (.int p1), .val (.int p2), .val (.int p3), .val (.int p4), .val (.ref b5), .val (.int (p1 % (64 : Int32))), .unset, .unset, .unset, .unset, .unset, .unset, .unset, .unset] [(.int (p2 % (64 : Int32)))])) _
    refine XS.istore X6.here hx rfl (hb hby at_19) rfl (l' := #[.val (.int p1), .val (.int p2), .val (.int p3), .val (.int p4), .val (.ref b5), .val (.int (p1 % (64 : Int32))), .val (.int (p2 % (64 : Int32))), .unset, .unset, .unset, .unset, .unset, .unset, .unset]) rfl ?_
    show Steps p.tables e below (T6.setTop (mkF m 21 #[.val (.int p1), .val (.int p2), .val (.int p3), .val (.int p4), .val (.ref b5), .val (.int (p1 % (64 : Int32))), .val (.int (p2 % (64 : Int32))), .unset, .unset, .unset, .unset, .unset, .unset, .unset] [])) _
    refine XS.iloadN X6.here hx rfl (hb hby at_21) rfl ?_
    show Steps p.tables e below (T6.setTop (mkF m 22 #[.val (.int p1), .val (.int p2), .val (.int p3), .val (.int p4), .val (.ref b5), .val (.int (p1 % (64 : Int32))), .val (.int (p2 % (64 : Int32))), .unset, .unset, .unset, .unset, .unset, .unset, .unset] [(.int p3)])) _
    refine XS.bipush X6.here hx rfl (hb hby at_22) ?_
    show Steps p.tables e below (T6.setTop (mkF m 24 #[.val (.int p1), .val (.int p2), .val (.int p3), .val (.int p4), .val (.ref b5), .val (.int (p1 % (64 : Int32))), .val (.int (p2 % (64 : Int32))), .unset, .unset, .unset, .unset, .unset, .unset, .unset] [(.int (64 : Int32)), (.int p3)])) _
    refine iremM X6 hx rfl (hb hby at_24) rfl (by decide) ?_
    show Steps p.tables e below (T6.setTop (mkF m 25 #[.val (.int p1), .val (.int p2), .val (.int p3), .val (.int p4), .val (.ref b5), .val (.int (p1 % (64 : Int32))), .val (.int (p2 % (64 : Int32))), .unset, .unset, .unset, .unset, .unset, .unset, .unset] [(.int (p3 % (64 : Int32)))])) _
    refine XS.istore X6.here hx rfl (hb hby at_25) rfl (l' := #[.val (.int p1), .val (.int p2), .val (.int p3), .val (.int p4), .val (.ref b5), .val (.int (p1 % (64 : Int32))), .val (.int (p2 % (64 : Int32))), .val (.int (p3 % (64 : Int32))), .unset, .unset, .unset, .unset, .unset, .unset]) rfl ?_
    show Steps p.tables e below (T6.setTop (mkF m 27 #[.val (.int p1), .val (.int p2), .val (.int p3), .val (.int p4), .val (.ref b5), .val (.int (p1 % (64 : Int32))), .val (.int (p2 % (64 : Int32))), .val (.int (p3 % (64 : Int32))), .unset, .unset, .unset, .unset, .unset, .unset] [])) _
    refine XS.iloadN X6.here hx rfl (hb hby at_27) rfl ?_
    show Steps p.tables e below (T6.setTop (mkF m 28 #[.val (.int p1), .val (.int p2), .val (.int p3), .val (.int p4), .val (.ref b5), .val (.int (p1 % (64 : Int32))), .val (.int (p2 % (64 : Int32))), .val (.int (p3 % (64 : Int32))), .unset, .unset, .unset, .unset, .unset, .unset] [(.int p4)])) _
    refine XS.sipush X6.here hx rfl (hb hby at_28) ?_
    show Steps p.tables e below (T6.setTop (mkF m 31 #[.val (.int p1), .val (.int p2), .val (.int p3), .val (.int p4), .val (.ref b5), .val (.int (p1 % (64 : Int32))), .val (.int (p2 % (64 : Int32))), .val (.int (p3 % (64 : Int32))), .unset, .unset, .unset, .unset, .unset, .unset] [(.int (1000 : Int32)), (.int p4)])) _
    refine iremM X6 hx rfl (hb hby at_31) rfl (by decide) ?_
    show Steps p.tables e below (T6.setTop (mkF m 32 #[.val (.int p1), .val (.int p2), .val (.int p3), .val (.int p4), .val (.ref b5), .val (.int (p1 % (64 : Int32))), .val (.int (p2 % (64 : Int32))), .val (.int (p3 % (64 : Int32))), .unset, .unset, .unset, .unset, .unset, .unset] [(.int (p4 % (1000 : Int32)))])) _
    refine XS.i2dS X6.here hx rfl (hb hby at_32) rfl rfl ?_
    show Steps p.tables e below (T6.setTop (mkF m 33 #[.val (.int p1), .val (.int p2), .val (.int p3), .val (.int p4), .val (.ref b5), .val (.int (p1 % (64 : Int32))), .val (.int (p2 % (64 : Int32))), .val (.int (p3 % (64 : Int32))), .unset, .unset, .unset, .unset, .unset, .unset] [(.double (FP.i2d (p4 % (1000 : Int32))))])) _
    refine XS.dstore X6.here hx rfl (hb hby at_33) rfl (l' := #[.val (.int p1), .val (.int p2), .val (.int p3), .val (.int p4), .val (.ref b5), .val (.int (p1 % (64 : Int32))), .val (.int (p2 % (64 : Int32))), .val (.int (p3 % (64 : Int32))), .val (.double (FP.i2d (p4 % (1000 : Int32)))), .second, .unset, .unset, .unset, .unset]) rfl ?_
    show Steps p.tables e below (T6.setTop (mkF m 35 #[.val (.int p1), .val (.int p2), .val (.int p3), .val (.int p4), .val (.ref b5), .val (.int (p1 % (64 : Int32))), .val (.int (p2 % (64 : Int32))), .val (.int (p3 % (64 : Int32))), .val (.double (FP.i2d (p4 % (1000 : Int32)))), .second, .unset, .unset, .unset, .unset] [])) _
    refine XS.aload X6.here hx rfl (hb hby at_35) rfl rfl ?_
    show Steps p.tables e below (T6.setTop (mkF m 37 #[.val (.int p1), .val (.int p2), .val (.int p3), .val (.int p4), .val (.ref b5), .val (.int (p1 % (64 : Int32))), .val (.int (p2 % (64 : Int32))), .val (.int (p3 % (64 : Int32))), .val (.double (FP.i2d (p4 % (1000 : Int32)))), .second, .unset, .unset, .unset, .unset] [(.ref b5)])) _
    refine XS.iload X6.here hx rfl (hb hby at_37) rfl ?_
    show Steps p.tables e below (T6.setTop (mkF m 39 #[.val (.int p1), .val (.int p2), .val (.int p3), .val (.int p4), .val (.ref b5), .val (.int (p1 % (64 : Int32))), .val (.int (p2 % (64 : Int32))), .val (.int (p3 % (64 : Int32))), .val (.double (FP.i2d (p4 % (1000 : Int32)))), .second, .unset, .unset, .unset, .unset] [(.int (p1 % (64 : Int32))), (.ref b5)])) _
    refine st7.trans ?_
    show Steps p.tables e below (T7.setTop (mkF m 42 #[.val (.int p1), .val (.int p2), .val (.int p3), .val (.int p4), .val (.ref b5), .val (.int (p1 % (64 : Int32))), .val (.int (p2 % (64 : Int32))), .val (.int (p3 % (64 : Int32))), .val (.double (FP.i2d (p4 % (1000 : Int32)))), .second, .unset, .unset, .unset, .unset] [(.ref b6)])) _
    refine XS.astore X7.here hx rfl (hb hby at_42) rfl rfl (l' := #[.val (.int p1), .val (.int p2), .val (.int p3), .val (.int p4), .val (.ref b5), .val (.int (p1 % (64 : Int32))), .val (.int (p2 % (64 : Int32))), .val (.int (p3 % (64 : Int32))), .val (.double (FP.i2d (p4 % (1000 : Int32)))), .second, .val (.ref b6), .unset, .unset, .unset]) rfl ?_
    show Steps p.tables e below (T7.setTop (mkF m 44 #[.val (.int p1), .val (.int p2), .val (.int p3), .val (.int p4), .val (.ref b5), .val (.int (p1 % (64 : Int32))), .val (.int (p2 % (64 : Int32))), .val (.int (p3 % (64 : Int32))), .val (.double (FP.i2d (p4 % (1000 : Int32)))), .second, .val (.ref b6), .unset, .unset, .unset] [])) _
    refine XS.aload X7.here hx rfl (hb hby at_44) rfl rfl ?_
    show Steps p.tables e below (T7.setTop (mkF m 46 #[.val (.int p1), .val (.int p2), .val (.int p3), .val (.int p4), .val (.ref b5), .val (.int (p1 % (64 : Int32))), .val (.int (p2 % (64 : Int32))), .val (.int (p3 % (64 : Int32))), .val (.double (FP.i2d (p4 % (1000 : Int32)))), .second, .val (.ref b6), .unset, .unset, .unset] [(.ref b6)])) _
    refine XS.ifnonnullYes X7.here hx rfl (pc0 := 46) (pc' := 51) rfl (hb hby at_46) rfl (by decide) (by decide) ?_
    show Steps p.tables e below (T7.setTop (mkF m 51 #[.val (.int p1), .val (.int p2), .val (.int p3), .val (.int p4), .val (.ref b5), .val (.int (p1 % (64 : Int32))), .val (.int (p2 % (64 : Int32))), .val (.int (p3 % (64 : Int32))), .val (.double (FP.i2d (p4 % (1000 : Int32)))), .second, .val (.ref b6), .unset, .unset, .unset] [])) _
    refine XS.aload X7.here hx rfl (hb hby at_51) rfl rfl ?_
    show Steps p.tables e below (T7.setTop (mkF m 53 #[.val (.int p1), .val (.int p2), .val (.int p3), .val (.int p4), .val (.ref b5), .val (.int (p1 % (64 : Int32))), .val (.int (p2 % (64 : Int32))), .val (.int (p3 % (64 : Int32))), .val (.double (FP.i2d (p4 % (1000 : Int32)))), .second, .val (.ref b6), .unset, .unset, .unset] [(.ref b6)])) _
    refine X7.arraylength hx (by rw [e7]; exact Ar_b6_53.1) (State.isArrayOf_alike hZ.alike Ar_b6_53.2.1) (g := (mkF m 53 #[.val (.int p1), .val (.int p2), .val (.int p3), .val (.int p4), .val (.ref b5), .val (.int (p1 % (64 : Int32))), .val (.int (p2 % (64 : Int32))), .val (.int (p3 % (64 : Int32))), .val (.double (FP.i2d (p4 % (1000 : Int32)))), .second, .val (.ref b6), .unset, .unset, .unset] [(.ref b6)])) rfl rfl (hb hby at_53) _ ?_
    rw [len_of S_b6_53 N_b6_53]
    show Steps p.tables e below (T7.setTop (mkF m 54 #[.val (.int p1), .val (.int p2), .val (.int p3), .val (.int p4), .val (.ref b5), .val (.int (p1 % (64 : Int32))), .val (.int (p2 % (64 : Int32))), .val (.int (p3 % (64 : Int32))), .val (.double (FP.i2d (p4 % (1000 : Int32)))), .second, .val (.ref b6), .unset, .unset, .unset] [(.int (0 : Int32))])) _
    refine XS.iload X7.here hx rfl (hb hby at_54) rfl ?_
    show Steps p.tables e below (T7.setTop (mkF m 56 #[.val (.int p1), .val (.int p2), .val (.int p3), .val (.int p4), .val (.ref b5), .val (.int (p1 % (64 : Int32))), .val (.int (p2 % (64 : Int32))), .val (.int (p3 % (64 : Int32))), .val (.double (FP.i2d (p4 % (1000 : Int32)))), .second, .val (.ref b6), .unset, .unset, .unset] [(.int (p1 % (64 : Int32))), (.int (0 : Int32))])) _
    refine XS.icmpNo X7.here hx rfl (hb hby at_56) rfl (flt hc56).1 ?_
    show Steps p.tables e below (T7.setTop (mkF m 59 #[.val (.int p1), .val (.int p2), .val (.int p3), .val (.int p4), .val (.ref b5), .val (.int (p1 % (64 : Int32))), .val (.int (p2 % (64 : Int32))), .val (.int (p3 % (64 : Int32))), .val (.double (FP.i2d (p4 % (1000 : Int32)))), .second, .val (.ref b6), .unset, .unset, .unset] [])) _
    refine XS.iconst X7.here hx rfl (hb hby at_59) ?_
    show Steps p.tables e below (T7.setTop (mkF m 60 #[.val (.int p1), .val (.int p2), .val (.int p3), .val (.int p4), .val (.ref b5), .val (.int (p1 % (64 : Int32))), .val (.int (p2 % (64 : Int32))), .val (.int (p3 % (64 : Int32))), .val (.double (FP.i2d (p4 % (1000 : Int32)))), .second, .val (.ref b6), .unset, .unset, .unset] [(.int (1 : Int32))])) _
    refine XS.goto X7.here hx rfl (pc0 := 60) (pc' := 64) rfl (hb hby at_60) (by decide) (by decide) ?_
    show Steps p.tables e below (T7.setTop (mkF m 64 #[.val (.int p1), .val (.int p2), .val (.int p3), .val (.int p4), .val (.ref b5), .val (.int (p1 % (64 : Int32))), .val (.int (p2 % (64 : Int32))), .val (.int (p3 % (64 : Int32))), .val (.double (FP.i2d (p4 % (1000 : Int32)))), .second, .val (.ref b6), .unset, .unset, .unset] [(.int (1 : Int32))])) _
    refine XS.istore X7.here hx rfl (hb hby at_64) rfl (l' := #[.val (.int p1), .val (.int p2), .val (.int p3), .val (.int p4), .val (.ref b5), .val (.int (p1 % (64 : Int32))), .val (.int (p2 % (64 : Int32))), .val (.int (p3 % (64 : Int32))), .val (.double (FP.i2d (p4 % (1000 : Int32)))), .second, .val (.ref b6), .val (.int (1 : Int32)), .unset, .unset]) rfl ?_
    show Steps p.tables e below (T7.setTop (mkF m 66 #[.val (.int p1), .val (.int p2), .val (.int p3), .val (.int p4), .val (.ref b5), .val (.int (p1 % (64 : Int32))), .val (.int (p2 % (64 : Int32))), .val (.int (p3 % (64 : Int32))), .val (.double (FP.i2d (p4 % (1000 : Int32)))), .second, .val (.ref b6), .val (.int (1 : Int32)), .unset, .unset] [])) _
    refine XS.aload X7.here hx rfl (hb hby at_66) rfl rfl ?_
    show Steps p.tables e below (T7.setTop (mkF m 68 #[.val (.int p1), .val (.int p2), .val (.int p3), .val (.int p4), .val (.ref b5), .val (.int (p1 % (64 : Int32))), .val (.int (p2 % (64 : Int32))), .val (.int (p3 % (64 : Int32))), .val (.double (FP.i2d (p4 % (1000 : Int32)))), .second, .val (.ref b6), .val (.int (1 : Int32)), .unset, .unset] [(.ref b6)])) _
    refine X7.arraylength hx (by rw [e7]; exact Ar_b6_68.1) (State.isArrayOf_alike hZ.alike Ar_b6_68.2.1) (g := (mkF m 68 #[.val (.int p1), .val (.int p2), .val (.int p3), .val (.int p4), .val (.ref b5), .val (.int (p1 % (64 : Int32))), .val (.int (p2 % (64 : Int32))), .val (.int (p3 % (64 : Int32))), .val (.double (FP.i2d (p4 % (1000 : Int32)))), .second, .val (.ref b6), .val (.int (1 : Int32)), .unset, .unset] [(.ref b6)])) rfl rfl (hb hby at_68) _ ?_
    rw [len_of S_b6_68 N_b6_68]
    show Steps p.tables e below (T7.setTop (mkF m 69 #[.val (.int p1), .val (.int p2), .val (.int p3), .val (.int p4), .val (.ref b5), .val (.int (p1 % (64 : Int32))), .val (.int (p2 % (64 : Int32))), .val (.int (p3 % (64 : Int32))), .val (.double (FP.i2d (p4 % (1000 : Int32)))), .second, .val (.ref b6), .val (.int (1 : Int32)), .unset, .unset] [(.int (0 : Int32))])) _
    refine XS.ifYes X7.here hx rfl (pc0 := 69) (pc' := 82) rfl (hb hby at_69) rfl ((if0 _ _).trans (flt hc69).2.2.2) (by decide) (by decide) ?_
    show Steps p.tables e below (T7.setTop (mkF m 82 #[.val (.int p1), .val (.int p2), .val (.int p3), .val (.int p4), .val (.ref b5), .val (.int (p1 % (64 : Int32))), .val (.int (p2 % (64 : Int32))), .val (.int (p3 % (64 : Int32))), .val (.double (FP.i2d (p4 % (1000 : Int32)))), .second, .val (.ref b6), .val (.int (1 : Int32)), .unset, .unset] [])) _
    refine XS.aload X7.here hx rfl (hb hby at_82) rfl rfl ?_
    show Steps p.tables e below (T7.setTop (mkF m 84 #[.val (.int p1), .val (.int p2), .val (.int p3), .val (.int p4), .val (.ref b5), .val (.int (p1 % (64 : Int32))), .val (.int (p2 % (64 : Int32))), .val (.int (p3 % (64 : Int32))), .val (.double (FP.i2d (p4 % (1000 : Int32)))), .second, .val (.ref b6), .val (.int (1 : Int32)), .unset, .unset] [(.ref b5)])) _
    refine XS.iload X7.here hx rfl (hb hby at_84) rfl ?_
    show Steps p.tables e below (T7.setTop (mkF m 86 #[.val (.int p1), .val (.int p2), .val (.int p3), .val (.int p4), .val (.ref b5), .val (.int (p1 % (64 : Int32))), .val (.int (p2 % (64 : Int32))), .val (.int (p3 % (64 : Int32))), .val (.double (FP.i2d (p4 % (1000 : Int32)))), .second, .val (.ref b6), .val (.int (1 : Int32)), .unset, .unset] [(.int (p2 % (64 : Int32))), (.ref b5)])) _
    refine st8.trans ?_
    show Steps p.tables e below (T8.setTop (mkF m 89 #[.val (.int p1), .val (.int p2), .val (.int p3), .val (.int p4), .val (.ref b5), .val (.int (p1 % (64 : Int32))), .val (.int (p2 % (64 : Int32))), .val (.int (p3 % (64 : Int32))), .val (.double (FP.i2d (p4 % (1000 : Int32)))), .second, .val (.ref b6), .val (.int (1 : Int32)), .unset, .unset] [(.ref b6)])) _
    refine XS.astore X8.here hx rfl (hb hby at_89) rfl rfl (l' := #[.val (.int p1), .val (.int p2), .val (.int p3), .val (.int p4), .val (.ref b5), .val (.int (p1 % (64 : Int32))), .val (.int (p2 % (64 : Int32))), .val (.int (p3 % (64 : Int32))), .val (.double (FP.i2d (p4 % (1000 : Int32)))), .second, .val (.ref b6), .val (.int (1 : Int32)), .val (.ref b6), .unset]) rfl ?_
    show Steps p.tables e below (T8.setTop (mkF m 91 #[.val (.int p1), .val (.int p2), .val (.int p3), .val (.int p4), .val (.ref b5), .val (.int (p1 % (64 : Int32))), .val (.int (p2 % (64 : Int32))), .val (.int (p3 % (64 : Int32))), .val (.double (FP.i2d (p4 % (1000 : Int32)))), .second, .val (.ref b6), .val (.int (1 : Int32)), .val (.ref b6), .unset] [])) _
    refine XS.aload X8.here hx rfl (hb hby at_91) rfl rfl ?_
    show Steps p.tables e below (T8.setTop (mkF m 93 #[.val (.int p1), .val (.int p2), .val (.int p3), .val (.int p4), .val (.ref b5), .val (.int (p1 % (64 : Int32))), .val (.int (p2 % (64 : Int32))), .val (.int (p3 % (64 : Int32))), .val (.double (FP.i2d (p4 % (1000 : Int32)))), .second, .val (.ref b6), .val (.int (1 : Int32)), .val (.ref b6), .unset] [(.ref b6)])) _
    refine XS.ifnonnullYes X8.here hx rfl (pc0 := 93) (pc' := 98) rfl (hb hby at_93) rfl (by decide) (by decide) ?_
    show Steps p.tables e below (T8.setTop (mkF m 98 #[.val (.int p1), .val (.int p2), .val (.int p3), .val (.int p4), .val (.ref b5), .val (.int (p1 % (64 : Int32))), .val (.int (p2 % (64 : Int32))), .val (.int (p3 % (64 : Int32))), .val (.double (FP.i2d (p4 % (1000 : Int32)))), .second, .val (.ref b6), .val (.int (1 : Int32)), .val (.ref b6), .unset] [])) _
    refine XS.iload X8.here hx rfl (hb hby at_98) rfl ?_
    show Steps p.tables e below (T8.setTop (mkF m 100 #[.val (.int p1), .val (.int p2), .val (.int p3), .val (.int p4), .val (.ref b5), .val (.int (p1 % (64 : Int32))), .val (.int (p2 % (64 : Int32))), .val (.int (p3 % (64 : Int32))), .val (.double (FP.i2d (p4 % (1000 : Int32)))), .second, .val (.ref b6), .val (.int (1 : Int32)), .val (.ref b6), .unset] [(.int (1 : Int32))])) _
    refine XS.ifNo X8.here hx rfl (hb hby at_100) rfl ((if0 _ _).trans (feq hc100).1) ?_
    show Steps p.tables e below (T8.setTop (mkF m 103 #[.val (.int p1), .val (.int p2), .val (.int p3), .val (.int p4), .val (.ref b5), .val (.int (p1 % (64 : Int32))), .val (.int (p2 % (64 : Int32))), .val (.int (p3 % (64 : Int32))), .val (.double (FP.i2d (p4 % (1000 : Int32)))), .second, .val (.ref b6), .val (.int (1 : Int32)), .val (.ref b6), .unset] [])) _
    refine XS.aload X8.here hx rfl (hb hby at_103) rfl rfl ?_
    show Steps p.tables e below (T8.setTop (mkF m 105 #[.val (.int p1), .val (.int p2), .val (.int p3), .val (.int p4), .val (.ref b5), .val (.int (p1 % (64 : Int32))), .val (.int (p2 % (64 : Int32))), .val (.int (p3 % (64 : Int32))), .val (.double (FP.i2d (p4 % (1000 : Int32)))), .second, .val (.ref b6), .val (.int (1 : Int32)), .val (.ref b6), .unset] [(.ref b6)])) _
    refine X8.arraylength hx (by rw [e8]; exact Ar_b6_105.1) (State.isArrayOf_alike hZ.alike Ar_b6_105.2.1) (g := (mkF m 105 #[.val (.int p1), .val (.int p2), .val (.int p3), .val (.int p4), .val (.ref b5), .val (.int (p1 % (64 : Int32))), .val (.int (p2 % (64 : Int32))), .val (.int (p3 % (64 : Int32))), .val (.double (FP.i2d (p4 % (1000 : Int32)))), .second, .val (.ref b6), .val (.int (1 : Int32)), .val (.ref b6), .unset] [(.ref b6)])) rfl rfl (hb hby at_105) _ ?_
    rw [len_of S_b6_105 N_b6_105]
    show Steps p.tables e below (T8.setTop (mkF m 106 #[.val (.int p1), .val (.int p2), .val (.int p3), .val (.int p4), .val (.ref b5), .val (.int (p1 % (64 : Int32))), .val (.int (p2 % (64 : Int32))), .val (.int (p3 % (64 : Int32))), .val (.double (FP.i2d (p4 % (1000 : Int32)))), .second, .val (.ref b6), .val (.int (1 : Int32)), .val (.ref b6), .unset] [(.int (0 : Int32))])) _
    refine XS.iload X8.here hx rfl (hb hby at_106) rfl ?_
    show Steps p.tables e below (T8.setTop (mkF m 108 #[.val (.int p1), .val (.int p2), .val (.int p3), .val (.int p4), .val (.ref b5), .val (.int (p1 % (64 : Int32))), .val (.int (p2 % (64 : Int32))), .val (.int (p3 % (64 : Int32))), .val (.double (FP.i2d (p4 % (1000 : Int32)))), .second, .val (.ref b6), .val (.int (1 : Int32)), .val (.ref b6), .unset] [(.int (p2 % (64 : Int32))), (.int (0 : Int32))])) _
    refine XS.icmpNo X8.here hx rfl (hb hby at_108) rfl (flt hc108).1 ?_
    show Steps p.tables e below (T8.setTop (mkF m 111 #[.val (.int p1), .val (.int p2), .val (.int p3), .val (.int p4), .val (.ref b5), .val (.int (p1 % (64 : Int32))), .val (.int (p2 % (64 : Int32))), .val (.int (p3 % (64 : Int32))), .val (.double (FP.i2d (p4 % (1000 : Int32)))), .second, .val (.ref b6), .val (.int (1 : Int32)), .val (.ref b6), .unset] [])) _
    refine XS.iconst X8.here hx rfl (hb hby at_111) ?_
    show Steps p.tables e below (T8.setTop (mkF m 112 #[.val (.int p1), .val (.int p2), .val (.int p3), .val (.int p4), .val (.ref b5), .val (.int (p1 % (64 : Int32))), .val (.int (p2 % (64 : Int32))), .val (.int (p3 % (64 : Int32))), .val (.double (FP.i2d (p4 % (1000 : Int32)))), .second, .val (.ref b6), .val (.int (1 : Int32)), .val (.ref b6), .unset] [(.int (1 : Int32))])) _
    refine XS.goto X8.here hx rfl (pc0 := 112) (pc' := 116) rfl (hb hby at_112) (by decide) (by decide) ?_
    show Steps p.tables e below (T8.setTop (mkF m 116 #[.val (.int p1), .val (.int p2), .val (.int p3), .val (.int p4), .val (.ref b5), .val (.int (p1 % (64 : Int32))), .val (.int (p2 % (64 : Int32))), .val (.int (p3 % (64 : Int32))), .val (.double (FP.i2d (p4 % (1000 : Int32)))), .second, .val (.ref b6), .val (.int (1 : Int32)), .val (.ref b6), .unset] [(.int (1 : Int32))])) _
    refine XS.istore X8.here hx rfl (hb hby at_116) rfl (l' := #[.val (.int p1), .val (.int p2), .val (.int p3), .val (.int p4), .val (.ref b5), .val (.int (p1 % (64 : Int32))), .val (.int (p2 % (64 : Int32))), .val (.int (p3 % (64 : Int32))), .val (.double (FP.i2d (p4 % (1000 : Int32)))), .second, .val (.ref b6), .val (.int (1 : Int32)), .val (.ref b6), .unset]) rfl ?_
    show Steps p.tables e below (T8.setTop (mkF m 118 #[.val (.int p1), .val (.int p2), .val (.int p3), .val (.int p4), .val (.ref b5), .val (.int (p1 % (64 : Int32))), .val (.int (p2 % (64 : Int32))), .val (.int (p3 % (64 : Int32))), .val (.double (FP.i2d (p4 % (1000 : Int32)))), .second, .val (.ref b6), .val (.int (1 : Int32)), .val (.ref b6), .unset] [])) _
    refine XS.iload X8.here hx rfl (hb hby at_118) rfl ?_
    show Steps p.tables e below (T8.setTop (mkF m 120 #[.val (.int p1), .val (.int p2), .val (.int p3), .val (.int p4), .val (.ref b5), .val (.int (p1 % (64 : Int32))), .val (.int (p2 % (64 : Int32))), .val (.int (p3 % (64 : Int32))), .val (.double (FP.i2d (p4 % (1000 : Int32)))), .second, .val (.ref b6), .val (.int (1 : Int32)), .val (.ref b6), .unset] [(.int (p2 % (64 : Int32)))])) _
    refine XS.aload X8.here hx rfl (hb hby at_120) rfl rfl ?_
    show Steps p.tables e below (T8.setTop (mkF m 122 #[.val (.int p1), .val (.int p2), .val (.int p3), .val (.int p4), .val (.ref b5), .val (.int (p1 % (64 : Int32))), .val (.int (p2 % (64 : Int32))), .val (.int (p3 % (64 : Int32))), .val (.double (FP.i2d (p4 % (1000 : Int32)))), .second, .val (.ref b6), .val (.int (1 : Int32)), .val (.ref b6), .unset] [(.ref b6), (.int (p2 % (64 : Int32)))])) _
    refine X8.arraylength hx (by rw [e8]; exact Ar_b6_122.1) (State.isArrayOf_alike hZ.alike Ar_b6_122.2.1) (g := (mkF m 122 #[.val (.int p1), .val (.int p2), .val (.int p3), .val (.int p4), .val (.ref b5), .val (.int (p1 % (64 : Int32))), .val (.int (p2 % (64 : Int32))), .val (.int (p3 % (64 : Int32))), .val (.double (FP.i2d (p4 % (1000 : Int32)))), .second, .val (.ref b6), .val (.int (1 : Int32)), .val (.ref b6), .unset] [(.ref b6), (.int (p2 % (64 : Int32)))])) rfl rfl (hb hby at_122) _ ?_
    rw [len_of S_b6_122 N_b6_122]
    show Steps p.tables e below (T8.setTop (mkF m 123 #[.val (.int p1), .val (.int p2), .val (.int p3), .val (.int p4), .val (.ref b5), .val (.int (p1 % (64 : Int32))), .val (.int (p2 % (64 : Int32))), .val (.int (p3 % (64 : Int32))), .val (.double (FP.i2d (p4 % (1000 : Int32)))), .second, .val (.ref b6), .val (.int (1 : Int32)), .val (.ref b6), .unset] [(.int (0 : Int32)), (.int (p2 % (64 : Int32)))])) _
    refine XS.icmpNo X8.here hx rfl (hb hby at_123) rfl (flt hc123).2.2.1 ?_
    show Steps p.tables e below (T8.setTop (mkF m 126 #[.val (.int p1), .val (.int p2), .val (.int p3), .val (.int p4), .val (.ref b5), .val (.int (p1 % (64 : Int32))), .val (.int (p2 % (64 : Int32))), .val (.int (p3 % (64 : Int32))), .val (.double (FP.i2d (p4 % (1000 : Int32)))), .second, .val (.ref b6), .val (.int (1 : Int32)), .val (.ref b6), .unset] [])) _
    refine XS.iload X8.here hx rfl (hb hby at_126) rfl ?_
    show Steps p.tables e below (T8.setTop (mkF m 128 #[.val (.int p1), .val (.int p2), .val (.int p3), .val (.int p4), .val (.ref b5), .val (.int (p1 % (64 : Int32))), .val (.int (p2 % (64 : Int32))), .val (.int (p3 % (64 : Int32))), .val (.double (FP.i2d (p4 % (1000 : Int32)))), .second, .val (.ref b6), .val (.int (1 : Int32)), .val (.ref b6), .unset] [(.int (1 : Int32))])) _
    refine XS.ifNo X8.here hx rfl (hb hby at_128) rfl ((if0 _ _).trans (feq hc128).1) ?_
    show Steps p.tables e below (T8.setTop (mkF m 131 #[.val (.int p1), .val (.int p2), .val (.int p3), .val (.int p4), .val (.ref b5), .val (.int (p1 % (64 : Int32))), .val (.int (p2 % (64 : Int32))), .val (.int (p3 % (64 : Int32))), .val (.double (FP.i2d (p4 % (1000 : Int32)))), .second, .val (.ref b6), .val (.int (1 : Int32)), .val (.ref b6), .unset] [])) _
    refine XS.aload X8.here hx rfl (hb hby at_131) rfl rfl ?_
    show Steps p.tables e below (T8.setTop (mkF m 133 #[.val (.int p1), .val (.int p2), .val (.int p3), .val (.int p4), .val (.ref b5), .val (.int (p1 % (64 : Int32))), .val (.int (p2 % (64 : Int32))), .val (.int (p3 % (64 : Int32))), .val (.double (FP.i2d (p4 % (1000 : Int32)))), .second, .val (.ref b6), .val (.int (1 : Int32)), .val (.ref b6), .unset] [(.ref b6)])) _
    refine XS.aload X8.here hx rfl (hb hby at_133) rfl rfl ?_
    show Steps p.tables e below (T8.setTop (mkF m 135 #[.val (.int p1), .val (.int p2), .val (.int p3), .val (.int p4), .val (.ref b5), .val (.int (p1 % (64 : Int32))), .val (.int (p2 % (64 : Int32))), .val (.int (p3 % (64 : Int32))), .val (.double (FP.i2d (p4 % (1000 : Int32)))), .second, .val (.ref b6), .val (.int (1 : Int32)), .val (.ref b6), .unset] [(.ref b6), (.ref b6)])) _
    refine Jvm.RoadKit.acmp (g := (mkF m 135 #[.val (.int p1), .val (.int p2), .val (.int p3), .val (.int p4), .val (.ref b5), .val (.int (p1 % (64 : Int32))), .val (.int (p2 % (64 : Int32))), .val (.int (p3 % (64 : Int32))), .val (.double (FP.i2d (p4 % (1000 : Int32)))), .second, .val (.ref b6), .val (.int (1 : Int32)), .val (.ref b6), .unset] [(.ref b6), (.ref b6)])) X8 hx rfl rfl rfl (pc0 := 135) (pc' := 138) (same := true) rfl (hb hby at_135) rfl (decide_eq_true rfl) (by decide) (by decide) ?_
    show Steps p.tables e below (T8.setTop (mkF m 138 #[.val (.int p1), .val (.int p2), .val (.int p3), .val (.int p4), .val (.ref b5), .val (.int (p1 % (64 : Int32))), .val (.int (p2 % (64 : Int32))), .val (.int (p3 % (64 : Int32))), .val (.double (FP.i2d (p4 % (1000 : Int32)))), .second, .val (.ref b6), .val (.int (1 : Int32)), .val (.ref b6), .unset] [])) _
    refine XS.aload X8.here hx rfl (hb hby at_138) rfl rfl ?_
    show Steps p.tables e below (T8.setTop (mkF m 140 #[.val (.int p1), .val (.int p2), .val (.int p3), .val (.int p4), .val (.ref b5), .val (.int (p1 % (64 : Int32))), .val (.int (p2 % (64 : Int32))), .val (.int (p3 % (64 : Int32))), .val (.double (FP.i2d (p4 % (1000 : Int32)))), .second, .val (.ref b6), .val (.int (1 : Int32)), .val (.ref b6), .unset] [(.ref b6)])) _
    refine X8.arraylength hx (by rw [e8]; exact Ar_b6_140.1) (State.isArrayOf_alike hZ.alike Ar_b6_140.2.1) (g := (mkF m 140 #[.val (.int p1), .val (.int p2), .val (.int p3), .val (.int p4), .val (.ref b5), .val (.int (p1 % (64 : Int32))), .val (.int (p2 % (64 : Int32))), .val (.int (p3 % (64 : Int32))), .val (.double (FP.i2d (p4 % (1000 : Int32)))), .second, .val (.ref b6), .val (.int (1 : Int32)), .val (.ref b6), .unset] [(.ref b6)])) rfl rfl (hb hby at_140) _ ?_
    rw [len_of S_b6_140 N_b6_140]
    show Steps p.tables e below (T8.setTop (mkF m 141 #[.val (.int p1), .val (.int p2), .val (.int p3), .val (.int p4), .val (.ref b5), .val (.int (p1 % (64 : Int32))), .val (.int (p2 % (64 : Int32))), .val (.int (p3 % (64 : Int32))), .val (.double (FP.i2d (p4 % (1000 : Int32)))), .second, .val (.ref b6), .val (.int (1 : Int32)), .val (.ref b6), .unset] [(.int (0 : Int32))])) _
    refine XS.ifYes X8.here hx rfl (pc0 := 141) (pc' := 158) rfl (hb hby at_141) rfl ((if0 _ _).trans (teq (rfl : (0 : Int32) = (0 : Int32))).1) (by decide) (by decide) ?_
    show Steps p.tables e below (T8.setTop (mkF m 158 #[.val (.int p1), .val (.int p2), .val (.int p3), .val (.int p4), .val (.ref b5), .val (.int (p1 % (64 : Int32))), .val (.int (p2 % (64 : Int32))), .val (.int (p3 % (64 : Int32))), .val (.double (FP.i2d (p4 % (1000 : Int32)))), .second, .val (.ref b6), .val (.int (1 : Int32)), .val (.ref b6), .unset] [])) _
    refine XS.iconst X8.here hx rfl (hb hby at_158) ?_
    show Steps p.tables e below (T8.setTop (mkF m 159 #[.val (.int p1), .val (.int p2), .val (.int p3), .val (.int p4), .val (.ref b5), .val (.int (p1 % (64 : Int32))), .val (.int (p2 % (64 : Int32))), .val (.int (p3 % (64 : Int32))), .val (.double (FP.i2d (p4 % (1000 : Int32)))), .second, .val (.ref b6), .val (.int (1 : Int32)), .val (.ref b6), .unset] [(.int (1 : Int32))])) _
    refine XS.goto X8.here hx rfl (pc0 := 159) (pc' := 163) rfl (hb hby at_159) (by decide) (by decide) ?_
    show Steps p.tables e below (T8.setTop (mkF m 163 #[.val (.int p1), .val (.int p2), .val (.int p3), .val (.int p4), .val (.ref b5), .val (.int (p1 % (64 : Int32))), .val (.int (p2 % (64 : Int32))), .val (.int (p3 % (64 : Int32))), .val (.double (FP.i2d (p4 % (1000 : Int32)))), .second, .val (.ref b6), .val (.int (1 : Int32)), .val (.ref b6), .unset] [(.int (1 : Int32))])) _
    refine XS.istore X8.here hx rfl (hb hby at_163) rfl (l' := #[.val (.int p1), .val (.int p2), .val (.int p3), .val (.int p4), .val (.ref b5), .val (.int (p1 % (64 : Int32))), .val (.int (p2 % (64 : Int32))), .val (.int (p3 % (64 : Int32))), .val (.double (FP.i2d (p4 % (1000 : Int32)))), .second, .val (.ref b6), .val (.int (1 : Int32)), .val (.ref b6), .unset]) rfl ?_
    show Steps p.tables e below (T8.setTop (mkF m 165 #[.val (.int p1), .val (.int p2), .val (.int p3), .val (.int p4), .val (.ref b5), .val (.int (p1 % (64 : Int32))), .val (.int (p2 % (64 : Int32))), .val (.int (p3 % (64 : Int32))), .val (.double (FP.i2d (p4 % (1000 : Int32)))), .second, .val (.ref b6), .val (.int (1 : Int32)), .val (.ref b6), .unset] [])) _
    refine XS.aload X8.here hx rfl (hb hby at_165) rfl rfl ?_
    show Steps p.tables e below (T8.setTop (mkF m 167 #[.val (.int p1), .val (.int p2), .val (.int p3), .val (.int p4), .val (.ref b5), .val (.int (p1 % (64 : Int32))), .val (.int (p2 % (64 : Int32))), .val (.int (p3 % (64 : Int32))), .val (.double (FP.i2d (p4 % (1000 : Int32)))), .second, .val (.ref b6), .val (.int (1 : Int32)), .val (.ref b6), .unset] [(.ref b5)])) _
    refine XS.iload X8.here hx rfl (hb hby at_167) rfl ?_
    show Steps p.tables e below (T8.setTop (mkF m 169 #[.val (.int p1), .val (.int p2), .val (.int p3), .val (.int p4), .val (.ref b5), .val (.int (p1 % (64 : Int32))), .val (.int (p2 % (64 : Int32))), .val (.int (p3 % (64 : Int32))), .val (.double (FP.i2d (p4 % (1000 : Int32)))), .second, .val (.ref b6), .val (.int (1 : Int32)), .val (.ref b6), .unset] [(.int (p3 % (64 : Int32))), (.ref b5)])) _
    refine st9.trans ?_
    show Steps p.tables e below (T9.setTop (mkF m 172 #[.val (.int p1), .val (.int p2), .val (.int p3), .val (.int p4), .val (.ref b5), .val (.int (p1 % (64 : Int32))), .val (.int (p2 % (64 : Int32))), .val (.int (p3 % (64 : Int32))), .val (.double (FP.i2d (p4 % (1000 : Int32)))), .second, .val (.ref b6), .val (.int (1 : Int32)), .val (.ref b6), .unset] [(.ref b9)])) _
    refine XS.astore X9.here hx rfl (hb hby at_172) rfl rfl (l' := #[.val (.int p1), .val (.int p2), .val (.int p3), .val (.int p4), .val (.ref b5), .val (.int (p1 % (64 : Int32))), .val (.int (p2 % (64 : Int32))), .val (.int (p3 % (64 : Int32))), .val (.double (FP.i2d (p4 % (1000 : Int32)))), .second, .val (.ref b6), .val (.int (1 : Int32)), .val (.ref b6), .val (.ref b9)]) rfl ?_
    show Steps p.tables e below (T9.setTop (mkF m 174 #[.val (.int p1), .val (.int p2), .val (.int p3), .val (.int p4), .val (.ref b5), .val (.int (p1 % (64 : Int32))), .val (.int (p2 % (64 : Int32))), .val (.int (p3 % (64 : Int32))), .val (.double (FP.i2d (p4 % (1000 : Int32)))), .second, .val (.ref b6), .val (.int (1 : Int32)), .val (.ref b6), .val (.ref b9)] [])) _
    refine XS.aload X9.here hx rfl (hb hby at_174) rfl rfl ?_
    show Steps p.tables e below (T9.setTop (mkF m 176 #[.val (.int p1), .val (.int p2), .val (.int p3), .val (.int p4), .val (.ref b5), .val (.int (p1 % (64 : Int32))), .val (.int (p2 % (64 : Int32))), .val (.int (p3 % (64 : Int32))), .val (.double (FP.i2d (p4 % (1000 : Int32)))), .second, .val (.ref b6), .val (.int (1 : Int32)), .val (.ref b6), .val (.ref b9)] [(.ref b9)])) _
    refine XS.ifnonnullYes X9.here hx rfl (pc0 := 176) (pc' := 181) rfl (hb hby at_176) rfl (by decide) (by decide) ?_
    show Steps p.tables e below (T9.setTop (mkF m 181 #[.val (.int p1), .val (.int p2), .val (.int p3), .val (.int p4), .val (.ref b5), .val (.int (p1 % (64 : Int32))), .val (.int (p2 % (64 : Int32))), .val (.int (p3 % (64 : Int32))), .val (.double (FP.i2d (p4 % (1000 : Int32)))), .second, .val (.ref b6), .val (.int (1 : Int32)), .val (.ref b6), .val (.ref b9)] [])) _
    refine XS.iload X9.here hx rfl (hb hby at_181) rfl ?_
    show Steps p.tables e below (T9.setTop (mkF m 183 #[.val (.int p1), .val (.int p2), .val (.int p3), .val (.int p4), .val (.ref b5), .val (.int (p1 % (64 : Int32))), .val (.int (p2 % (64 : Int32))), .val (.int (p3 % (64 : Int32))), .val (.double (FP.i2d (p4 % (1000 : Int32)))), .second, .val (.ref b6), .val (.int (1 : Int32)), .val (.ref b6), .val (.ref b9)] [(.int (1 : Int32))])) _
    refine XS.ifNo X9.here hx rfl (hb hby at_183) rfl ((if0 _ _).trans (feq hc183).1) ?_
    show Steps p.tables e below (T9.setTop (mkF m 186 #[.val (.int p1), .val (.int p2), .val (.int p3), .val (.int p4), .val (.ref b5), .val (.int (p1 % (64 : Int32))), .val (.int (p2 % (64 : Int32))), .val (.int (p3 % (64 : Int32))), .val (.double (FP.i2d (p4 % (1000 : Int32)))), .second, .val (.ref b6), .val (.int (1 : Int32)), .val (.ref b6), .val (.ref b9)] [])) _
    refine XS.aload X9.here hx rfl (hb hby at_186) rfl rfl ?_
    show Steps p.tables e below (T9.setTop (mkF m 188 #[.val (.int p1), .val (.int p2), .val (.int p3), .val (.int p4), .val (.ref b5), .val (.int (p1 % (64 : Int32))), .val (.int (p2 % (64 : Int32))), .val (.int (p3 % (64 : Int32))), .val (.double (FP.i2d (p4 % (1000 : Int32)))), .second, .val (.ref b6), .val (.int (1 : Int32)), .val (.ref b6), .val (.ref b9)] [(.ref b9)])) _
    refine X9.arraylength hx (by exact Ar_b9_188.1) (State.isArrayOf_alike hZ.alike Ar_b9_188.2.1) (g := (mkF m 188 #[.val (.int p1), .val (.int p2), .val (.int p3), .val (.int p4), .val (.ref b5), .val (.int (p1 % (64 : Int32))), .val (.int (p2 % (64 : Int32))), .val (.int (p3 % (64 : Int32))), .val (.double (FP.i2d (p4 % (1000 : Int32)))), .second, .val (.ref b6), .val (.int (1 : Int32)), .val (.ref b6), .val (.ref b9)] [(.ref b9)])) rfl rfl (hb hby at_188) _ ?_
    rw [len_of S_b9_188 N_b9_188]
    show Steps p.tables e below (T9.setTop (mkF m 189 #[.val (.int p1), .val (.int p2), .val (.int p3), .val (.int p4), .val (.ref b5), .val (.int (p1 % (64 : Int32))), .val (.int (p2 % (64 : Int32))), .val (.int (p3 % (64 : Int32))), .val (.double (FP.i2d (p4 % (1000 : Int32)))), .second, .val (.ref b6), .val (.int (1 : Int32)), .val (.ref b6), .val (.ref b9)] [(.int (p3 % (64 : Int32)))])) _
    refine XS.iload X9.here hx rfl (hb hby at_189) rfl ?_
    show Steps p.tables e below (T9.setTop (mkF m 191 #[.val (.int p1), .val (.int p2), .val (.int p3), .val (.int p4), .val (.ref b5), .val (.int (p1 % (64 : Int32))), .val (.int (p2 % (64 : Int32))), .val (.int (p3 % (64 : Int32))), .val (.double (FP.i2d (p4 % (1000 : Int32)))), .second, .val (.ref b6), .val (.int (1 : Int32)), .val (.ref b6), .val (.ref b9)] [(.int (p3 % (64 : Int32))), (.int (p3 % (64 : Int32)))])) _
    refine XS.icmpNo X9.here hx rfl (hb hby at_191) rfl (flt hc191).1 ?_
    show Steps p.tables e below (T9.setTop (mkF m 194 #[.val (.int p1), .val (.int p2), .val (.int p3), .val (.int p4), .val (.ref b5), .val (.int (p1 % (64 : Int32))), .val (.int (p2 % (64 : Int32))), .val (.int (p3 % (64 : Int32))), .val (.double (FP.i2d (p4 % (1000 : Int32)))), .second, .val (.ref b6), .val (.int (1 : Int32)), .val (.ref b6), .val (.ref b9)] [])) _
    refine XS.iconst X9.here hx rfl (hb hby at_194) ?_
    show Steps p.tables e below (T9.setTop (mkF m 195 #[.val (.int p1), .val (.int p2), .val (.int p3), .val (.int p4), .val (.ref b5), .val (.int (p1 % (64 : Int32))), .val (.int (p2 % (64 : Int32))), .val (.int (p3 % (64 : Int32))), .val (.double (FP.i2d (p4 % (1000 : Int32)))), .second, .val (.ref b6), .val (.int (1 : Int32)), .val (.ref b6), .val (.ref b9)] [(.int (1 : Int32))])) _
    refine XS.goto X9.here hx rfl (pc0 := 195) (pc' := 199) rfl (hb hby at_195) (by decide) (by decide) ?_
    show Steps p.tables e below (T9.setTop (mkF m 199 #[.val (.int p1), .val (.int p2), .val (.int p3), .val (.int p4), .val (.ref b5), .val (.int (p1 % (64 : Int32))), .val (.int (p2 % (64 : Int32))), .val (.int (p3 % (64 : Int32))), .val (.double (FP.i2d (p4 % (1000 : Int32)))), .second, .val (.ref b6), .val (.int (1 : Int32)), .val (.ref b6), .val (.ref b9)] [(.int (1 : Int32))])) _
    refine XS.istore X9.here hx rfl (hb hby at_199) rfl (l' := #[.val (.int p1), .val (.int p2), .val (.int p3), .val (.int p4), .val (.ref b5), .val (.int (p1 % (64 : Int32))), .val (.int (p2 % (64 : Int32))), .val (.int (p3 % (64 : Int32))), .val (.double (FP.i2d (p4 % (1000 : Int32)))), .second, .val (.ref b6), .val (.int (1 : Int32)), .val (.ref b6), .val (.ref b9)]) rfl ?_
    show Steps p.tables e below (T9.setTop (mkF m 201 #[.val (.int p1), .val (.int p2), .val (.int p3), .val (.int p4), .val (.ref b5), .val (.int (p1 % (64 : Int32))), .val (.int (p2 % (64 : Int32))), .val (.int (p3 % (64 : Int32))), .val (.double (FP.i2d (p4 % (1000 : Int32)))), .second, .val (.ref b6), .val (.int (1 : Int32)), .val (.ref b6), .val (.ref b9)] [])) _
    refine XS.iload X9.here hx rfl (hb hby at_201) rfl ?_
    show Steps p.tables e below (T9.setTop (mkF m 203 #[.val (.int p1), .val (.int p2), .val (.int p3), .val (.int p4), .val (.ref b5), .val (.int (p1 % (64 : Int32))), .val (.int (p2 % (64 : Int32))), .val (.int (p3 % (64 : Int32))), .val (.double (FP.i2d (p4 % (1000 : Int32)))), .second, .val (.ref b6), .val (.int (1 : Int32)), .val (.ref b6), .val (.ref b9)] [(.int (p3 % (64 : Int32)))])) _
    refine XS.aload X9.here hx rfl (hb hby at_203) rfl rfl ?_
    show Steps p.tables e below (T9.setTop (mkF m 205 #[.val (.int p1), .val (.int p2), .val (.int p3), .val (.int p4), .val (.ref b5), .val (.int (p1 % (64 : Int32))), .val (.int (p2 % (64 : Int32))), .val (.int (p3 % (64 : Int32))), .val (.double (FP.i2d (p4 % (1000 : Int32)))), .second, .val (.ref b6), .val (.int (1 : Int32)), .val (.ref b6), .val (.ref b9)] [(.ref b6), (.int (p3 % (64 : Int32)))])) _
    refine X9.arraylength hx (by exact Ar_b6_205.1) (State.isArrayOf_alike hZ.alike Ar_b6_205.2.1) (g := (mkF m 205 #[.val (.int p1), .val (.int p2), .val (.int p3), .val (.int p4), .val (.ref b5), .val (.int (p1 % (64 : Int32))), .val (.int (p2 % (64 : Int32))), .val (.int (p3 % (64 : Int32))), .val (.double (FP.i2d (p4 % (1000 : Int32)))), .second, .val (.ref b6), .val (.int (1 : Int32)), .val (.ref b6), .val (.ref b9)] [(.ref b6), (.int (p3 % (64 : Int32)))])) rfl rfl (hb hby at_205) _ ?_
    rw [len_of S_b6_205 N_b6_205]
    show Steps p.tables e below (T9.setTop (mkF m 206 #[.val (.int p1), .val (.int p2), .val (.int p3), .val (.int p4), .val (.ref b5), .val (.int (p1 % (64 : Int32))), .val (.int (p2 % (64 : Int32))), .val (.int (p3 % (64 : Int32))), .val (.double (FP.i2d (p4 % (1000 : Int32)))), .second, .val (.ref b6), .val (.int (1 : Int32)), .val (.ref b6), .val (.ref b9)] [(.int (0 : Int32)), (.int (p3 % (64 : Int32)))])) _
    refine XS.icmpYes X9.here hx rfl (pc0 := 206) (pc' := 228) rfl (hb hby at_206) rfl (tlt hc206).2.2.1 (by decide) (by decide) ?_
    show Steps p.tables e below (T9.setTop (mkF m 228 #[.val (.int p1), .val (.int p2), .val (.int p3), .val (.int p4), .val (.ref b5), .val (.int (p1 % (64 : Int32))), .val (.int (p2 % (64 : Int32))), .val (.int (p3 % (64 : Int32))), .val (.double (FP.i2d (p4 % (1000 : Int32)))), .second, .val (.ref b6), .val (.int (1 : Int32)), .val (.ref b6), .val (.ref b9)] [])) _
    refine XS.iload X9.here hx rfl (hb hby at_228) rfl ?_
    show Steps p.tables e below (T9.setTop (mkF m 230 #[.val (.int p1), .val (.int p2), .val (.int p3), .val (.int p4), .val (.ref b5), .val (.int (p1 % (64 : Int32))), .val (.int (p2 % (64 : Int32))), .val (.int (p3 % (64 : Int32))), .val (.double (FP.i2d (p4 % (1000 : Int32)))), .second, .val (.ref b6), .val (.int (1 : Int32)), .val (.ref b6), .val (.ref b9)] [(.int (1 : Int32))])) _
    exact retN X9 hx (t := .boolean) Bd.returns (by simp) (hb hby at_230) hr
  · show Q0 Z p1 p2 p3 p4 h0 n0 _ T9.heap _
    exact ⟨rfl, N9⟩
set_option maxRecDepth 65536 in
set_option maxHeartbeats 40000000 in
theorem rm0_000 (l : Launch) (Z : State) (a0 : Array Value) (hw : ∀ d ∈ tables_1, d.before a0 Z = true) (ws : List Jvm.Cond) (p1 : Int32) (p2 : Int32) (p3 : Int32) (p4 : Int32) (h0 : Heap) (n0 : Nat) (Z0 : n0 ≤ h0.size) (ho39 : ¬ ((0 : Int32) < (p1 % (64 : Int32)))) (ho86 : ¬ ((0 : Int32) < (p2 % (64 : Int32)))) (ho169 : ¬ ((0 : Int32) < (p3 % (64 : Int32)))) (hc56 : ¬ ((0 : Int32) < (p1 % (64 : Int32)))) (hc69 : ¬ ((0 : Int32) < (0 : Int32))) (hc100 : ¬ ((1 : Int32) = (0 : Int32))) (hc108 : ¬ ((0 : Int32) < (p2 % (64 : Int32)))) (hc123 : ¬ ((0 : Int32) < (p2 % (64 : Int32)))) (hc128 : ¬ ((1 : Int32) = (0 : Int32))) (hc183 : ¬ ((1 : Int32) = (0 : Int32))) (hc191 : ¬ ((0 : Int32) < (p3 % (64 : Int32)))) (hc206 : ¬ ((0 : Int32) < (p3 % (64 : Int32)))) (hc211 : ¬ ((1 : Int32) = (0 : Int32))) :
    MetFree l x (head1 (Jvm.Cond.code x code maxLocals ret :: ws) room_1) (fun a U => a = #[(.int p1), (.int p2), (.int p3), (.int p4)] ∧ Z.Warmed39 U.vm ∧ U.heap = h0) (fun _ _ _ _ _ => True) (fun _ U o U' => ∃ v L, o = .returned v ∧ Q0 Z p1 p2 p3 p4 h0 n0 v U'.heap L ∧ FrameEnd U o U' L room_1.cells room_1.slots) := by
  refine MetFree.of_bodySF (plainFor_of_name pn_0) hisR ?_
  intro p e s m args below meth c s₁ Bd hml0 hP hK
  obtain ⟨rfl, hZ, hh⟩ := hP
  have hx := Bd.exec
  have hby := Bd.bytes
  have hml : c.maxLocals = 14 := hml0
  have hown : s.vm.findClass "com/example/understory/understory/sim/BufferOfPinLaw" = some m.cls := findClass_of_methodNamed Bd.named
  have hnm := (name_of_methodNamed Bd.named Bd.method).1
  have X0 : Stand p l e room_1 s m #[(.int p1), (.int p2), (.int p3), (.int p4)] below meth c s₁ [] 0 0 := Stand.of_body Bd
  have e0 : s₁.heap = h0 := by rw [← hh, Bd.state]; rfl
  have N0 := Fr.nil n0
  have pre0 : ∀ t, Steps p.tables e below (s₁.setTop (mkF m 0 #[.val (.int p1), .val (.int p2), .val (.int p3), .val (.int p4), .unset, .unset, .unset, .unset, .unset, .unset, .unset, .unset, .unset, .unset] [])) t → Steps p.tables e below (s₁.setTop (entryFrame m #[(.int p1), (.int p2), (.int p3), (.int p4)] maxLocals)) t := fun t k => castTop (ef_0 m p1 p2 p3 p4) k
  obtain ⟨T5, h5, X5, e5, E5, A5, D5, -, st5⟩ := newO X0 hx hZ hown (hw _ (List.mem_of_getElem? (i := 0) rfl)) (hw _ (List.mem_of_getElem? (i := 1) rfl)) (hw _ (List.mem_of_getElem? (i := 2) rfl)) e0 (g := (mkF m 0 #[.val (.int p1), .val (.int p2), .val (.int p3), .val (.int p4), .unset, .unset, .unset, .unset, .unset, .unset, .unset, .unset, .unset, .unset] [])) rfl (hb hby at_0) (by decide) (by decide)
  obtain ⟨b5, g5⟩ : ∃ z, z = h0.size := ⟨_, rfl⟩
  rw [← g5] at A5 D5 st5
  have F_values_b5 : Fld Z h5 b5 "com/example/understory/understory/sim/ColumnEvaluator$Buffer" "values" "[D" .null := D5 (Or.inl (hw _ (List.mem_of_getElem? (i := 11) rfl))) (ty := (.array .double)) (by decide)
  have E_b5 := A5
  have g_b5 : n0 ≤ b5 := Nat.le_trans Z0 (Nat.le_of_eq g5.symm)
  obtain ⟨b6, g6⟩ : ∃ z, z = h5.size := ⟨_, rfl⟩
  have g_b6 : n0 ≤ b6 := Nat.le_trans (Nat.le_trans Z0 E5.1) (Nat.le_of_eq g6.symm)
  have ne_b5_b6 : b5 ≠ b6 := Nat.ne_of_lt (Nat.lt_of_lt_of_le E_b5.lt (Nat.le_of_eq g6.symm))
  obtain ⟨_, _, ⟨T6, L6, k6, n6⟩, -, X6, ⟨Lc6, hQ6, l6, y6, z6⟩, st6⟩ := X5.specialBack hx (y := (⟨"com/example/understory/understory/sim/ColumnEvaluator$Buffer", "<init>", "()V"⟩ : MethodName)) rfl hown (mvT hZ (hw _ (List.mem_of_getElem? (i := 3) rfl))) (mvT hZ (hw _ (List.mem_of_getElem? (i := 4) rfl))) (mvT hZ (hw _ (List.mem_of_getElem? (i := 5) rfl))) (by decide) (backOf (W := 1) (rm1 l Z a0 hw [] b5 .null b6 h5 n0 (Nat.le_trans Z0 E5.1) E_b5 F_values_b5 g_b5 g6) hZ (hw _ (List.mem_of_getElem? (i := 5) rfl)) (hw _ (List.mem_of_getElem? (i := 2) rfl)) (by decide) (by decide)) (g := (mkF m 4 #[.val (.int p1), .val (.int p2), .val (.int p3), .val (.int p4), .unset, .unset, .unset, .unset, .unset, .unset, .unset, .unset, .unset, .unset] [(.ref b5), (.ref b5)])) rfl (by rw [hml]; rfl) (Steps.refl _) (a := b5) (argsL := []) (rest := [(.ref b5)]) (lenOf pd_0_0 rfl) rfl (by show 2 * 0 + _ ≤ _; exact Nat.le_of_eq rfl) (hb hby at_4) (fun _ _ => ⟨rfl, e5, (by decide : 1 + 1 ≤ _), (by decide : 1 + 0 ≤ _)⟩)
  dsimp only [Pt.U, Pt.locs, Pt.cells, Pt.slots] at X6 l6 y6 z6 st6 hQ6
  subst l6 y6 z6
  obtain ⟨rfl, N6q, K6, gE6, gF6, kk6, gV6⟩ := hQ6
  have N6 := Fr.app N0 N6q
  obtain ⟨cq7, kq7, q7a, q7b, q7c⟩ := isOf hZ rfl gE6
  obtain ⟨_, _, ⟨T7, L7, k7, n7⟩, -, X7, ⟨Lc7, hQ7, l7, y7, z7⟩, st7⟩ := X6.virtualBack hx (y := (⟨"com/example/understory/understory/sim/ColumnEvaluator$Buffer", "of", "(I)[D"⟩ : MethodName)) (z := (⟨"com/example/understory/understory/sim/ColumnEvaluator$Buffer", "of", "(I)[D"⟩ : MethodName)) hown (mvT hZ (hw _ (List.mem_of_getElem? (i := 12) rfl))) (mvT hZ (hw _ (List.mem_of_getElem? (i := 13) rfl))) (notFace_of_selects (args := #[]) (mvT hZ (hw _ (List.mem_of_getElem? (i := 15) rfl)))) (mvT hZ (hw _ (List.mem_of_getElem? (i := 15) rfl))) (mvT hZ (hw _ (List.mem_of_getElem? (i := 14) rfl))) (by decide) (backOf (W := 0) (rm3T l Z a0 hw [] b5 (p1 % (64 : Int32)) b6 _ (0 : Int32) _ _ T6.heap n0 (Nat.le_trans (Nat.le_trans Z0 E5.1) K6.1) gF6 gV6 ho39) hZ (hw _ (List.mem_of_getElem? (i := 16) rfl)) (hw _ (List.mem_of_getElem? (i := 2) rfl)) (by decide) (by decide)) q7a q7c (g := (mkF m 39 #[.val (.int p1), .val (.int p2), .val (.int p3), .val (.int p4), .val (.ref b5), .val (.int (p1 % (64 : Int32))), .val (.int (p2 % (64 : Int32))), .val (.int (p3 % (64 : Int32))), .val (.double (FP.i2d (p4 % (1000 : Int32)))), .second, .unset, .unset, .unset, .unset] [(.int (p1 % (64 : Int32))), (.ref b5)])) rfl (by rw [hml]; rfl) (Steps.refl _) (argsL := [(.int (p1 % (64 : Int32)))]) (rest := []) (lenOf pd_0_1 rfl) rfl (by show 2 * 0 + _ ≤ _; exact Nat.le_of_eq rfl) (hb hby at_39) (fun _ _ => ⟨rfl, rfl, (by decide : 2 + 0 ≤ _), (by decide : 1 + 0 ≤ _)⟩)
  dsimp only [Pt.U, Pt.locs, Pt.cells, Pt.slots] at X7 l7 y7 z7 st7 hQ7
  subst l7 y7 z7
  obtain ⟨rfl, N7q, e7⟩ := hQ7
  have N7 := Fr.app N6 N7q
  obtain ⟨cl_b6_53, Ar_b6_53, -, S_b6_53, N_b6_53, -, -⟩ := id (gV6)
  obtain ⟨cl_b6_68, Ar_b6_68, -, S_b6_68, N_b6_68, -, -⟩ := id (gV6)
  obtain ⟨cq8, kq8, q8a, q8b, q8c⟩ := isOf hZ e7 gE6
  obtain ⟨_, _, ⟨T8, L8, k8, n8⟩, -, X8, ⟨Lc8, hQ8, l8, y8, z8⟩, st8⟩ := X7.virtualBack hx (y := (⟨"com/example/understory/understory/sim/ColumnEvaluator$Buffer", "of", "(I)[D"⟩ : MethodName)) (z := (⟨"com/example/understory/understory/sim/ColumnEvaluator$Buffer", "of", "(I)[D"⟩ : MethodName)) hown (mvT hZ (hw _ (List.mem_of_getElem? (i := 12) rfl))) (mvT hZ (hw _ (List.mem_of_getElem? (i := 13) rfl))) (notFace_of_selects (args := #[]) (mvT hZ (hw _ (List.mem_of_getElem? (i := 15) rfl)))) (mvT hZ (hw _ (List.mem_of_getElem? (i := 15) rfl))) (mvT hZ (hw _ (List.mem_of_getElem? (i := 14) rfl))) (by decide) (backOf (W := 0) (rm3T l Z a0 hw [] b5 (p2 % (64 : Int32)) b6 _ (0 : Int32) _ _ T6.heap n0 (Nat.le_trans (Nat.le_trans Z0 E5.1) K6.1) gF6 gV6 ho86) hZ (hw _ (List.mem_of_getElem? (i := 16) rfl)) (hw _ (List.mem_of_getElem? (i := 2) rfl)) (by decide) (by decide)) q8a q8c (g := (mkF m 86 #[.val (.int p1), .val (.int p2), .val (.int p3), .val (.int p4), .val (.ref b5), .val (.int (p1 % (64 : Int32))), .val (.int (p2 % (64 : Int32))), .val (.int (p3 % (64 : Int32))), .val (.double (FP.i2d (p4 % (1000 : Int32)))), .second, .val (.ref b6), .val (.int (1 : Int32)), .unset, .unset] [(.int (p2 % (64 : Int32))), (.ref b5)])) rfl (by rw [hml]; rfl) (Steps.refl _) (argsL := [(.int (p2 % (64 : Int32)))]) (rest := []) (lenOf pd_0_1 rfl) rfl (by show 2 * 0 + _ ≤ _; exact Nat.le_of_eq rfl) (hb hby at_86) (fun _ _ => ⟨rfl, e7, (by decide : 2 + 0 ≤ _), (by decide : 1 + 0 ≤ _)⟩)
  dsimp only [Pt.U, Pt.locs, Pt.cells, Pt.slots] at X8 l8 y8 z8 st8 hQ8
  subst l8 y8 z8
  obtain ⟨rfl, N8q, e8⟩ := hQ8
  have N8 := Fr.app N7 N8q
  obtain ⟨cl_b6_105, Ar_b6_105, -, S_b6_105, N_b6_105, -, -⟩ := id (gV6)
  obtain ⟨cl_b6_122, Ar_b6_122, -, S_b6_122, N_b6_122, -, -⟩ := id (gV6)
  obtain ⟨cl_b6_140, Ar_b6_140, -, S_b6_140, N_b6_140, -, -⟩ := id (gV6)
  obtain ⟨cq9, kq9, q9a, q9b, q9c⟩ := isOf hZ e8 gE6
  obtain ⟨_, _, ⟨T9, L9, k9, n9⟩, -, X9, ⟨Lc9, hQ9, l9, y9, z9⟩, st9⟩ := X8.virtualBack hx (y := (⟨"com/example/understory/understory/sim/ColumnEvaluator$Buffer", "of", "(I)[D"⟩ : MethodName)) (z := (⟨"com/example/understory/understory/sim/ColumnEvaluator$Buffer", "of", "(I)[D"⟩ : MethodName)) hown (mvT hZ (hw _ (List.mem_of_getElem? (i := 12) rfl))) (mvT hZ (hw _ (List.mem_of_getElem? (i := 13) rfl))) (notFace_of_selects (args := #[]) (mvT hZ (hw _ (List.mem_of_getElem? (i := 15) rfl)))) (mvT hZ (hw _ (List.mem_of_getElem? (i := 15) rfl))) (mvT hZ (hw _ (List.mem_of_getElem? (i := 14) rfl))) (by decide) (backOf (W := 0) (rm3T l Z a0 hw [] b5 (p3 % (64 : Int32)) b6 _ (0 : Int32) _ _ T6.heap n0 (Nat.le_trans (Nat.le_trans Z0 E5.1) K6.1) gF6 gV6 ho169) hZ (hw _ (List.mem_of_getElem? (i := 16) rfl)) (hw _ (List.mem_of_getElem? (i := 2) rfl)) (by decide) (by decide)) q9a q9c (g := (mkF m 169 #[.val (.int p1), .val (.int p2), .val (.int p3), .val (.int p4), .val (.ref b5), .val (.int (p1 % (64 : Int32))), .val (.int (p2 % (64 : Int32))), .val (.int (p3 % (64 : Int32))), .val (.double (FP.i2d (p4 % (1000 : Int32)))), .second, .val (.ref b6), .val (.int (1 : Int32)), .val (.ref b6), .unset] [(.int (p3 % (64 : Int32))), (.ref b5)])) rfl (by rw [hml]; rfl) (Steps.refl _) (argsL := [(.int (p3 % (64 : Int32)))]) (rest := []) (lenOf pd_0_1 rfl) rfl (by show 2 * 0 + _ ≤ _; exact Nat.le_of_eq rfl) (hb hby at_169) (fun _ _ => ⟨rfl, e8, (by decide : 2 + 0 ≤ _), (by decide : 1 + 0 ≤ _)⟩)
  dsimp only [Pt.U, Pt.locs, Pt.cells, Pt.slots] at X9 l9 y9 z9 st9 hQ9
  subst l9 y9 z9
  obtain ⟨rfl, N9q, e9⟩ := hQ9
  have N9 := Fr.app N8 N9q
  obtain ⟨cl_b6_188, Ar_b6_188, -, S_b6_188, N_b6_188, -, -⟩ := id (gV6)
  obtain ⟨cl_b6_205, Ar_b6_205, -, S_b6_205, N_b6_205, -, -⟩ := id (gV6)
  obtain ⟨fs, hr, hrun, hended, hW, hsame⟩ := X9.leave (v := some (.int (1 : Int32))) (fun h => by rw [Bd.returns] at h; cases h)
  refine ⟨_, _, pre0 _ ?_, hrun, hended, _, _, rfl, ?_, ⟨_, rfl⟩, hW, hsame.mono (by decide) (by decide)⟩
  · show Steps p.tables e below (s₁.setTop (mkF m 0 #[.val (.int p1), .val (.int p2), .val (.int p3), .val (.int p4), .unset, .unset, .unset, .unset, .unset, .unset, .unset, .unset, .unset, .unset] [])) _
    refine st5 _ ?_
    show Steps p.tables e below (T5.setTop (mkF m 3 #[.val (.int p1), .val (.int p2), .val (.int p3), .val (.int p4), .unset, .unset, .unset, .unset, .unset, .unset, .unset, .unset, .unset, .unset] [(.ref b5)])) _
    refine XS.dup X5.here hx rfl (hb hby at_3) rfl rfl ?_
    show Steps p.tables e below (T5.setTop (mkF m 4 #[.val (.int p1), .val (.int p2), .val (.int p3), .val (.int p4), .unset, .unset, .unset, .unset, .unset, .unset, .unset, .unset, .unset, .unset] [(.ref b5), (.ref b5)])) _
    refine st6.trans ?_
    show Steps p.tables e below (T6.setTop (mkF m 7 #[.val (.int p1), .val (.int p2), .val (.int p3), .val (.int p4), .unset, .unset, .unset, .unset, .unset, .unset, .unset, .unset, .unset, .unset] [(.ref b5)])) _
    refine XS.astore X6.here hx rfl (hb hby at_7) rfl rfl (l' := #[.val (.int p1), .val (.int p2), .val (.int p3), .val (.int p4), .val (.ref b5), .unset, .unset, .unset, .unset, .unset, .unset, .unset, .unset, .unset]) rfl ?_
    show Steps p.tables e below (T6.setTop (mkF m 9 #[.val (.int p1), .val (.int p2), .val (.int p3), .val (.int p4), .val (.ref b5), .unset, .unset, .unset, .unset, .unset, .unset, .unset, .unset, .unset] [])) _
    refine XS.iloadN X6.here hx rfl (hb hby at_9) rfl ?_
    show Steps p.tables e below (T6.setTop (mkF m 10 #[.val (.int p1), .val (.int p2), .val (.int p3), .val (.int p4), .val (.ref b5), .unset, .unset, .unset, .unset, .unset, .unset, .unset, .unset, .unset] [(.int p1)])) _
    refine XS.bipush X6.here hx rfl (hb hby at_10) ?_
    show Steps p.tables e below (T6.setTop (mkF m 12 #[.val (.int p1), .val (.int p2), .val (.int p3), .val (.int p4), .val (.ref b5), .unset, .unset, .unset, .unset, .unset, .unset, .unset, .unset, .unset] [(.int (64 : Int32)), (.int p1)])) _
    refine iremM X6 hx rfl (hb hby at_12) rfl (by decide) ?_
    show Steps p.tables e below (T6.setTop (mkF m 13 #[.val (.int p1), .val (.int p2), .val (.int p3), .val (.int p4), .val (.ref b5), .unset, .unset, .unset, .unset, .unset, .unset, .unset, .unset, .unset] [(.int (p1 % (64 : Int32)))])) _
    refine XS.istore X6.here hx rfl (hb hby at_13) rfl (l' := #[.val (.int p1), .val (.int p2), .val (.int p3), .val (.int p4), .val (.ref b5), .val (.int (p1 % (64 : Int32))), .unset, .unset, .unset, .unset, .unset, .unset, .unset, .unset]) rfl ?_
    show Steps p.tables e below (T6.setTop (mkF m 15 #[.val (.int p1), .val (.int p2), .val (.int p3), .val (.int p4), .val (.ref b5), .val (.int (p1 % (64 : Int32))), .unset, .unset, .unset, .unset, .unset, .unset, .unset, .unset] [])) _
    refine XS.iloadN X6.here hx rfl (hb hby at_15) rfl ?_
    show Steps p.tables e below (T6.setTop (mkF m 16 #[.val (.int p1), .val (.int p2), .val (.int p3), .val (.int p4), .val (.ref b5), .val (.int (p1 % (64 : Int32))), .unset, .unset, .unset, .unset, .unset, .unset, .unset, .unset] [(.int p2)])) _
    refine XS.bipush X6.here hx rfl (hb hby at_16) ?_
    show Steps p.tables e below (T6.setTop (mkF m 18 #[.val (.int p1), .val (.int p2), .val (.int p3), .val (.int p4), .val (.ref b5), .val (.int (p1 % (64 : Int32))), .unset, .unset, .unset, .unset, .unset, .unset, .unset, .unset] [(.int (64 : Int32)), (.int p2)])) _
    refine iremM X6 hx rfl (hb hby at_18) rfl (by decide) ?_
    show Steps p.tables e below (T6.setTop (mkF m 19 #[.val (.int p1), .val (.int p2), .val (.int p3), .val (.int p4), .val (.ref b5), .val (.int (p1 % (64 : Int32))), .unset, .unset, .unset, .unset, .unset, .unset, .unset, .unset] [(.int (p2 % (64 : Int32)))])) _
    refine XS.istore X6.here hx rfl (hb hby at_19) rfl (l' := #[.val (.int p1), .val (.int p2), .val (.int p3), .val (.int p4), .val (.ref b5), .val (.int (p1 % (64 : Int32))), .val (.int (p2 % (64 : Int32))), .unset, .unset, .unset, .unset, .unset, .unset, .unset]) rfl ?_
    show Steps p.tables e below (T6.setTop (mkF m 21 #[.val (.int p1), .val (.int p2), .val (.int p3), .val (.int p4), .val (.ref b5), .val (.int (p1 % (64 : Int32))), .val (.int (p2 % (64 : Int32))), .unset, .unset, .unset, .unset, .unset, .unset, .unset] [])) _
    refine XS.iloadN X6.here hx rfl (hb hby at_21) rfl ?_
    show Steps p.tables e below (T6.setTop (mkF m 22 #[.val (.int p1), .val (.int p2), .val (.int p3), .val (.int p4), .val (.ref b5), .val (.int (p1 % (64 : Int32))), .val (.int (p2 % (64 : Int32))), .unset, .unset, .unset, .unset, .unset, .unset, .unset] [(.int p3)])) _
    refine XS.bipush X6.here hx rfl (hb hby at_22) ?_
    show Steps p.tables e below (T6.setTop (mkF m 24 #[.val (.int p1), .val (.int p2), .val (.int p3), .val (.int p4), .val (.ref b5), .val (.int (p1 % (64 : Int32))), .val (.int (p2 % (64 : Int32))), .unset, .unset, .unset, .unset, .unset, .unset, .unset] [(.int (64 : Int32)), (.int p3)])) _
    refine iremM X6 hx rfl (hb hby at_24) rfl (by decide) ?_
    show Steps p.tables e below (T6.setTop (mkF m 25 #[.val (.int p1), .val (.int p2), .val (.int p3), .val (.int p4), .val (.ref b5), .val (.int (p1 % (64 : Int32))), .val (.int (p2 % (64 : Int32))), .unset, .unset, .unset, .unset, .unset, .unset, .unset] [(.int (p3 % (64 : Int32)))])) _
    refine XS.istore X6.here hx rfl (hb hby at_25) rfl (l' := #[.val (.int p1), .val (.int p2), .val (.int p3), .val (.int p4), .val (.ref b5), .val (.int (p1 % (64 : Int32))), .val (.int (p2 % (64 : Int32))), .val (.int (p3 % (64 : Int32))), .unset, .unset, .unset, .unset, .unset, .unset]) rfl ?_
    show Steps p.tables e below (T6.setTop (mkF m 27 #[.val (.int p1), .val (.int p2), .val (.int p3), .val (.int p4), .val (.ref b5), .val (.int (p1 % (64 : Int32))), .val (.int (p2 % (64 : Int32))), .val (.int (p3 % (64 : Int32))), .unset, .unset, .unset, .unset, .unset, .unset] [])) _
    refine XS.iloadN X6.here hx rfl (hb hby at_27) rfl ?_
    show Steps p.tables e below (T6.setTop (mkF m 28 #[.val (.int p1), .val (.int p2), .val (.int p3), .val (.int p4), .val (.ref b5), .val (.int (p1 % (64 : Int32))), .val (.int (p2 % (64 : Int32))), .val (.int (p3 % (64 : Int32))), .unset, .unset, .unset, .unset, .unset, .unset] [(.int p4)])) _
    refine XS.sipush X6.here hx rfl (hb hby at_28) ?_
    show Steps p.tables e below (T6.setTop (mkF m 31 #[.val (.int p1), .val (.int p2), .val (.int p3), .val (.int p4), .val (.ref b5), .val (.int (p1 % (64 : Int32))), .val (.int (p2 % (64 : Int32))), .val (.int (p3 % (64 : Int32))), .unset, .unset, .unset, .unset, .unset, .unset] [(.int (1000 : Int32)), (.int p4)])) _
    refine iremM X6 hx rfl (hb hby at_31) rfl (by decide) ?_
    show Steps p.tables e below (T6.setTop (mkF m 32 #[.val (.int p1), .val (.int p2), .val (.int p3), .val (.int p4), .val (.ref b5), .val (.int (p1 % (64 : Int32))), .val (.int (p2 % (64 : Int32))), .val (.int (p3 % (64 : Int32))), .unset, .unset, .unset, .unset, .unset, .unset] [(.int (p4 % (1000 : Int32)))])) _
    refine XS.i2dS X6.here hx rfl (hb hby at_32) rfl rfl ?_
    show Steps p.tables e below (T6.setTop (mkF m 33 #[.val (.int p1), .val (.int p2), .val (.int p3), .val (.int p4), .val (.ref b5), .val (.int (p1 % (64 : Int32))), .val (.int (p2 % (64 : Int32))), .val (.int (p3 % (64 : Int32))), .unset, .unset, .unset, .unset, .unset, .unset] [(.double (FP.i2d (p4 % (1000 : Int32))))])) _
    refine XS.dstore X6.here hx rfl (hb hby at_33) rfl (l' := #[.val (.int p1), .val (.int p2), .val (.int p3), .val (.int p4), .val (.ref b5), .val (.int (p1 % (64 : Int32))), .val (.int (p2 % (64 : Int32))), .val (.int (p3 % (64 : Int32))), .val (.double (FP.i2d (p4 % (1000 : Int32)))), .second, .unset, .unset, .unset, .unset]) rfl ?_
    show Steps p.tables e below (T6.setTop (mkF m 35 #[.val (.int p1), .val (.int p2), .val (.int p3), .val (.int p4), .val (.ref b5), .val (.int (p1 % (64 : Int32))), .val (.int (p2 % (64 : Int32))), .val (.int (p3 % (64 : Int32))), .val (.double (FP.i2d (p4 % (1000 : Int32)))), .second, .unset, .unset, .unset, .unset] [])) _
    refine XS.aload X6.here hx rfl (hb hby at_35) rfl rfl ?_
    show Steps p.tables e below (T6.setTop (mkF m 37 #[.val (.int p1), .val (.int p2), .val (.int p3), .val (.int p4), .val (.ref b5), .val (.int (p1 % (64 : Int32))), .val (.int (p2 % (64 : Int32))), .val (.int (p3 % (64 : Int32))), .val (.double (FP.i2d (p4 % (1000 : Int32)))), .second, .unset, .unset, .unset, .unset] [(.ref b5)])) _
    refine XS.iload X6.here hx rfl (hb hby at_37) rfl ?_
    show Steps p.tables e below (T6.setTop (mkF m 39 #[.val (.int p1), .val (.int p2), .val (.int p3), .val (.int p4), .val (.ref b5), .val (.int (p1 % (64 : Int32))), .val (.int (p2 % (64 : Int32))), .val (.int (p3 % (64 : Int32))), .val (.double (FP.i2d (p4 % (1000 : Int32)))), .second, .unset, .unset, .unset, .unset] [(.int (p1 % (64 : Int32))), (.ref b5)])) _
    refine st7.trans ?_
    show Steps p.tables e below (T7.setTop (mkF m 42 #[.val (.int p1), .val (.int p2), .val (.int p3), .val (.int p4), .val (.ref b5), .val (.int (p1 % (64 : Int32))), .val (.int (p2 % (64 : Int32))), .val (.int (p3 % (64 : Int32))), .val (.double (FP.i2d (p4 % (1000 : Int32)))), .second, .unset, .unset, .unset, .unset] [(.ref b6)])) _
    refine XS.astore X7.here hx rfl (hb hby at_42) rfl rfl (l' := #[.val (.int p1), .val (.int p2), .val (.int p3), .val (.int p4), .val (.ref b5), .val (.int (p1 % (64 : Int32))), .val (.int (p2 % (64 : Int32))), .val (.int (p3 % (64 : Int32))), .val (.double (FP.i2d (p4 % (1000 : Int32)))), .second, .val (.ref b6), .unset, .unset, .unset]) rfl ?_
    show Steps p.tables e below (T7.setTop (mkF m 44 #[.val (.int p1), .val (.int p2), .val (.int p3), .val (.int p4), .val (.ref b5), .val (.int (p1 % (64 : Int32))), .val (.int (p2 % (64 : Int32))), .val (.int (p3 % (64 : Int32))), .val (.double (FP.i2d (p4 % (1000 : Int32)))), .second, .val (.ref b6), .unset, .unset, .unset] [])) _
    refine XS.aload X7.here hx rfl (hb hby at_44) rfl rfl ?_
    show Steps p.tables e below (T7.setTop (mkF m 46 #[.val (.int p1), .val (.int p2), .val (.int p3), .val (.int p4), .val (.ref b5), .val (.int (p1 % (64 : Int32))), .val (.int (p2 % (64 : Int32))), .val (.int (p3 % (64 : Int32))), .val (.double (FP.i2d (p4 % (1000 : Int32)))), .second, .val (.ref b6), .unset, .unset, .unset] [(.ref b6)])) _
    refine XS.ifnonnullYes X7.here hx rfl (pc0 := 46) (pc' := 51) rfl (hb hby at_46) rfl (by decide) (by decide) ?_
    show Steps p.tables e below (T7.setTop (mkF m 51 #[.val (.int p1), .val (.int p2), .val (.int p3), .val (.int p4), .val (.ref b5), .val (.int (p1 % (64 : Int32))), .val (.int (p2 % (64 : Int32))), .val (.int (p3 % (64 : Int32))), .val (.double (FP.i2d (p4 % (1000 : Int32)))), .second, .val (.ref b6), .unset, .unset, .unset] [])) _
    refine XS.aload X7.here hx rfl (hb hby at_51) rfl rfl ?_
    show Steps p.tables e below (T7.setTop (mkF m 53 #[.val (.int p1), .val (.int p2), .val (.int p3), .val (.int p4), .val (.ref b5), .val (.int (p1 % (64 : Int32))), .val (.int (p2 % (64 : Int32))), .val (.int (p3 % (64 : Int32))), .val (.double (FP.i2d (p4 % (1000 : Int32)))), .second, .val (.ref b6), .unset, .unset, .unset] [(.ref b6)])) _
    refine X7.arraylength hx (by rw [e7]; exact Ar_b6_53.1) (State.isArrayOf_alike hZ.alike Ar_b6_53.2.1) (g := (mkF m 53 #[.val (.int p1), .val (.int p2), .val (.int p3), .val (.int p4), .val (.ref b5), .val (.int (p1 % (64 : Int32))), .val (.int (p2 % (64 : Int32))), .val (.int (p3 % (64 : Int32))), .val (.double (FP.i2d (p4 % (1000 : Int32)))), .second, .val (.ref b6), .unset, .unset, .unset] [(.ref b6)])) rfl rfl (hb hby at_53) _ ?_
    rw [len_of S_b6_53 N_b6_53]
    show Steps p.tables e below (T7.setTop (mkF m 54 #[.val (.int p1), .val (.int p2), .val (.int p3), .val (.int p4), .val (.ref b5), .val (.int (p1 % (64 : Int32))), .val (.int (p2 % (64 : Int32))), .val (.int (p3 % (64 : Int32))), .val (.double (FP.i2d (p4 % (1000 : Int32)))), .second, .val (.ref b6), .unset, .unset, .unset] [(.int (0 : Int32))])) _
    refine XS.iload X7.here hx rfl (hb hby at_54) rfl ?_
    show Steps p.tables e below (T7.setTop (mkF m 56 #[.val (.int p1), .val (.int p2), .val (.int p3), .val (.int p4), .val (.ref b5), .val (.int (p1 % (64 : Int32))), .val (.int (p2 % (64 : Int32))), .val (.int (p3 % (64 : Int32))), .val (.double (FP.i2d (p4 % (1000 : Int32)))), .second, .val (.ref b6), .unset, .unset, .unset] [(.int (p1 % (64 : Int32))), (.int (0 : Int32))])) _
    refine XS.icmpNo X7.here hx rfl (hb hby at_56) rfl (flt hc56).1 ?_
    show Steps p.tables e below (T7.setTop (mkF m 59 #[.val (.int p1), .val (.int p2), .val (.int p3), .val (.int p4), .val (.ref b5), .val (.int (p1 % (64 : Int32))), .val (.int (p2 % (64 : Int32))), .val (.int (p3 % (64 : Int32))), .val (.double (FP.i2d (p4 % (1000 : Int32)))), .second, .val (.ref b6), .unset, .unset, .unset] [])) _
    refine XS.iconst X7.here hx rfl (hb hby at_59) ?_
    show Steps p.tables e below (T7.setTop (mkF m 60 #[.val (.int p1), .val (.int p2), .val (.int p3), .val (.int p4), .val (.ref b5), .val (.int (p1 % (64 : Int32))), .val (.int (p2 % (64 : Int32))), .val (.int (p3 % (64 : Int32))), .val (.double (FP.i2d (p4 % (1000 : Int32)))), .second, .val (.ref b6), .unset, .unset, .unset] [(.int (1 : Int32))])) _
    refine XS.goto X7.here hx rfl (pc0 := 60) (pc' := 64) rfl (hb hby at_60) (by decide) (by decide) ?_
    show Steps p.tables e below (T7.setTop (mkF m 64 #[.val (.int p1), .val (.int p2), .val (.int p3), .val (.int p4), .val (.ref b5), .val (.int (p1 % (64 : Int32))), .val (.int (p2 % (64 : Int32))), .val (.int (p3 % (64 : Int32))), .val (.double (FP.i2d (p4 % (1000 : Int32)))), .second, .val (.ref b6), .unset, .unset, .unset] [(.int (1 : Int32))])) _
    refine XS.istore X7.here hx rfl (hb hby at_64) rfl (l' := #[.val (.int p1), .val (.int p2), .val (.int p3), .val (.int p4), .val (.ref b5), .val (.int (p1 % (64 : Int32))), .val (.int (p2 % (64 : Int32))), .val (.int (p3 % (64 : Int32))), .val (.double (FP.i2d (p4 % (1000 : Int32)))), .second, .val (.ref b6), .val (.int (1 : Int32)), .unset, .unset]) rfl ?_
    show Steps p.tables e below (T7.setTop (mkF m 66 #[.val (.int p1), .val (.int p2), .val (.int p3), .val (.int p4), .val (.ref b5), .val (.int (p1 % (64 : Int32))), .val (.int (p2 % (64 : Int32))), .val (.int (p3 % (64 : Int32))), .val (.double (FP.i2d (p4 % (1000 : Int32)))), .second, .val (.ref b6), .val (.int (1 : Int32)), .unset, .unset] [])) _
    refine XS.aload X7.here hx rfl (hb hby at_66) rfl rfl ?_
    show Steps p.tables e below (T7.setTop (mkF m 68 #[.val (.int p1), .val (.int p2), .val (.int p3), .val (.int p4), .val (.ref b5), .val (.int (p1 % (64 : Int32))), .val (.int (p2 % (64 : Int32))), .val (.int (p3 % (64 : Int32))), .val (.double (FP.i2d (p4 % (1000 : Int32)))), .second, .val (.ref b6), .val (.int (1 : Int32)), .unset, .unset] [(.ref b6)])) _
    refine X7.arraylength hx (by rw [e7]; exact Ar_b6_68.1) (State.isArrayOf_alike hZ.alike Ar_b6_68.2.1) (g := (mkF m 68 #[.val (.int p1), .val (.int p2), .val (.int p3), .val (.int p4), .val (.ref b5), .val (.int (p1 % (64 : Int32))), .val (.int (p2 % (64 : Int32))), .val (.int (p3 % (64 : Int32))), .val (.double (FP.i2d (p4 % (1000 : Int32)))), .second, .val (.ref b6), .val (.int (1 : Int32)), .unset, .unset] [(.ref b6)])) rfl rfl (hb hby at_68) _ ?_
    rw [len_of S_b6_68 N_b6_68]
    show Steps p.tables e below (T7.setTop (mkF m 69 #[.val (.int p1), .val (.int p2), .val (.int p3), .val (.int p4), .val (.ref b5), .val (.int (p1 % (64 : Int32))), .val (.int (p2 % (64 : Int32))), .val (.int (p3 % (64 : Int32))), .val (.double (FP.i2d (p4 % (1000 : Int32)))), .second, .val (.ref b6), .val (.int (1 : Int32)), .unset, .unset] [(.int (0 : Int32))])) _
    refine XS.ifYes X7.here hx rfl (pc0 := 69) (pc' := 82) rfl (hb hby at_69) rfl ((if0 _ _).trans (flt hc69).2.2.2) (by decide) (by decide) ?_
    show Steps p.tables e below (T7.setTop (mkF m 82 #[.val (.int p1), .val (.int p2), .val (.int p3), .val (.int p4), .val (.ref b5), .val (.int (p1 % (64 : Int32))), .val (.int (p2 % (64 : Int32))), .val (.int (p3 % (64 : Int32))), .val (.double (FP.i2d (p4 % (1000 : Int32)))), .second, .val (.ref b6), .val (.int (1 : Int32)), .unset, .unset] [])) _
    refine XS.aload X7.here hx rfl (hb hby at_82) rfl rfl ?_
    show Steps p.tables e below (T7.setTop (mkF m 84 #[.val (.int p1), .val (.int p2), .val (.int p3), .val (.int p4), .val (.ref b5), .val (.int (p1 % (64 : Int32))), .val (.int (p2 % (64 : Int32))), .val (.int (p3 % (64 : Int32))), .val (.double (FP.i2d (p4 % (1000 : Int32)))), .second, .val (.ref b6), .val (.int (1 : Int32)), .unset, .unset] [(.ref b5)])) _
    refine XS.iload X7.here hx rfl (hb hby at_84) rfl ?_
    show Steps p.tables e below (T7.setTop (mkF m 86 #[.val (.int p1), .val (.int p2), .val (.int p3), .val (.int p4), .val (.ref b5), .val (.int (p1 % (64 : Int32))), .val (.int (p2 % (64 : Int32))), .val (.int (p3 % (64 : Int32))), .val (.double (FP.i2d (p4 % (1000 : Int32)))), .second, .val (.ref b6), .val (.int (1 : Int32)), .unset, .unset] [(.int (p2 % (64 : Int32))), (.ref b5)])) _
    refine st8.trans ?_
    show Steps p.tables e below (T8.setTop (mkF m 89 #[.val (.int p1), .val (.int p2), .val (.int p3), .val (.int p4), .val (.ref b5), .val (.int (p1 % (64 : Int32))), .val (.int (p2 % (64 : Int32))), .val (.int (p3 % (64 : Int32))), .val (.double (FP.i2d (p4 % (1000 : Int32)))), .second, .val (.ref b6), .val (.int (1 : Int32)), .unset, .unset] [(.ref b6)])) _
    refine XS.astore X8.here hx rfl (hb hby at_89) rfl rfl (l' := #[.val (.int p1), .val (.int p2), .val (.int p3), .val (.int p4), .val (.ref b5), .val (.int (p1 % (64 : Int32))), .val (.int (p2 % (64 : Int32))), .val (.int (p3 % (64 : Int32))), .val (.double (FP.i2d (p4 % (1000 : Int32)))), .second, .val (.ref b6), .val (.int (1 : Int32)), .val (.ref b6), .unset]) rfl ?_
    show Steps p.tables e below (T8.setTop (mkF m 91 #[.val (.int p1), .val (.int p2), .val (.int p3), .val (.int p4), .val (.ref b5), .val (.int (p1 % (64 : Int32))), .val (.int (p2 % (64 : Int32))), .val (.int (p3 % (64 : Int32))), .val (.double (FP.i2d (p4 % (1000 : Int32)))), .second, .val (.ref b6), .val (.int (1 : Int32)), .val (.ref b6), .unset] [])) _
    refine XS.aload X8.here hx rfl (hb hby at_91) rfl rfl ?_
    show Steps p.tables e below (T8.setTop (mkF m 93 #[.val (.int p1), .val (.int p2), .val (.int p3), .val (.int p4), .val (.ref b5), .val (.int (p1 % (64 : Int32))), .val (.int (p2 % (64 : Int32))), .val (.int (p3 % (64 : Int32))), .val (.double (FP.i2d (p4 % (1000 : Int32)))), .second, .val (.ref b6), .val (.int (1 : Int32)), .val (.ref b6), .unset] [(.ref b6)])) _
    refine XS.ifnonnullYes X8.here hx rfl (pc0 := 93) (pc' := 98) rfl (hb hby at_93) rfl (by decide) (by decide) ?_
    show Steps p.tables e below (T8.setTop (mkF m 98 #[.val (.int p1), .val (.int p2), .val (.int p3), .val (.int p4), .val (.ref b5), .val (.int (p1 % (64 : Int32))), .val (.int (p2 % (64 : Int32))), .val (.int (p3 % (64 : Int32))), .val (.double (FP.i2d (p4 % (1000 : Int32)))), .second, .val (.ref b6), .val (.int (1 : Int32)), .val (.ref b6), .unset] [])) _
    refine XS.iload X8.here hx rfl (hb hby at_98) rfl ?_
    show Steps p.tables e below (T8.setTop (mkF m 100 #[.val (.int p1), .val (.int p2), .val (.int p3), .val (.int p4), .val (.ref b5), .val (.int (p1 % (64 : Int32))), .val (.int (p2 % (64 : Int32))), .val (.int (p3 % (64 : Int32))), .val (.double (FP.i2d (p4 % (1000 : Int32)))), .second, .val (.ref b6), .val (.int (1 : Int32)), .val (.ref b6), .unset] [(.int (1 : Int32))])) _
    refine XS.ifNo X8.here hx rfl (hb hby at_100) rfl ((if0 _ _).trans (feq hc100).1) ?_
    show Steps p.tables e below (T8.setTop (mkF m 103 #[.val (.int p1), .val (.int p2), .val (.int p3), .val (.int p4), .val (.ref b5), .val (.int (p1 % (64 : Int32))), .val (.int (p2 % (64 : Int32))), .val (.int (p3 % (64 : Int32))), .val (.double (FP.i2d (p4 % (1000 : Int32)))), .second, .val (.ref b6), .val (.int (1 : Int32)), .val (.ref b6), .unset] [])) _
    refine XS.aload X8.here hx rfl (hb hby at_103) rfl rfl ?_
    show Steps p.tables e below (T8.setTop (mkF m 105 #[.val (.int p1), .val (.int p2), .val (.int p3), .val (.int p4), .val (.ref b5), .val (.int (p1 % (64 : Int32))), .val (.int (p2 % (64 : Int32))), .val (.int (p3 % (64 : Int32))), .val (.double (FP.i2d (p4 % (1000 : Int32)))), .second, .val (.ref b6), .val (.int (1 : Int32)), .val (.ref b6), .unset] [(.ref b6)])) _
    refine X8.arraylength hx (by rw [e8]; exact Ar_b6_105.1) (State.isArrayOf_alike hZ.alike Ar_b6_105.2.1) (g := (mkF m 105 #[.val (.int p1), .val (.int p2), .val (.int p3), .val (.int p4), .val (.ref b5), .val (.int (p1 % (64 : Int32))), .val (.int (p2 % (64 : Int32))), .val (.int (p3 % (64 : Int32))), .val (.double (FP.i2d (p4 % (1000 : Int32)))), .second, .val (.ref b6), .val (.int (1 : Int32)), .val (.ref b6), .unset] [(.ref b6)])) rfl rfl (hb hby at_105) _ ?_
    rw [len_of S_b6_105 N_b6_105]
    show Steps p.tables e below (T8.setTop (mkF m 106 #[.val (.int p1), .val (.int p2), .val (.int p3), .val (.int p4), .val (.ref b5), .val (.int (p1 % (64 : Int32))), .val (.int (p2 % (64 : Int32))), .val (.int (p3 % (64 : Int32))), .val (.double (FP.i2d (p4 % (1000 : Int32)))), .second, .val (.ref b6), .val (.int (1 : Int32)), .val (.ref b6), .unset] [(.int (0 : Int32))])) _
    refine XS.iload X8.here hx rfl (hb hby at_106) rfl ?_
    show Steps p.tables e below (T8.setTop (mkF m 108 #[.val (.int p1), .val (.int p2), .val (.int p3), .val (.int p4), .val (.ref b5), .val (.int (p1 % (64 : Int32))), .val (.int (p2 % (64 : Int32))), .val (.int (p3 % (64 : Int32))), .val (.double (FP.i2d (p4 % (1000 : Int32)))), .second, .val (.ref b6), .val (.int (1 : Int32)), .val (.ref b6), .unset] [(.int (p2 % (64 : Int32))), (.int (0 : Int32))])) _
    refine XS.icmpNo X8.here hx rfl (hb hby at_108) rfl (flt hc108).1 ?_
    show Steps p.tables e below (T8.setTop (mkF m 111 #[.val (.int p1), .val (.int p2), .val (.int p3), .val (.int p4), .val (.ref b5), .val (.int (p1 % (64 : Int32))), .val (.int (p2 % (64 : Int32))), .val (.int (p3 % (64 : Int32))), .val (.double (FP.i2d (p4 % (1000 : Int32)))), .second, .val (.ref b6), .val (.int (1 : Int32)), .val (.ref b6), .unset] [])) _
    refine XS.iconst X8.here hx rfl (hb hby at_111) ?_
    show Steps p.tables e below (T8.setTop (mkF m 112 #[.val (.int p1), .val (.int p2), .val (.int p3), .val (.int p4), .val (.ref b5), .val (.int (p1 % (64 : Int32))), .val (.int (p2 % (64 : Int32))), .val (.int (p3 % (64 : Int32))), .val (.double (FP.i2d (p4 % (1000 : Int32)))), .second, .val (.ref b6), .val (.int (1 : Int32)), .val (.ref b6), .unset] [(.int (1 : Int32))])) _
    refine XS.goto X8.here hx rfl (pc0 := 112) (pc' := 116) rfl (hb hby at_112) (by decide) (by decide) ?_
    show Steps p.tables e below (T8.setTop (mkF m 116 #[.val (.int p1), .val (.int p2), .val (.int p3), .val (.int p4), .val (.ref b5), .val (.int (p1 % (64 : Int32))), .val (.int (p2 % (64 : Int32))), .val (.int (p3 % (64 : Int32))), .val (.double (FP.i2d (p4 % (1000 : Int32)))), .second, .val (.ref b6), .val (.int (1 : Int32)), .val (.ref b6), .unset] [(.int (1 : Int32))])) _
    refine XS.istore X8.here hx rfl (hb hby at_116) rfl (l' := #[.val (.int p1), .val (.int p2), .val (.int p3), .val (.int p4), .val (.ref b5), .val (.int (p1 % (64 : Int32))), .val (.int (p2 % (64 : Int32))), .val (.int (p3 % (64 : Int32))), .val (.double (FP.i2d (p4 % (1000 : Int32)))), .second, .val (.ref b6), .val (.int (1 : Int32)), .val (.ref b6), .unset]) rfl ?_
    show Steps p.tables e below (T8.setTop (mkF m 118 #[.val (.int p1), .val (.int p2), .val (.int p3), .val (.int p4), .val (.ref b5), .val (.int (p1 % (64 : Int32))), .val (.int (p2 % (64 : Int32))), .val (.int (p3 % (64 : Int32))), .val (.double (FP.i2d (p4 % (1000 : Int32)))), .second, .val (.ref b6), .val (.int (1 : Int32)), .val (.ref b6), .unset] [])) _
    refine XS.iload X8.here hx rfl (hb hby at_118) rfl ?_
    show Steps p.tables e below (T8.setTop (mkF m 120 #[.val (.int p1), .val (.int p2), .val (.int p3), .val (.int p4), .val (.ref b5), .val (.int (p1 % (64 : Int32))), .val (.int (p2 % (64 : Int32))), .val (.int (p3 % (64 : Int32))), .val (.double (FP.i2d (p4 % (1000 : Int32)))), .second, .val (.ref b6), .val (.int (1 : Int32)), .val (.ref b6), .unset] [(.int (p2 % (64 : Int32)))])) _
    refine XS.aload X8.here hx rfl (hb hby at_120) rfl rfl ?_
    show Steps p.tables e below (T8.setTop (mkF m 122 #[.val (.int p1), .val (.int p2), .val (.int p3), .val (.int p4), .val (.ref b5), .val (.int (p1 % (64 : Int32))), .val (.int (p2 % (64 : Int32))), .val (.int (p3 % (64 : Int32))), .val (.double (FP.i2d (p4 % (1000 : Int32)))), .second, .val (.ref b6), .val (.int (1 : Int32)), .val (.ref b6), .unset] [(.ref b6), (.int (p2 % (64 : Int32)))])) _
    refine X8.arraylength hx (by rw [e8]; exact Ar_b6_122.1) (State.isArrayOf_alike hZ.alike Ar_b6_122.2.1) (g := (mkF m 122 #[.val (.int p1), .val (.int p2), .val (.int p3), .val (.int p4), .val (.ref b5), .val (.int (p1 % (64 : Int32))), .val (.int (p2 % (64 : Int32))), .val (.int (p3 % (64 : Int32))), .val (.double (FP.i2d (p4 % (1000 : Int32)))), .second, .val (.ref b6), .val (.int (1 : Int32)), .val (.ref b6), .unset] [(.ref b6), (.int (p2 % (64 : Int32)))])) rfl rfl (hb hby at_122) _ ?_
    rw [len_of S_b6_122 N_b6_122]
    show Steps p.tables e below (T8.setTop (mkF m 123 #[.val (.int p1), .val (.int p2), .val (.int p3), .val (.int p4), .val (.ref b5), .val (.int (p1 % (64 : Int32))), .val (.int (p2 % (64 : Int32))), .val (.int (p3 % (64 : Int32))), .val (.double (FP.i2d (p4 % (1000 : Int32)))), .second, .val (.ref b6), .val (.int (1 : Int32)), .val (.ref b6), .unset] [(.int (0 : Int32)), (.int (p2 % (64 : Int32)))])) _
    refine XS.icmpNo X8.here hx rfl (hb hby at_123) rfl (flt hc123).2.2.1 ?_
    show Steps p.tables e below (T8.setTop (mkF m 126 #[.val (.int p1), .val (.int p2), .val (.int p3), .val (.int p4), .val (.ref b5), .val (.int (p1 % (64 : Int32))), .val (.int (p2 % (64 : Int32))), .val (.int (p3 % (64 : Int32))), .val (.double (FP.i2d (p4 % (1000 : Int32)))), .second, .val (.ref b6), .val (.int (1 : Int32)), .val (.ref b6), .unset] [])) _
    refine XS.iload X8.here hx rfl (hb hby at_126) rfl ?_
    show Steps p.tables e below (T8.setTop (mkF m 128 #[.val (.int p1), .val (.int p2), .val (.int p3), .val (.int p4), .val (.ref b5), .val (.int (p1 % (64 : Int32))), .val (.int (p2 % (64 : Int32))), .val (.int (p3 % (64 : Int32))), .val (.double (FP.i2d (p4 % (1000 : Int32)))), .second, .val (.ref b6), .val (.int (1 : Int32)), .val (.ref b6), .unset] [(.int (1 : Int32))])) _
    refine XS.ifNo X8.here hx rfl (hb hby at_128) rfl ((if0 _ _).trans (feq hc128).1) ?_
    show Steps p.tables e below (T8.setTop (mkF m 131 #[.val (.int p1), .val (.int p2), .val (.int p3), .val (.int p4), .val (.ref b5), .val (.int (p1 % (64 : Int32))), .val (.int (p2 % (64 : Int32))), .val (.int (p3 % (64 : Int32))), .val (.double (FP.i2d (p4 % (1000 : Int32)))), .second, .val (.ref b6), .val (.int (1 : Int32)), .val (.ref b6), .unset] [])) _
    refine XS.aload X8.here hx rfl (hb hby at_131) rfl rfl ?_
    show Steps p.tables e below (T8.setTop (mkF m 133 #[.val (.int p1), .val (.int p2), .val (.int p3), .val (.int p4), .val (.ref b5), .val (.int (p1 % (64 : Int32))), .val (.int (p2 % (64 : Int32))), .val (.int (p3 % (64 : Int32))), .val (.double (FP.i2d (p4 % (1000 : Int32)))), .second, .val (.ref b6), .val (.int (1 : Int32)), .val (.ref b6), .unset] [(.ref b6)])) _
    refine XS.aload X8.here hx rfl (hb hby at_133) rfl rfl ?_
    show Steps p.tables e below (T8.setTop (mkF m 135 #[.val (.int p1), .val (.int p2), .val (.int p3), .val (.int p4), .val (.ref b5), .val (.int (p1 % (64 : Int32))), .val (.int (p2 % (64 : Int32))), .val (.int (p3 % (64 : Int32))), .val (.double (FP.i2d (p4 % (1000 : Int32)))), .second, .val (.ref b6), .val (.int (1 : Int32)), .val (.ref b6), .unset] [(.ref b6), (.ref b6)])) _
    refine Jvm.RoadKit.acmp (g := (mkF m 135 #[.val (.int p1), .val (.int p2), .val (.int p3), .val (.int p4), .val (.ref b5), .val (.int (p1 % (64 : Int32))), .val (.int (p2 % (64 : Int32))), .val (.int (p3 % (64 : Int32))), .val (.double (FP.i2d (p4 % (1000 : Int32)))), .second, .val (.ref b6), .val (.int (1 : Int32)), .val (.ref b6), .unset] [(.ref b6), (.ref b6)])) X8 hx rfl rfl rfl (pc0 := 135) (pc' := 138) (same := true) rfl (hb hby at_135) rfl (decide_eq_true rfl) (by decide) (by decide) ?_
    show Steps p.tables e below (T8.setTop (mkF m 138 #[.val (.int p1), .val (.int p2), .val (.int p3), .val (.int p4), .val (.ref b5), .val (.int (p1 % (64 : Int32))), .val (.int (p2 % (64 : Int32))), .val (.int (p3 % (64 : Int32))), .val (.double (FP.i2d (p4 % (1000 : Int32)))), .second, .val (.ref b6), .val (.int (1 : Int32)), .val (.ref b6), .unset] [])) _
    refine XS.aload X8.here hx rfl (hb hby at_138) rfl rfl ?_
    show Steps p.tables e below (T8.setTop (mkF m 140 #[.val (.int p1), .val (.int p2), .val (.int p3), .val (.int p4), .val (.ref b5), .val (.int (p1 % (64 : Int32))), .val (.int (p2 % (64 : Int32))), .val (.int (p3 % (64 : Int32))), .val (.double (FP.i2d (p4 % (1000 : Int32)))), .second, .val (.ref b6), .val (.int (1 : Int32)), .val (.ref b6), .unset] [(.ref b6)])) _
    refine X8.arraylength hx (by rw [e8]; exact Ar_b6_140.1) (State.isArrayOf_alike hZ.alike Ar_b6_140.2.1) (g := (mkF m 140 #[.val (.int p1), .val (.int p2), .val (.int p3), .val (.int p4), .val (.ref b5), .val (.int (p1 % (64 : Int32))), .val (.int (p2 % (64 : Int32))), .val (.int (p3 % (64 : Int32))), .val (.double (FP.i2d (p4 % (1000 : Int32)))), .second, .val (.ref b6), .val (.int (1 : Int32)), .val (.ref b6), .unset] [(.ref b6)])) rfl rfl (hb hby at_140) _ ?_
    rw [len_of S_b6_140 N_b6_140]
    show Steps p.tables e below (T8.setTop (mkF m 141 #[.val (.int p1), .val (.int p2), .val (.int p3), .val (.int p4), .val (.ref b5), .val (.int (p1 % (64 : Int32))), .val (.int (p2 % (64 : Int32))), .val (.int (p3 % (64 : Int32))), .val (.double (FP.i2d (p4 % (1000 : Int32)))), .second, .val (.ref b6), .val (.int (1 : Int32)), .val (.ref b6), .unset] [(.int (0 : Int32))])) _
    refine XS.ifYes X8.here hx rfl (pc0 := 141) (pc' := 158) rfl (hb hby at_141) rfl ((if0 _ _).trans (teq (rfl : (0 : Int32) = (0 : Int32))).1) (by decide) (by decide) ?_
    show Steps p.tables e below (T8.setTop (mkF m 158 #[.val (.int p1), .val (.int p2), .val (.int p3), .val (.int p4), .val (.ref b5), .val (.int (p1 % (64 : Int32))), .val (.int (p2 % (64 : Int32))), .val (.int (p3 % (64 : Int32))), .val (.double (FP.i2d (p4 % (1000 : Int32)))), .second, .val (.ref b6), .val (.int (1 : Int32)), .val (.ref b6), .unset] [])) _
    refine XS.iconst X8.here hx rfl (hb hby at_158) ?_
    show Steps p.tables e below (T8.setTop (mkF m 159 #[.val (.int p1), .val (.int p2), .val (.int p3), .val (.int p4), .val (.ref b5), .val (.int (p1 % (64 : Int32))), .val (.int (p2 % (64 : Int32))), .val (.int (p3 % (64 : Int32))), .val (.double (FP.i2d (p4 % (1000 : Int32)))), .second, .val (.ref b6), .val (.int (1 : Int32)), .val (.ref b6), .unset] [(.int (1 : Int32))])) _
    refine XS.goto X8.here hx rfl (pc0 := 159) (pc' := 163) rfl (hb hby at_159) (by decide) (by decide) ?_
    show Steps p.tables e below (T8.setTop (mkF m 163 #[.val (.int p1), .val (.int p2), .val (.int p3), .val (.int p4), .val (.ref b5), .val (.int (p1 % (64 : Int32))), .val (.int (p2 % (64 : Int32))), .val (.int (p3 % (64 : Int32))), .val (.double (FP.i2d (p4 % (1000 : Int32)))), .second, .val (.ref b6), .val (.int (1 : Int32)), .val (.ref b6), .unset] [(.int (1 : Int32))])) _
    refine XS.istore X8.here hx rfl (hb hby at_163) rfl (l' := #[.val (.int p1), .val (.int p2), .val (.int p3), .val (.int p4), .val (.ref b5), .val (.int (p1 % (64 : Int32))), .val (.int (p2 % (64 : Int32))), .val (.int (p3 % (64 : Int32))), .val (.double (FP.i2d (p4 % (1000 : Int32)))), .second, .val (.ref b6), .val (.int (1 : Int32)), .val (.ref b6), .unset]) rfl ?_
    show Steps p.tables e below (T8.setTop (mkF m 165 #[.val (.int p1), .val (.int p2), .val (.int p3), .val (.int p4), .val (.ref b5), .val (.int (p1 % (64 : Int32))), .val (.int (p2 % (64 : Int32))), .val (.int (p3 % (64 : Int32))), .val (.double (FP.i2d (p4 % (1000 : Int32)))), .second, .val (.ref b6), .val (.int (1 : Int32)), .val (.ref b6), .unset] [])) _
    refine XS.aload X8.here hx rfl (hb hby at_165) rfl rfl ?_
    show Steps p.tables e below (T8.setTop (mkF m 167 #[.val (.int p1), .val (.int p2), .val (.int p3), .val (.int p4), .val (.ref b5), .val (.int (p1 % (64 : Int32))), .val (.int (p2 % (64 : Int32))), .val (.int (p3 % (64 : Int32))), .val (.double (FP.i2d (p4 % (1000 : Int32)))), .second, .val (.ref b6), .val (.int (1 : Int32)), .val (.ref b6), .unset] [(.ref b5)])) _
    refine XS.iload X8.here hx rfl (hb hby at_167) rfl ?_
    show Steps p.tables e below (T8.setTop (mkF m 169 #[.val (.int p1), .val (.int p2), .val (.int p3), .val (.int p4), .val (.ref b5), .val (.int (p1 % (64 : Int32))), .val (.int (p2 % (64 : Int32))), .val (.int (p3 % (64 : Int32))), .val (.double (FP.i2d (p4 % (1000 : Int32)))), .second, .val (.ref b6), .val (.int (1 : Int32)), .val (.ref b6), .unset] [(.int (p3 % (64 : Int32))), (.ref b5)])) _
    refine st9.trans ?_
    show Steps p.tables e below (T9.setTop (mkF m 172 #[.val (.int p1), .val (.int p2), .val (.int p3), .val (.int p4), .val (.ref b5), .val (.int (p1 % (64 : Int32))), .val (.int (p2 % (64 : Int32))), .val (.int (p3 % (64 : Int32))), .val (.double (FP.i2d (p4 % (1000 : Int32)))), .second, .val (.ref b6), .val (.int (1 : Int32)), .val (.ref b6), .unset] [(.ref b6)])) _
    refine XS.astore X9.here hx rfl (hb hby at_172) rfl rfl (l' := #[.val (.int p1), .val (.int p2), .val (.int p3), .val (.int p4), .val (.ref b5), .val (.int (p1 % (64 : Int32))), .val (.int (p2 % (64 : Int32))), .val (.int (p3 % (64 : Int32))), .val (.double (FP.i2d (p4 % (1000 : Int32)))), .second, .val (.ref b6), .val (.int (1 : Int32)), .val (.ref b6), .val (.ref b6)]) rfl ?_
    show Steps p.tables e below (T9.setTop (mkF m 174 #[.val (.int p1), .val (.int p2), .val (.int p3), .val (.int p4), .val (.ref b5), .val (.int (p1 % (64 : Int32))), .val (.int (p2 % (64 : Int32))), .val (.int (p3 % (64 : Int32))), .val (.double (FP.i2d (p4 % (1000 : Int32)))), .second, .val (.ref b6), .val (.int (1 : Int32)), .val (.ref b6), .val (.ref b6)] [])) _
    refine XS.aload X9.here hx rfl (hb hby at_174) rfl rfl ?_
    show Steps p.tables e below (T9.setTop (mkF m 176 #[.val (.int p1), .val (.int p2), .val (.int p3), .val (.int p4), .val (.ref b5), .val (.int (p1 % (64 : Int32))), .val (.int (p2 % (64 : Int32))), .val (.int (p3 % (64 : Int32))), .val (.double (FP.i2d (p4 % (1000 : Int32)))), .second, .val (.ref b6), .val (.int (1 : Int32)), .val (.ref b6), .val (.ref b6)] [(.ref b6)])) _
    refine XS.ifnonnullYes X9.here hx rfl (pc0 := 176) (pc' := 181) rfl (hb hby at_176) rfl (by decide) (by decide) ?_
    show Steps p.tables e below (T9.setTop (mkF m 181 #[.val (.int p1), .val (.int p2), .val (.int p3), .val (.int p4), .val (.ref b5), .val (.int (p1 % (64 : Int32))), .val (.int (p2 % (64 : Int32))), .val (.int (p3 % (64 : Int32))), .val (.double (FP.i2d (p4 % (1000 : Int32)))), .second, .val (.ref b6), .val (.int (1 : Int32)), .val (.ref b6), .val (.ref b6)] [])) _
    refine XS.iload X9.here hx rfl (hb hby at_181) rfl ?_
    show Steps p.tables e below (T9.setTop (mkF m 183 #[.val (.int p1), .val (.int p2), .val (.int p3), .val (.int p4), .val (.ref b5), .val (.int (p1 % (64 : Int32))), .val (.int (p2 % (64 : Int32))), .val (.int (p3 % (64 : Int32))), .val (.double (FP.i2d (p4 % (1000 : Int32)))), .second, .val (.ref b6), .val (.int (1 : Int32)), .val (.ref b6), .val (.ref b6)] [(.int (1 : Int32))])) _
    refine XS.ifNo X9.here hx rfl (hb hby at_183) rfl ((if0 _ _).trans (feq hc183).1) ?_
    show Steps p.tables e below (T9.setTop (mkF m 186 #[.val (.int p1), .val (.int p2), .val (.int p3), .val (.int p4), .val (.ref b5), .val (.int (p1 % (64 : Int32))), .val (.int (p2 % (64 : Int32))), .val (.int (p3 % (64 : Int32))), .val (.double (FP.i2d (p4 % (1000 : Int32)))), .second, .val (.ref b6), .val (.int (1 : Int32)), .val (.ref b6), .val (.ref b6)] [])) _
    refine XS.aload X9.here hx rfl (hb hby at_186) rfl rfl ?_
    show Steps p.tables e below (T9.setTop (mkF m 188 #[.val (.int p1), .val (.int p2), .val (.int p3), .val (.int p4), .val (.ref b5), .val (.int (p1 % (64 : Int32))), .val (.int (p2 % (64 : Int32))), .val (.int (p3 % (64 : Int32))), .val (.double (FP.i2d (p4 % (1000 : Int32)))), .second, .val (.ref b6), .val (.int (1 : Int32)), .val (.ref b6), .val (.ref b6)] [(.ref b6)])) _
    refine X9.arraylength hx (by rw [e9]; exact Ar_b6_188.1) (State.isArrayOf_alike hZ.alike Ar_b6_188.2.1) (g := (mkF m 188 #[.val (.int p1), .val (.int p2), .val (.int p3), .val (.int p4), .val (.ref b5), .val (.int (p1 % (64 : Int32))), .val (.int (p2 % (64 : Int32))), .val (.int (p3 % (64 : Int32))), .val (.double (FP.i2d (p4 % (1000 : Int32)))), .second, .val (.ref b6), .val (.int (1 : Int32)), .val (.ref b6), .val (.ref b6)] [(.ref b6)])) rfl rfl (hb hby at_188) _ ?_
    rw [len_of S_b6_188 N_b6_188]
    show Steps p.tables e below (T9.setTop (mkF m 189 #[.val (.int p1), .val (.int p2), .val (.int p3), .val (.int p4), .val (.ref b5), .val (.int (p1 % (64 : Int32))), .val (.int (p2 % (64 : Int32))), .val (.int (p3 % (64 : Int32))), .val (.double (FP.i2d (p4 % (1000 : Int32)))), .second, .val (.ref b6), .val (.int (1 : Int32)), .val (.ref b6), .val (.ref b6)] [(.int (0 : Int32))])) _
    refine XS.iload X9.here hx rfl (hb hby at_189) rfl ?_
    show Steps p.tables e below (T9.setTop (mkF m 191 #[.val (.int p1), .val (.int p2), .val (.int p3), .val (.int p4), .val (.ref b5), .val (.int (p1 % (64 : Int32))), .val (.int (p2 % (64 : Int32))), .val (.int (p3 % (64 : Int32))), .val (.double (FP.i2d (p4 % (1000 : Int32)))), .second, .val (.ref b6), .val (.int (1 : Int32)), .val (.ref b6), .val (.ref b6)] [(.int (p3 % (64 : Int32))), (.int (0 : Int32))])) _
    refine XS.icmpNo X9.here hx rfl (hb hby at_191) rfl (flt hc191).1 ?_
    show Steps p.tables e below (T9.setTop (mkF m 194 #[.val (.int p1), .val (.int p2), .val (.int p3), .val (.int p4), .val (.ref b5), .val (.int (p1 % (64 : Int32))), .val (.int (p2 % (64 : Int32))), .val (.int (p3 % (64 : Int32))), .val (.double (FP.i2d (p4 % (1000 : Int32)))), .second, .val (.ref b6), .val (.int (1 : Int32)), .val (.ref b6), .val (.ref b6)] [])) _
    refine XS.iconst X9.here hx rfl (hb hby at_194) ?_
    show Steps p.tables e below (T9.setTop (mkF m 195 #[.val (.int p1), .val (.int p2), .val (.int p3), .val (.int p4), .val (.ref b5), .val (.int (p1 % (64 : Int32))), .val (.int (p2 % (64 : Int32))), .val (.int (p3 % (64 : Int32))), .val (.double (FP.i2d (p4 % (1000 : Int32)))), .second, .val (.ref b6), .val (.int (1 : Int32)), .val (.ref b6), .val (.ref b6)] [(.int (1 : Int32))])) _
    refine XS.goto X9.here hx rfl (pc0 := 195) (pc' := 199) rfl (hb hby at_195) (by decide) (by decide) ?_
    show Steps p.tables e below (T9.setTop (mkF m 199 #[.val (.int p1), .val (.int p2), .val (.int p3), .val (.int p4), .val (.ref b5), .val (.int (p1 % (64 : Int32))), .val (.int (p2 % (64 : Int32))), .val (.int (p3 % (64 : Int32))), .val (.double (FP.i2d (p4 % (1000 : Int32)))), .second, .val (.ref b6), .val (.int (1 : Int32)), .val (.ref b6), .val (.ref b6)] [(.int (1 : Int32))])) _
    refine XS.istore X9.here hx rfl (hb hby at_199) rfl (l' := #[.val (.int p1), .val (.int p2), .val (.int p3), .val (.int p4), .val (.ref b5), .val (.int (p1 % (64 : Int32))), .val (.int (p2 % (64 : Int32))), .val (.int (p3 % (64 : Int32))), .val (.double (FP.i2d (p4 % (1000 : Int32)))), .second, .val (.ref b6), .val (.int (1 : Int32)), .val (.ref b6), .val (.ref b6)]) rfl ?_
    show Steps p.tables e below (T9.setTop (mkF m 201 #[.val (.int p1), .val (.int p2), .val (.int p3), .val (.int p4), .val (.ref b5), .val (.int (p1 % (64 : Int32))), .val (.int (p2 % (64 : Int32))), .val (.int (p3 % (64 : Int32))), .val (.double (FP.i2d (p4 % (1000 : Int32)))), .second, .val (.ref b6), .val (.int (1 : Int32)), .val (.ref b6), .val (.ref b6)] [])) _
    refine XS.iload X9.here hx rfl (hb hby at_201) rfl ?_
    show Steps p.tables e below (T9.setTop (mkF m 203 #[.val (.int p1), .val (.int p2), .val (.int p3), .val (.int p4), .val (.ref b5), .val (.int (p1 % (64 : Int32))), .val (.int (p2 % (64 : Int32))), .val (.int (p3 % (64 : Int32))), .val (.double (FP.i2d (p4 % (1000 : Int32)))), .second, .val (.ref b6), .val (.int (1 : Int32)), .val (.ref b6), .val (.ref b6)] [(.int (p3 % (64 : Int32)))])) _
    refine XS.aload X9.here hx rfl (hb hby at_203) rfl rfl ?_
    show Steps p.tables e below (T9.setTop (mkF m 205 #[.val (.int p1), .val (.int p2), .val (.int p3), .val (.int p4), .val (.ref b5), .val (.int (p1 % (64 : Int32))), .val (.int (p2 % (64 : Int32))), .val (.int (p3 % (64 : Int32))), .val (.double (FP.i2d (p4 % (1000 : Int32)))), .second, .val (.ref b6), .val (.int (1 : Int32)), .val (.ref b6), .val (.ref b6)] [(.ref b6), (.int (p3 % (64 : Int32)))])) _
    refine X9.arraylength hx (by rw [e9]; exact Ar_b6_205.1) (State.isArrayOf_alike hZ.alike Ar_b6_205.2.1) (g := (mkF m 205 #[.val (.int p1), .val (.int p2), .val (.int p3), .val (.int p4), .val (.ref b5), .val (.int (p1 % (64 : Int32))), .val (.int (p2 % (64 : Int32))), .val (.int (p3 % (64 : Int32))), .val (.double (FP.i2d (p4 % (1000 : Int32)))), .second, .val (.ref b6), .val (.int (1 : Int32)), .val (.ref b6), .val (.ref b6)] [(.ref b6), (.int (p3 % (64 : Int32)))])) rfl rfl (hb hby at_205) _ ?_
    rw [len_of S_b6_205 N_b6_205]
    show Steps p.tables e below (T9.setTop (mkF m 206 #[.val (.int p1), .val (.int p2), .val (.int p3), .val (.int p4), .val (.ref b5), .val (.int (p1 % (64 : Int32))), .val (.int (p2 % (64 : Int32))), .val (.int (p3 % (64 : Int32))), .val (.double (FP.i2d (p4 % (1000 : Int32)))), .second, .val (.ref b6), .val (.int (1 : Int32)), .val (.ref b6), .val (.ref b6)] [(.int (0 : Int32)), (.int (p3 % (64 : Int32)))])) _
    refine XS.icmpNo X9.here hx rfl (hb hby at_206) rfl (flt hc206).2.2.1 ?_
    show Steps p.tables e below (T9.setTop (mkF m 209 #[.val (.int p1), .val (.int p2), .val (.int p3), .val (.int p4), .val (.ref b5), .val (.int (p1 % (64 : Int32))), .val (.int (p2 % (64 : Int32))), .val (.int (p3 % (64 : Int32))), .val (.double (FP.i2d (p4 % (1000 : Int32)))), .second, .val (.ref b6), .val (.int (1 : Int32)), .val (.ref b6), .val (.ref b6)] [])) _
    refine XS.iload X9.here hx rfl (hb hby at_209) rfl ?_
    show Steps p.tables e below (T9.setTop (mkF m 211 #[.val (.int p1), .val (.int p2), .val (.int p3), .val (.int p4), .val (.ref b5), .val (.int (p1 % (64 : Int32))), .val (.int (p2 % (64 : Int32))), .val (.int (p3 % (64 : Int32))), .val (.double (FP.i2d (p4 % (1000 : Int32)))), .second, .val (.ref b6), .val (.int (1 : Int32)), .val (.ref b6), .val (.ref b6)] [(.int (1 : Int32))])) _
    refine XS.ifNo X9.here hx rfl (hb hby at_211) rfl ((if0 _ _).trans (feq hc211).1) ?_
    show Steps p.tables e below (T9.setTop (mkF m 214 #[.val (.int p1), .val (.int p2), .val (.int p3), .val (.int p4), .val (.ref b5), .val (.int (p1 % (64 : Int32))), .val (.int (p2 % (64 : Int32))), .val (.int (p3 % (64 : Int32))), .val (.double (FP.i2d (p4 % (1000 : Int32)))), .second, .val (.ref b6), .val (.int (1 : Int32)), .val (.ref b6), .val (.ref b6)] [])) _
    refine XS.aload X9.here hx rfl (hb hby at_214) rfl rfl ?_
    show Steps p.tables e below (T9.setTop (mkF m 216 #[.val (.int p1), .val (.int p2), .val (.int p3), .val (.int p4), .val (.ref b5), .val (.int (p1 % (64 : Int32))), .val (.int (p2 % (64 : Int32))), .val (.int (p3 % (64 : Int32))), .val (.double (FP.i2d (p4 % (1000 : Int32)))), .second, .val (.ref b6), .val (.int (1 : Int32)), .val (.ref b6), .val (.ref b6)] [(.ref b6)])) _
    refine XS.aload X9.here hx rfl (hb hby at_216) rfl rfl ?_
    show Steps p.tables e below (T9.setTop (mkF m 218 #[.val (.int p1), .val (.int p2), .val (.int p3), .val (.int p4), .val (.ref b5), .val (.int (p1 % (64 : Int32))), .val (.int (p2 % (64 : Int32))), .val (.int (p3 % (64 : Int32))), .val (.double (FP.i2d (p4 % (1000 : Int32)))), .second, .val (.ref b6), .val (.int (1 : Int32)), .val (.ref b6), .val (.ref b6)] [(.ref b6), (.ref b6)])) _
    refine Jvm.RoadKit.acmp (g := (mkF m 218 #[.val (.int p1), .val (.int p2), .val (.int p3), .val (.int p4), .val (.ref b5), .val (.int (p1 % (64 : Int32))), .val (.int (p2 % (64 : Int32))), .val (.int (p3 % (64 : Int32))), .val (.double (FP.i2d (p4 % (1000 : Int32)))), .second, .val (.ref b6), .val (.int (1 : Int32)), .val (.ref b6), .val (.ref b6)] [(.ref b6), (.ref b6)])) X9 hx rfl rfl rfl (pc0 := 218) (pc' := 221) (same := true) rfl (hb hby at_218) rfl (decide_eq_true rfl) (by decide) (by decide) ?_
    show Steps p.tables e below (T9.setTop (mkF m 221 #[.val (.int p1), .val (.int p2), .val (.int p3), .val (.int p4), .val (.ref b5), .val (.int (p1 % (64 : Int32))), .val (.int (p2 % (64 : Int32))), .val (.int (p3 % (64 : Int32))), .val (.double (FP.i2d (p4 % (1000 : Int32)))), .second, .val (.ref b6), .val (.int (1 : Int32)), .val (.ref b6), .val (.ref b6)] [])) _
    refine XS.iconst X9.here hx rfl (hb hby at_221) ?_
    show Steps p.tables e below (T9.setTop (mkF m 222 #[.val (.int p1), .val (.int p2), .val (.int p3), .val (.int p4), .val (.ref b5), .val (.int (p1 % (64 : Int32))), .val (.int (p2 % (64 : Int32))), .val (.int (p3 % (64 : Int32))), .val (.double (FP.i2d (p4 % (1000 : Int32)))), .second, .val (.ref b6), .val (.int (1 : Int32)), .val (.ref b6), .val (.ref b6)] [(.int (1 : Int32))])) _
    refine XS.goto X9.here hx rfl (pc0 := 222) (pc' := 226) rfl (hb hby at_222) (by decide) (by decide) ?_
    show Steps p.tables e below (T9.setTop (mkF m 226 #[.val (.int p1), .val (.int p2), .val (.int p3), .val (.int p4), .val (.ref b5), .val (.int (p1 % (64 : Int32))), .val (.int (p2 % (64 : Int32))), .val (.int (p3 % (64 : Int32))), .val (.double (FP.i2d (p4 % (1000 : Int32)))), .second, .val (.ref b6), .val (.int (1 : Int32)), .val (.ref b6), .val (.ref b6)] [(.int (1 : Int32))])) _
    refine XS.istore X9.here hx rfl (hb hby at_226) rfl (l' := #[.val (.int p1), .val (.int p2), .val (.int p3), .val (.int p4), .val (.ref b5), .val (.int (p1 % (64 : Int32))), .val (.int (p2 % (64 : Int32))), .val (.int (p3 % (64 : Int32))), .val (.double (FP.i2d (p4 % (1000 : Int32)))), .second, .val (.ref b6), .val (.int (1 : Int32)), .val (.ref b6), .val (.ref b6)]) rfl ?_
    show Steps p.tables e below (T9.setTop (mkF m 228 #[.val (.int p1), .val (.int p2), .val (.int p3), .val (.int p4), .val (.ref b5), .val (.int (p1 % (64 : Int32))), .val (.int (p2 % (64 : Int32))), .val (.int (p3 % (64 : Int32))), .val (.double (FP.i2d (p4 % (1000 : Int32)))), .second, .val (.ref b6), .val (.int (1 : Int32)), .val (.ref b6), .val (.ref b6)] [])) _
    refine XS.iload X9.here hx rfl (hb hby at_228) rfl ?_
    show Steps p.tables e below (T9.setTop (mkF m 230 #[.val (.int p1), .val (.int p2), .val (.int p3), .val (.int p4), .val (.ref b5), .val (.int (p1 % (64 : Int32))), .val (.int (p2 % (64 : Int32))), .val (.int (p3 % (64 : Int32))), .val (.double (FP.i2d (p4 % (1000 : Int32)))), .second, .val (.ref b6), .val (.int (1 : Int32)), .val (.ref b6), .val (.ref b6)] [(.int (1 : Int32))])) _
    exact retN X9 hx (t := .boolean) Bd.returns (by simp) (hb hby at_230) hr
  · show Q0 Z p1 p2 p3 p4 h0 n0 _ T9.heap _
    rw [e9]
    exact ⟨rfl, N9⟩
set_option maxRecDepth 65536 in
set_option maxHeartbeats 40000000 in
theorem comes_1 {Post : Tables → Env → Array Value → State → Outcome → State → Prop} (hpost : ∀ tb e args s v u, (limb_1_1.after args s (.returned v) u = true ∧ limb_1_2.after args s (.returned v) u = true ∧ True) → FrameEnd s (.returned v) u (Jvm.fieldLocs frame_1_writes args s ++ Jvm.arrayLocs frame_1_arrays args s ++ Jvm.staticLocs frame_1_statics s) 24 384 → Post tb e args s (.returned v) u) :
    ArmFor flags0 classFile x code maxLocals ret World_1 tables_1 room_1 Calls_1 rest_1 Pre_1 Post := by
  intro l hfl _ _ p e ha hc hk s m args below hf hA hF happ hP
  obtain ⟨hcalls, hrest, hpre⟩ := hP
  obtain ⟨-, -, -, hnamed, -, -, -, hat⟩ := (Spec.applies_iff hf).mp happ
  obtain ⟨hg, hn⟩ := and_e (Cond.before_iff.mp (show (Jvm.Cond.and given_1 narrow_1).before args s = true from hpre))
  obtain ⟨g11, g12⟩ := and_e hg
  obtain ⟨g13, g14⟩ := and_e g12
  obtain ⟨g15, g16⟩ := and_e g14
  obtain ⟨g17, g18⟩ := and_e g16
  obtain ⟨w0, w1, w2, w3, rfl⟩ : ∃ w0 w1 w2 w3 : Value, args = #[w0, w1, w2, w3] := by
    have hs : args.size = 4 := by simpa [Cond.value, given_1] using g11
    obtain ⟨L⟩ := args
    match L, hs with
    | [w0, w1, w2, w3], _ => exact ⟨w0, w1, w2, w3, rfl⟩
  have hw := fun d (hd : d ∈ tables_1) => atoms_spec (ws := Jvm.Cond.code x code maxLocals ret :: tables_1) hat d (List.mem_cons_of_mem _ hd)
  have hfit : Fit s := fun {y c} hc i hi => by
    obtain ⟨ha, rfl⟩ := Array.getElem?_eq_some_iff.mp hc
    have q := List.all_eq_true.mp ((Array.all_eq_true_iff_forall_mem.mp hF) _ (Array.getElem_mem ha)) i (List.mem_range.mpr hi)
    simpa [Array.getElem?_eq_getElem hi] using q
  obtain ⟨i0, ei0⟩ := is_v g13
  obtain rfl : w0 = (.int i0) := Option.some.inj ei0
  obtain ⟨i1, ei1⟩ := is_v g15
  obtain rfl : w1 = (.int i1) := Option.some.inj ei1
  obtain ⟨i2, ei2⟩ := is_v g17
  obtain rfl : w2 = (.int i2) := Option.some.inj ei2
  obtain ⟨i3, ei3⟩ := is_v g18
  obtain rfl : w3 = (.int i3) := Option.some.inj ei3
  by_cases q1 : (0 : Int32) < (i0 % (64 : Int32))
  · by_cases q2 : (i0 % (64 : Int32)) < (i1 % (64 : Int32))
    · by_cases q3 : (i1 % (64 : Int32)) < (i2 % (64 : Int32))
      · obtain ⟨n, o, h1, h2, h3, _, L, rfl, ⟨rfl, N⟩, hq⟩ := rm0_111 l s _ hw tables_1 i0 i1 i2 i3 s.heap s.heap.size (Nat.le_refl _) q1 q2 q3 (by first | decide | (simp only [Int32.lt_iff_toInt_lt, ← Int32.toInt_inj, show (0 : Int32).toInt = 0 from by decide, show (1 : Int32).toInt = 1 from by decide] at *; omega)) (by first | decide | (simp only [Int32.lt_iff_toInt_lt, ← Int32.toInt_inj, show (0 : Int32).toInt = 0 from by decide, show (1 : Int32).toInt = 1 from by decide] at *; omega)) (by decide) (by first | decide | (simp only [Int32.lt_iff_toInt_lt, ← Int32.toInt_inj, show (0 : Int32).toInt = 0 from by decide, show (1 : Int32).toInt = 1 from by decide] at *; omega)) (by first | decide | (simp only [Int32.lt_iff_toInt_lt, ← Int32.toInt_inj, show (0 : Int32).toInt = 0 from by decide, show (1 : Int32).toInt = 1 from by decide] at *; omega)) (by decide) (by first | decide | (simp only [Int32.lt_iff_toInt_lt, ← Int32.toInt_inj, show (0 : Int32).toInt = 0 from by decide, show (1 : Int32).toInt = 1 from by decide] at *; omega)) (by first | decide | (simp only [Int32.lt_iff_toInt_lt, ← Int32.toInt_inj, show (0 : Int32).toInt = 0 from by decide, show (1 : Int32).toInt = 1 from by decide] at *; omega)) p e ha hc hk s m _ below hf ((Spec.applies_iff_loose hf).mp happ).1 ⟨rfl, State.Warmed39.refl s, rfl⟩ trivial
        refine ⟨n, _, h1, h2, h3, hpost _ _ _ _ _ _ ⟨Cond.after_iff.mpr rfl, Cond.after_iff.mpr (eq_i res_at (Term.int_eval (1)) rfl), trivial⟩ ⟨hq.1, hq.2.1, (hq.2.2.sift fun y hy => Or.inr (N y hy)).mono (by decide) (by decide)⟩⟩
      · obtain ⟨n, o, h1, h2, h3, _, L, rfl, ⟨rfl, N⟩, hq⟩ := rm0_110 l s _ hw tables_1 i0 i1 i2 i3 s.heap s.heap.size (Nat.le_refl _) q1 q2 q3 (by first | decide | (simp only [Int32.lt_iff_toInt_lt, ← Int32.toInt_inj, show (0 : Int32).toInt = 0 from by decide, show (1 : Int32).toInt = 1 from by decide] at *; omega)) (by first | decide | (simp only [Int32.lt_iff_toInt_lt, ← Int32.toInt_inj, show (0 : Int32).toInt = 0 from by decide, show (1 : Int32).toInt = 1 from by decide] at *; omega)) (by decide) (by first | decide | (simp only [Int32.lt_iff_toInt_lt, ← Int32.toInt_inj, show (0 : Int32).toInt = 0 from by decide, show (1 : Int32).toInt = 1 from by decide] at *; omega)) (by first | decide | (simp only [Int32.lt_iff_toInt_lt, ← Int32.toInt_inj, show (0 : Int32).toInt = 0 from by decide, show (1 : Int32).toInt = 1 from by decide] at *; omega)) (by decide) (by first | decide | (simp only [Int32.lt_iff_toInt_lt, ← Int32.toInt_inj, show (0 : Int32).toInt = 0 from by decide, show (1 : Int32).toInt = 1 from by decide] at *; omega)) (by first | decide | (simp only [Int32.lt_iff_toInt_lt, ← Int32.toInt_inj, show (0 : Int32).toInt = 0 from by decide, show (1 : Int32).toInt = 1 from by decide] at *; omega)) (by decide) p e ha hc hk s m _ below hf ((Spec.applies_iff_loose hf).mp happ).1 ⟨rfl, State.Warmed39.refl s, rfl⟩ trivial
        refine ⟨n, _, h1, h2, h3, hpost _ _ _ _ _ _ ⟨Cond.after_iff.mpr rfl, Cond.after_iff.mpr (eq_i res_at (Term.int_eval (1)) rfl), trivial⟩ ⟨hq.1, hq.2.1, (hq.2.2.sift fun y hy => Or.inr (N y hy)).mono (by decide) (by decide)⟩⟩
    · by_cases q3 : (i0 % (64 : Int32)) < (i2 % (64 : Int32))
      · obtain ⟨n, o, h1, h2, h3, _, L, rfl, ⟨rfl, N⟩, hq⟩ := rm0_101 l s _ hw tables_1 i0 i1 i2 i3 s.heap s.heap.size (Nat.le_refl _) q1 q2 q3 (by first | decide | (simp only [Int32.lt_iff_toInt_lt, ← Int32.toInt_inj, show (0 : Int32).toInt = 0 from by decide, show (1 : Int32).toInt = 1 from by decide] at *; omega)) (by first | decide | (simp only [Int32.lt_iff_toInt_lt, ← Int32.toInt_inj, show (0 : Int32).toInt = 0 from by decide, show (1 : Int32).toInt = 1 from by decide] at *; omega)) (by decide) (by first | decide | (simp only [Int32.lt_iff_toInt_lt, ← Int32.toInt_inj, show (0 : Int32).toInt = 0 from by decide, show (1 : Int32).toInt = 1 from by decide] at *; omega)) (by first | decide | (simp only [Int32.lt_iff_toInt_lt, ← Int32.toInt_inj, show (0 : Int32).toInt = 0 from by decide, show (1 : Int32).toInt = 1 from by decide] at *; omega)) (by decide) (by first | decide | (simp only [Int32.lt_iff_toInt_lt, ← Int32.toInt_inj, show (0 : Int32).toInt = 0 from by decide, show (1 : Int32).toInt = 1 from by decide] at *; omega)) (dcmpV_self (Jvm.Free.Fl.i2d_fin _).noNaN _) (by decide) (by first | decide | (simp only [Int32.lt_iff_toInt_lt, ← Int32.toInt_inj, show (0 : Int32).toInt = 0 from by decide, show (1 : Int32).toInt = 1 from by decide] at *; omega)) (by first | decide | (simp only [Int32.lt_iff_toInt_lt, ← Int32.toInt_inj, show (0 : Int32).toInt = 0 from by decide, show (1 : Int32).toInt = 1 from by decide] at *; omega)) p e ha hc hk s m _ below hf ((Spec.applies_iff_loose hf).mp happ).1 ⟨rfl, State.Warmed39.refl s, rfl⟩ trivial
        refine ⟨n, _, h1, h2, h3, hpost _ _ _ _ _ _ ⟨Cond.after_iff.mpr rfl, Cond.after_iff.mpr (eq_i res_at (Term.int_eval (1)) rfl), trivial⟩ ⟨hq.1, hq.2.1, (hq.2.2.sift fun y hy => Or.inr (N y hy)).mono (by decide) (by decide)⟩⟩
      · obtain ⟨n, o, h1, h2, h3, _, L, rfl, ⟨rfl, N⟩, hq⟩ := rm0_100 l s _ hw tables_1 i0 i1 i2 i3 s.heap s.heap.size (Nat.le_refl _) q1 q2 q3 (by first | decide | (simp only [Int32.lt_iff_toInt_lt, ← Int32.toInt_inj, show (0 : Int32).toInt = 0 from by decide, show (1 : Int32).toInt = 1 from by decide] at *; omega)) (by first | decide | (simp only [Int32.lt_iff_toInt_lt, ← Int32.toInt_inj, show (0 : Int32).toInt = 0 from by decide, show (1 : Int32).toInt = 1 from by decide] at *; omega)) (by decide) (by first | decide | (simp only [Int32.lt_iff_toInt_lt, ← Int32.toInt_inj, show (0 : Int32).toInt = 0 from by decide, show (1 : Int32).toInt = 1 from by decide] at *; omega)) (by first | decide | (simp only [Int32.lt_iff_toInt_lt, ← Int32.toInt_inj, show (0 : Int32).toInt = 0 from by decide, show (1 : Int32).toInt = 1 from by decide] at *; omega)) (by decide) (by first | decide | (simp only [Int32.lt_iff_toInt_lt, ← Int32.toInt_inj, show (0 : Int32).toInt = 0 from by decide, show (1 : Int32).toInt = 1 from by decide] at *; omega)) (dcmpV_self (Jvm.Free.Fl.i2d_fin _).noNaN _) (by decide) (by first | decide | (simp only [Int32.lt_iff_toInt_lt, ← Int32.toInt_inj, show (0 : Int32).toInt = 0 from by decide, show (1 : Int32).toInt = 1 from by decide] at *; omega)) (by first | decide | (simp only [Int32.lt_iff_toInt_lt, ← Int32.toInt_inj, show (0 : Int32).toInt = 0 from by decide, show (1 : Int32).toInt = 1 from by decide] at *; omega)) (by decide) p e ha hc hk s m _ below hf ((Spec.applies_iff_loose hf).mp happ).1 ⟨rfl, State.Warmed39.refl s, rfl⟩ trivial
        refine ⟨n, _, h1, h2, h3, hpost _ _ _ _ _ _ ⟨Cond.after_iff.mpr rfl, Cond.after_iff.mpr (eq_i res_at (Term.int_eval (1)) rfl), trivial⟩ ⟨hq.1, hq.2.1, (hq.2.2.sift fun y hy => Or.inr (N y hy)).mono (by decide) (by decide)⟩⟩
  · by_cases q2 : (0 : Int32) < (i1 % (64 : Int32))
    · by_cases q3 : (i1 % (64 : Int32)) < (i2 % (64 : Int32))
      · obtain ⟨n, o, h1, h2, h3, _, L, rfl, ⟨rfl, N⟩, hq⟩ := rm0_011 l s _ hw tables_1 i0 i1 i2 i3 s.heap s.heap.size (Nat.le_refl _) q1 q2 q3 (by first | decide | (simp only [Int32.lt_iff_toInt_lt, ← Int32.toInt_inj, show (0 : Int32).toInt = 0 from by decide, show (1 : Int32).toInt = 1 from by decide] at *; omega)) (by decide) (by decide) (by first | decide | (simp only [Int32.lt_iff_toInt_lt, ← Int32.toInt_inj, show (0 : Int32).toInt = 0 from by decide, show (1 : Int32).toInt = 1 from by decide] at *; omega)) (by first | decide | (simp only [Int32.lt_iff_toInt_lt, ← Int32.toInt_inj, show (0 : Int32).toInt = 0 from by decide, show (1 : Int32).toInt = 1 from by decide] at *; omega)) (by decide) (by first | decide | (simp only [Int32.lt_iff_toInt_lt, ← Int32.toInt_inj, show (0 : Int32).toInt = 0 from by decide, show (1 : Int32).toInt = 1 from by decide] at *; omega)) (by first | decide | (simp only [Int32.lt_iff_toInt_lt, ← Int32.toInt_inj, show (0 : Int32).toInt = 0 from by decide, show (1 : Int32).toInt = 1 from by decide] at *; omega)) p e ha hc hk s m _ below hf ((Spec.applies_iff_loose hf).mp happ).1 ⟨rfl, State.Warmed39.refl s, rfl⟩ trivial
        refine ⟨n, _, h1, h2, h3, hpost _ _ _ _ _ _ ⟨Cond.after_iff.mpr rfl, Cond.after_iff.mpr (eq_i res_at (Term.int_eval (1)) rfl), trivial⟩ ⟨hq.1, hq.2.1, (hq.2.2.sift fun y hy => Or.inr (N y hy)).mono (by decide) (by decide)⟩⟩
      · obtain ⟨n, o, h1, h2, h3, _, L, rfl, ⟨rfl, N⟩, hq⟩ := rm0_010 l s _ hw tables_1 i0 i1 i2 i3 s.heap s.heap.size (Nat.le_refl _) q1 q2 q3 (by first | decide | (simp only [Int32.lt_iff_toInt_lt, ← Int32.toInt_inj, show (0 : Int32).toInt = 0 from by decide, show (1 : Int32).toInt = 1 from by decide] at *; omega)) (by decide) (by decide) (by first | decide | (simp only [Int32.lt_iff_toInt_lt, ← Int32.toInt_inj, show (0 : Int32).toInt = 0 from by decide, show (1 : Int32).toInt = 1 from by decide] at *; omega)) (by first | decide | (simp only [Int32.lt_iff_toInt_lt, ← Int32.toInt_inj, show (0 : Int32).toInt = 0 from by decide, show (1 : Int32).toInt = 1 from by decide] at *; omega)) (by decide) (by first | decide | (simp only [Int32.lt_iff_toInt_lt, ← Int32.toInt_inj, show (0 : Int32).toInt = 0 from by decide, show (1 : Int32).toInt = 1 from by decide] at *; omega)) (by first | decide | (simp only [Int32.lt_iff_toInt_lt, ← Int32.toInt_inj, show (0 : Int32).toInt = 0 from by decide, show (1 : Int32).toInt = 1 from by decide] at *; omega)) (by decide) p e ha hc hk s m _ below hf ((Spec.applies_iff_loose hf).mp happ).1 ⟨rfl, State.Warmed39.refl s, rfl⟩ trivial
        refine ⟨n, _, h1, h2, h3, hpost _ _ _ _ _ _ ⟨Cond.after_iff.mpr rfl, Cond.after_iff.mpr (eq_i res_at (Term.int_eval (1)) rfl), trivial⟩ ⟨hq.1, hq.2.1, (hq.2.2.sift fun y hy => Or.inr (N y hy)).mono (by decide) (by decide)⟩⟩
    · by_cases q3 : (0 : Int32) < (i2 % (64 : Int32))
      · obtain ⟨n, o, h1, h2, h3, _, L, rfl, ⟨rfl, N⟩, hq⟩ := rm0_001 l s _ hw tables_1 i0 i1 i2 i3 s.heap s.heap.size (Nat.le_refl _) q1 q2 q3 (by first | decide | (simp only [Int32.lt_iff_toInt_lt, ← Int32.toInt_inj, show (0 : Int32).toInt = 0 from by decide, show (1 : Int32).toInt = 1 from by decide] at *; omega)) (by decide) (by decide) (by first | decide | (simp only [Int32.lt_iff_toInt_lt, ← Int32.toInt_inj, show (0 : Int32).toInt = 0 from by decide, show (1 : Int32).toInt = 1 from by decide] at *; omega)) (by first | decide | (simp only [Int32.lt_iff_toInt_lt, ← Int32.toInt_inj, show (0 : Int32).toInt = 0 from by decide, show (1 : Int32).toInt = 1 from by decide] at *; omega)) (by decide) (by decide) (by first | decide | (simp only [Int32.lt_iff_toInt_lt, ← Int32.toInt_inj, show (0 : Int32).toInt = 0 from by decide, show (1 : Int32).toInt = 1 from by decide] at *; omega)) (by first | decide | (simp only [Int32.lt_iff_toInt_lt, ← Int32.toInt_inj, show (0 : Int32).toInt = 0 from by decide, show (1 : Int32).toInt = 1 from by decide] at *; omega)) p e ha hc hk s m _ below hf ((Spec.applies_iff_loose hf).mp happ).1 ⟨rfl, State.Warmed39.refl s, rfl⟩ trivial
        refine ⟨n, _, h1, h2, h3, hpost _ _ _ _ _ _ ⟨Cond.after_iff.mpr rfl, Cond.after_iff.mpr (eq_i res_at (Term.int_eval (1)) rfl), trivial⟩ ⟨hq.1, hq.2.1, (hq.2.2.sift fun y hy => Or.inr (N y hy)).mono (by decide) (by decide)⟩⟩
      · obtain ⟨n, o, h1, h2, h3, _, L, rfl, ⟨rfl, N⟩, hq⟩ := rm0_000 l s _ hw tables_1 i0 i1 i2 i3 s.heap s.heap.size (Nat.le_refl _) q1 q2 q3 (by first | decide | (simp only [Int32.lt_iff_toInt_lt, ← Int32.toInt_inj, show (0 : Int32).toInt = 0 from by decide, show (1 : Int32).toInt = 1 from by decide] at *; omega)) (by decide) (by decide) (by first | decide | (simp only [Int32.lt_iff_toInt_lt, ← Int32.toInt_inj, show (0 : Int32).toInt = 0 from by decide, show (1 : Int32).toInt = 1 from by decide] at *; omega)) (by first | decide | (simp only [Int32.lt_iff_toInt_lt, ← Int32.toInt_inj, show (0 : Int32).toInt = 0 from by decide, show (1 : Int32).toInt = 1 from by decide] at *; omega)) (by decide) (by decide) (by first | decide | (simp only [Int32.lt_iff_toInt_lt, ← Int32.toInt_inj, show (0 : Int32).toInt = 0 from by decide, show (1 : Int32).toInt = 1 from by decide] at *; omega)) (by first | decide | (simp only [Int32.lt_iff_toInt_lt, ← Int32.toInt_inj, show (0 : Int32).toInt = 0 from by decide, show (1 : Int32).toInt = 1 from by decide] at *; omega)) (by decide) p e ha hc hk s m _ below hf ((Spec.applies_iff_loose hf).mp happ).1 ⟨rfl, State.Warmed39.refl s, rfl⟩ trivial
        refine ⟨n, _, h1, h2, h3, hpost _ _ _ _ _ _ ⟨Cond.after_iff.mpr rfl, Cond.after_iff.mpr (eq_i res_at (Term.int_eval (1)) rfl), trivial⟩ ⟨hq.1, hq.2.1, (hq.2.2.sift fun y hy => Or.inr (N y hy)).mono (by decide) (by decide)⟩⟩
theorem main_1_1 : Claimed_1_1 := comes_1 fun _ _ _ _ _ _ h hF => ⟨h.1, hF⟩
theorem main_1_2 : Claimed_1_2 := comes_1 fun _ _ _ _ _ _ h hF => ⟨h.2.1, hF⟩
end Jvm.Pilot.@@N@@
namespace Jvm.Pilot.@@N@@
open Jvm Jvm.ClassFile Sem Op Lib Jvm.Free Jvm.Stand Jvm.Pilot.@@N@@.Jvm.D
/-! MADE BY PROGRAM (witnessworld.py) out of the Statement's table words and the real class files: 9 classes; the members and pool entries that the words name. The judged class is class 1, her method 1. -/
namespace start1
open Jvm.ClassFile
def u (s : String) : CpInfo := .utf8 (stringToUtf16 s)
/-- a pool by its gaps: so many unusable entries, then the entry; so many at the end -/
def gap : Nat → List CpInfo → List CpInfo
  | 0, r => r
  | n + 1, r => .unusable :: gap n r
def poolList (es : List (Nat × CpInfo)) (last : Nat) : List CpInfo := es.foldr (fun e r => gap e.1 (e.2 :: r)) (gap last [])
def pool (es : List (Nat × CpInfo)) (last : Nat) : Array CpInfo := ⟨poolList es last⟩
def fileOf (pool : Array CpInfo) (this : Nat) (attrs : Array Attribute := #[]) (ms : Array MethodInfo := #[]) (fl : Nat := 33) (sup : Nat := 0) (ifs : Array Nat := #[]) (fds : Array FieldInfo := #[]) : ClassFile where
  minorVersion := 0
  majorVersion := 65
  constantPool := pool
  accessFlags := fl
  thisClass := this
  superClass := sup
  interfaces := ifs
  fields := fds
  methods := ms
  attributes := attrs
def plain (name : String) (sup : Option ClassId) : Class where
  name := name
  kind := .ordinary
  loader := none
  accessFlags := 33
  super := sup
  interfaces := #[]
  cf := none
  fields := #[]
  methods := #[]
  instanceTypes := #[]
  staticTypes := #[]
  resolved := #[]
  callSites := []
  init := .initialized
  statics := none
  mirror := none

def pool0 : Array CpInfo := pool [(5, u "<init>"), (0, u "()V"), (1, .class_ 10), (1, u "java/lang/Object")] 113

def k0c0 : Code := { maxStack := 0, maxLocals := 1, code := object_method_1_code, exceptionTable := #[], attributes := #[] }
def k0m0 : Method := { name := "<init>", desc := "()V", sig := { parameters := [], returnType := none }, accessFlags := 1, code := some k0c0 }
/-- java/lang/Object -/
def k0 : Class := { plain "java/lang/Object" none with
  accessFlags := 33
  interfaces := #[]
  cf := some (fileOf pool0 8 #[] #[{ accessFlags := 1, nameIndex := 5, descriptorIndex := 6, attributes := #[] }] 33 0 #[] #[])
  fields := #[]
  methods := #[k0m0]
  instanceTypes := #[]
  staticTypes := #[]
  resolved := Array.replicate 124 none
  statics := none }

def pool1 : Array CpInfo := pool [(2, .class_ 4), (0, .nameAndType 5 6), (0, u "java/lang/Object"), (0, u "<init>"), (0, u "()V"), (0, .class_ 8), (0, u "com/example/understory/understory/sim/ColumnEvaluator$Buffer"), (0, .methodref 7 3), (0, .methodref 7 11), (0, .nameAndType 12 13), (0, u "of"), (0, u "(I)[D"), (0, .class_ 15), (0, u "com/example/understory/understory/sim/BufferOfPinLaw"), (2, u "law"), (0, u "(IIII)Z")] 9

def k1m0 : Method := { name := "<init>", desc := "()V", sig := { parameters := [], returnType := none }, accessFlags := 1, code := none }
def k1c1 : Code := { maxStack := 4, maxLocals := 14, code := code, exceptionTable := #[], attributes := #[] }
def k1m1 : Method := { name := "law", desc := "(IIII)Z", sig := { parameters := [.int, .int, .int, .int], returnType := some .boolean }, accessFlags := 9, code := some k1c1 }
/-- com/example/understory/understory/sim/BufferOfPinLaw -/
def k1 : Class := { plain "com/example/understory/understory/sim/BufferOfPinLaw" (some 0) with
  accessFlags := 49
  interfaces := #[]
  cf := some (fileOf pool1 14 #[] #[{ accessFlags := 1, nameIndex := 5, descriptorIndex := 6, attributes := #[] }, { accessFlags := 9, nameIndex := 18, descriptorIndex := 19, attributes := #[] }] 49 2 #[] #[])
  fields := #[]
  methods := #[k1m0, k1m1]
  instanceTypes := #[]
  staticTypes := #[]
  resolved := Array.replicate 29 none
  statics := none }

def pool2 : Array CpInfo := pool [(1, .methodref 2 3), (0, .class_ 4), (0, .nameAndType 5 6), (0, u "java/lang/Object"), (0, u "<init>"), (0, u "()V"), (0, .fieldref 8 9), (0, .class_ 10), (0, .nameAndType 11 12), (0, u "com/example/understory/understory/sim/ColumnEvaluator$Buffer"), (0, u "values"), (0, u "[D"), (2, u "of"), (0, u "(I)[D"), (4, .class_ 22), (0, u "com/example/understory/understory/sim/ColumnEvaluator")] 2

def k2c0 : Code := { maxStack := 2, maxLocals := 1, code := prog_48_method_1_code, exceptionTable := #[], attributes := #[] }
def k2m0 : Method := { name := "<init>", desc := "()V", sig := { parameters := [], returnType := none }, accessFlags := 1, code := some k2c0 }
def k2c1 : Code := { maxStack := 2, maxLocals := 2, code := prog_48_method_2_code, exceptionTable := #[], attributes := #[] }
def k2m1 : Method := { name := "of", desc := "(I)[D", sig := { parameters := [.int], returnType := some (.array .double) }, accessFlags := 0, code := some k2c1 }
/-- com/example/understory/understory/sim/ColumnEvaluator$Buffer -/
def k2 : Class := { plain "com/example/understory/understory/sim/ColumnEvaluator$Buffer" (some 0) with
  accessFlags := 49
  interfaces := #[]
  cf := some (fileOf pool2 8 #[.nestHost 21] #[{ accessFlags := 1, nameIndex := 5, descriptorIndex := 6, attributes := #[] }, { accessFlags := 0, nameIndex := 15, descriptorIndex := 16, attributes := #[] }] 49 2 #[] #[{ accessFlags := 2, nameIndex := 11, descriptorIndex := 12, attributes := #[] }])
  fields := #[{ name := "values", type := (.array .double), accessFlags := 2, slot := 0, constantValue := 0 }]
  methods := #[k2m0, k2m1]
  instanceTypes := #[(.array .double)]
  staticTypes := #[]
  resolved := Array.replicate 25 none
  statics := none }

def pool3 : Array CpInfo := pool [(1, u "java/lang/Cloneable"), (0, .class_ 1), (0, u "java/lang/Object"), (0, .class_ 3)] 3

/-- java/lang/Cloneable -/
def k3 : Class := { plain "java/lang/Cloneable" (some 0) with
  accessFlags := 1537
  interfaces := #[]
  cf := some (fileOf pool3 2 #[] #[] 1537 4 #[] #[])
  fields := #[]
  methods := #[]
  instanceTypes := #[]
  staticTypes := #[]
  resolved := Array.replicate 8 none
  statics := none }

def pool4 : Array CpInfo := pool [(1, u "java/io/Serializable"), (0, .class_ 1), (0, u "java/lang/Object"), (0, .class_ 3)] 3

/-- java/io/Serializable -/
def k4 : Class := { plain "java/io/Serializable" (some 0) with
  accessFlags := 1537
  interfaces := #[]
  cf := some (fileOf pool4 2 #[] #[] 1537 4 #[] #[])
  fields := #[]
  methods := #[]
  instanceTypes := #[]
  staticTypes := #[]
  resolved := Array.replicate 8 none
  statics := none }

/-- the primitive byte -/
def k5 : Class := { plain "byte" none with kind := .primitive 'B', accessFlags := 0x411 }
/-- [B -/
def k6 : Class := { plain "[B" (some 0) with kind := .array 5 .byte, interfaces := #[3, 4], accessFlags := 1041 }

/-- the primitive int -/
def k7 : Class := { plain "int" none with kind := .primitive 'I', accessFlags := 0x411 }
/-- [I -/
def k8 : Class := { plain "[I" (some 0) with kind := .array 7 .int, interfaces := #[3, 4], accessFlags := 1041 }

/-- the primitive double -/
def k9 : Class := { plain "double" none with kind := .primitive 'D', accessFlags := 0x411 }
/-- [D -/
def k10 : Class := { plain "[D" (some 0) with kind := .array 9 .double, interfaces := #[3, 4], accessFlags := 1041 }
def heap : Heap := #[]
def classes : Array Class := #[k0, k1, k2, k3, k4, k5, k6, k7, k8, k9, k10]
def interned : List (Array UInt16 × Addr) := []
def slotsUsed : Nat := 0
def theMethod : MethodId := ⟨1, 1⟩
def args0 : Array Value := #[.int 5, .int 7, .int 9, .int 2]
def aboutOver (below : List Frame) : State where
  vm := { classes := classes, interned := interned.toArray }
  heap := heap
  slotsUsed := slotsUsed
  threads := #[{ frames := .invoking theMethod args0 :: below }]
def below0 : List Frame := [.native { method := ⟨0, 0⟩, args := #[] }]
def about1 : State := aboutOver below0
def p0 : Program := .bare "" "" ""
def e0 : Env := launch0.env 0 0 0
theorem w_frames : about1.frames = Frame.invoking theMethod args0 :: below0 := rfl
set_option maxRecDepth 65536 in
theorem w_args : argsFit about1.vm theMethod args0 = true := by decide +kernel
set_option maxRecDepth 65536 in
theorem w_heap : heapFits about1 = true := by decide +kernel
set_option maxRecDepth 65536 in
theorem w_runnable : about1.curStatus? = some .runnable := by decide +kernel
set_option maxRecDepth 65536 in
theorem w_alone : about1.alone = true := by decide +kernel
set_option maxRecDepth 65536 in
theorem w_named : about1.methodNamed? x = some theMethod := by decide +kernel
set_option maxRecDepth 65536 in
theorem w_hears : about1.hears theMethod below0 = true := by decide +kernel
set_option maxRecDepth 65536 in
theorem w_ripe : about1.ripe theMethod args0 below0 = true := by decide +kernel
theorem w_running : about1.status = .running := rfl
set_option maxRecDepth 65536 in
theorem w_room : about1.hasRoom e0.platform room_1 = true :=
  launch0.hasRoom_least _ room_1 (by decide +kernel) (by decide +kernel) (by decide +kernel) (by decide +kernel) (by decide +kernel) (by decide +kernel)
theorem allAtoms_all (ts : List Jvm.Cond) (a : Array Jvm.Value) (st : Jvm.State) : (allAtoms ts).before a st = ts.all (fun c => c.before a st) := by
  induction ts with
  | nil => rfl
  | cons c t ih =>
    show (Jvm.Cond.and c (allAtoms t)).before a st = _
    rw [Jvm.Cond.before_and, ih, List.all_cons]
def words1 : List Jvm.Cond := Jvm.Cond.code x code maxLocals ret :: tables_1
/-- a 'code' word, met by the world's own term for the bytes: nothing is compared byte by byte -/
theorem code_word {y : MethodName} {bytes : ByteArray} {mx : Nat} {rt : Option FieldType} {a : Array Value} {s : State} {m : MethodId} {meth : Method} {c : Code} (h1 : s.methodNamed? y = some m) (h2 : s.vm.method? m = some meth) (h3 : meth.code = some c) (h4 : c.code = bytes)
    (h5 : (c.maxLocals == mx && c.exceptionTable.isEmpty && decide (c.maxStack ≤ mostOperands) && decide (meth.sig.returnType = rt) && !meth.locks && decide (parseMethodDescriptor y.desc = some meth.sig)) = true) : (Jvm.Cond.code y bytes mx rt).before a s = true := by
  simp only [Bool.and_eq_true, beq_iff_eq, Bool.not_eq_true', decide_eq_true_eq] at h5
  obtain ⟨⟨⟨⟨⟨g1, g2⟩, g3⟩, g4⟩, g5⟩, g6⟩ := h5
  simp [Cond.before, Cond.holds, Cond.value, h1, h2, h3, h4, g1, g2, g3, g4, g5, g6]
def isCode : Jvm.Cond → Bool
  | .code _ _ _ _ => true
  | _ => false
theorem all_split {L : List Jvm.Cond} {P : Jvm.Cond → Bool} (h1 : L.all (fun c => isCode c || P c) = true) (h2 : ∀ c ∈ L.filter isCode, P c = true) : L.all P = true := by
  refine List.all_eq_true.mpr fun c hc => ?_
  have h := List.all_eq_true.mp h1 c hc
  rcases Bool.eq_false_or_eq_true (isCode c) with hi | hi
  · exact h2 c (List.mem_filter.mpr ⟨hc, hi⟩)
  · simpa [hi] using h
set_option maxRecDepth 65536 in
theorem w_c0 : (Jvm.Cond.code x code maxLocals ret).before args0 about1 = true := code_word (m := ⟨1, 1⟩) (meth := k1m1) (c := k1c1) (by decide +kernel) rfl rfl rfl (by decide +kernel)
set_option maxRecDepth 65536 in
theorem w_c1 : (Jvm.Cond.code ({ cls := "com/example/understory/understory/sim/ColumnEvaluator$Buffer", name := "<init>", desc := "()V" } : Jvm.MethodName) prog_48_method_1_code (1 : Nat) (Option.none : Option Jvm.ClassFile.FieldType)).before args0 about1 = true := code_word (m := ⟨2, 0⟩) (meth := k2m0) (c := k2c0) (by decide +kernel) rfl rfl rfl (by decide +kernel)
set_option maxRecDepth 65536 in
theorem w_c2 : (Jvm.Cond.code ({ cls := "java/lang/Object", name := "<init>", desc := "()V" } : Jvm.MethodName) object_method_1_code (1 : Nat) (Option.none : Option Jvm.ClassFile.FieldType)).before args0 about1 = true := code_word (m := ⟨0, 0⟩) (meth := k0m0) (c := k0c0) (by decide +kernel) rfl rfl rfl (by decide +kernel)
set_option maxRecDepth 65536 in
theorem w_c3 : (Jvm.Cond.code ({ cls := "com/example/understory/understory/sim/ColumnEvaluator$Buffer", name := "of", desc := "(I)[D" } : Jvm.MethodName) prog_48_method_2_code (2 : Nat) (Option.some (Jvm.ClassFile.FieldType.array Jvm.ClassFile.FieldType.double))).before args0 about1 = true := code_word (m := ⟨2, 1⟩) (meth := k2m1) (c := k2c1) (by decide +kernel) rfl rfl rfl (by decide +kernel)
def codes1 : List Jvm.Cond := [Jvm.Cond.code x code maxLocals ret, Jvm.Cond.code ({ cls := "com/example/understory/understory/sim/ColumnEvaluator$Buffer", name := "<init>", desc := "()V" } : Jvm.MethodName) prog_48_method_1_code (1 : Nat) (Option.none : Option Jvm.ClassFile.FieldType), Jvm.Cond.code ({ cls := "java/lang/Object", name := "<init>", desc := "()V" } : Jvm.MethodName) object_method_1_code (1 : Nat) (Option.none : Option Jvm.ClassFile.FieldType), Jvm.Cond.code ({ cls := "com/example/understory/understory/sim/ColumnEvaluator$Buffer", name := "of", desc := "(I)[D" } : Jvm.MethodName) prog_48_method_2_code (2 : Nat) (Option.some (Jvm.ClassFile.FieldType.array Jvm.ClassFile.FieldType.double))]
set_option maxRecDepth 65536 in
theorem codes_eq : words1.filter isCode = codes1 := rfl
theorem w_codes : ∀ c ∈ words1.filter isCode, c.before args0 about1 = true := by
  rw [codes_eq]
  intro c hc
  simp only [codes1, List.mem_cons, List.not_mem_nil, or_false] at hc
  rcases hc with rfl | rfl | rfl | rfl
  · exact w_c0
  · exact w_c1
  · exact w_c2
  · exact w_c3
set_option maxRecDepth 65536 in
theorem w_t1 : words1.all (fun c => isCode c || c.before args0 about1) = true := by decide +kernel
theorem w_tables : (allAtoms (Jvm.Cond.code x code maxLocals ret :: tables_1)).before args0 about1 = true := by
  rw [allAtoms_all]
  show words1.all (fun c => c.before args0 about1) = true
  refine all_split ?_ w_codes
  rw [w_t1]
set_option maxRecDepth 65536 in
theorem w_case : (Jvm.Cond.and given_1 narrow_1).before args0 about1 = true := by decide +kernel
theorem w_applies : (headSpec (Jvm.Cond.code x code maxLocals ret :: tables_1) room_1).applies x e0.platform about1 = true :=
  (Spec.applies_iff w_frames).mpr ⟨w_running, w_runnable, w_alone, w_named, w_hears, w_ripe, w_room, w_tables⟩
theorem atStart : AtStart classFile x code maxLocals ret World_1 tables_1 room_1 Calls_1 rest_1 Pre_1 launch0 p0 e0 about1 theMethod args0 below0 :=
  ⟨lists_1, trivial, launch0.admits_env _ _ _, launch0.least_env, fairChoices_fair.cas, fairChoices_fair.clock, w_frames, w_args, w_heap, w_applies, trivial, trivial, w_case⟩
end start1
theorem witness_1 : WitnessClaimed_1 := ⟨start1.p0, start1.e0, start1.about1, start1.theMethod, start1.args0, start1.below0, start1.atStart⟩
end Jvm.Pilot.@@N@@
