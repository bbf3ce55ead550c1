import JvmDerived
import JvmDerived.Pilot.@@N@@Statement
import JvmDerived.Pilot.@@N@@Code
set_option linter.unusedVariables false
set_option linter.unusedSimpArgs false
@@BLOCK:NumsL.lean.txt@@
namespace Jvm.RoadKit
open Sem ClassFile Op Lib Jvm.Stand Jvm.Free Jvm.LawKit
section New
variable {p : Program} {l : Launch} {e : Env} {R : Room} {s : State} {m : MethodId} {args : Array Value} {below : List Frame} {meth : Method} {c : Code} {T : State} {locs : List Loc} {cells slots : Nat}
theorem retI (X : Stand p l e R s m args below meth c T locs cells slots) (hx : p.tables.exec = Jvm.exec) {pc : Nat} {Ls : Array Slot} {z : Int32} {rest : List Value} (hret : meth.sig.returnType = some .int) (hd : decode c.code pc = .ok (.ireturn, 1)) {fs : List Frame}
    (hl : ∀ (f : JFrame) (acts : List Action), f.method = m → f.locked = none → f.entered = [] → (doReturn e (T.setTop f) acts (some (.int z))).1 = T.setFrames fs) : Steps p.tables e below (T.setTop (mkF m pc Ls (.int z :: rest))) (T.setFrames fs) := by
  have hm' : T.vm.method? m = some meth := X.method'
  have hn : narrow .int (.int z) = .int z := rfl
  show Steps p.tables e below (T.setTop { method := m, pc := pc, locals := Ls, stack := _ :: rest, locked := none }) _
  jvm_step X.here [X.here.top, hx, hd, hm', hret, hn]
  first | (intro acts; rw [hl _ acts rfl rfl rfl]) | rw [hl _ _ rfl rfl rfl]
  exact Steps.refl _
end New
end Jvm.RoadKit
namespace Jvm.Pilot.@@N@@
open Jvm Jvm.ClassFile Sem Op Lib Jvm.Free Jvm.Stand Jvm.LawKit Jvm.RoadKit Bundle Jvm.Pilot.@@N@@.Jvm.D

theorem own_v0 (a : Int32) : 0 ≤ (a &&& 2147483647).toInt := by
  rw [Jvm.Kit.i32_mask a 2147483647 (k := 31) (by decide) (by decide)]; omega
theorem own_y {v : Int32} (hv : 0 ≤ v.toInt) : (v.toInt64 + (1 : Int64)).toInt = v.toInt + 1 := by
  have h1 := v.toInt_lt
  have e : v.toInt64.toInt = v.toInt := Jvm.Kit.i64_of_i32 v
  have i1 : (1 : Int64).toInt = 1 := rfl
  rw [Jvm.Kit.i64_add (by omega) (by omega)]; omega
theorem own_y0 {v : Int32} (hv : 0 ≤ v.toInt) : v.toInt64 + (1 : Int64) ≠ 0 := fun q => by
  have e := own_y hv
  rw [q] at e
  have i0 : (0 : Int64).toInt = 0 := rfl
  omega
abbrev own_d (o v : Int32) : Int32 := ((o.toInt64 &&& (2147483647 : Int64)) - (o.toInt64 &&& (2147483647 : Int64)) / (v.toInt64 + (1 : Int64)) * (v.toInt64 + (1 : Int64))).toInt32
theorem own_rem (o : Int32) {v : Int32} (hv : 0 ≤ v.toInt) : 0 ≤ (own_d o v).toInt ∧ (own_d o v).toInt ≤ v.toInt := by
  have ex : (o.toInt64 &&& (2147483647 : Int64)).toInt = o.toInt64.toInt % 2 ^ 31 := Jvm.Kit.i64_mask _ 2147483647 (k := 31) (by decide) (by decide)
  have hx : 0 ≤ (o.toInt64 &&& (2147483647 : Int64)).toInt := by rw [ex]; omega
  have er := Jvm.Kit.i64_rem_nonneg (y := v.toInt64 + (1 : Int64)) hx
  have ey := own_y hv
  have hlt := v.toInt_lt
  rw [ey] at er
  have b1 := Int.emod_nonneg (o.toInt64 &&& (2147483647 : Int64)).toInt (b := v.toInt + 1) (by omega)
  have b2 := Int.emod_lt_of_pos (o.toInt64 &&& (2147483647 : Int64)).toInt (b := v.toInt + 1) (by omega)
  have ed : (own_d o v).toInt = (o.toInt64 &&& (2147483647 : Int64)).toInt % (v.toInt + 1) := by
    unfold own_d
    rw [Jvm.Kit.i32_of_i64 (by rw [er]; omega) (by rw [er]; omega), er]
  rw [ed]
  omega
theorem own_pred {v : Int32} (h : (0 : Int32) < v) : 0 ≤ (v - 1).toInt ∧ (v - 1).toInt ≤ v.toInt := by
  rw [Int32.lt_iff_toInt_lt] at h
  have i0 : (0 : Int32).toInt = 0 := rfl
  have i1 : (1 : Int32).toInt = 1 := rfl
  have h1 := v.toInt_lt
  rw [Jvm.Kit.i32_sub (by omega) (by omega)]
  omega
theorem d1_0 : decode prog_52_method_4_code 0 = .ok (.iload_n 1, 1) := by decide +kernel
theorem d1_1 : decode prog_52_method_4_code 1 = .ok (.ifCond .ne 10, 3) := by decide +kernel
theorem d1_4 : decode prog_52_method_4_code 4 = .ok (.getstatic 3, 3) := by decide +kernel
theorem d1_7 : decode prog_52_method_4_code 7 = .ok (.astore_n 2, 1) := by decide +kernel
theorem d1_8 : decode prog_52_method_4_code 8 = .ok (.goto 19, 3) := by decide +kernel
theorem d1_27 : decode prog_52_method_4_code 27 = .ok (.aload_n 2, 1) := by decide +kernel
theorem d1_28 : decode prog_52_method_4_code 28 = .ok (.areturn, 1) := by decide +kernel
theorem pn_1 : plainName "com/example/tallygraph/tallygraph/type/OnDemandKind" = true := by first | (simp [plainName, overriddenIn]; done) | decide +kernel
theorem ef_1 (m : MethodId) (x0 : Int32) (x1 : Int32) : entryFrame m #[(.int x0), (.int x1)] 3 = mkF m 0 #[.val (.int x0), .val (.int x1), .unset] [] := by first | (simp [entryFrame, mkF, argsToLocals, Value.category]; done) | rfl
def Q1 (Z : State) (p1 : Int32) (p2 : Int32) (w3 : Addr) (h0 : Heap) (n0 : Nat) (v : Option Value) (h : Heap) (L : List Loc) : Prop := v = some (.ref w3) ∧ Fr n0 L ∧ h = h0
set_option maxRecDepth 65536 in
set_option maxHeartbeats 40000000 in
theorem rm1a (l : Launch) (Z : State) (a0 : Array Value) (hw : ∀ d ∈ tables_1, d.before a0 Z = true) (ws : List Jvm.Cond) (p1 : Int32) (p2 : Int32) (w3 : Addr) (h0 : Heap) (n0 : Nat) (Z0 : n0 ≤ h0.size) (S_DATA_VALUES : Sta Z h0 "com/example/tallygraph/tallygraph/type/OnDemandKind" "DATA_VALUES" "Lcom/example/tallygraph/tallygraph/type/OnDemandKind;" (.ref w3)) (hc1 : p2 = (0 : Int32)) :
    MetFree l (⟨"com/example/tallygraph/tallygraph/type/OnDemandKind", "holding", "(II)Lcom/example/tallygraph/tallygraph/type/OnDemandKind;"⟩ : MethodName) (head1 (Jvm.Cond.code (⟨"com/example/tallygraph/tallygraph/type/OnDemandKind", "holding", "(II)Lcom/example/tallygraph/tallygraph/type/OnDemandKind;"⟩ : MethodName) prog_52_method_4_code 3 (some (.object "com/example/tallygraph/tallygraph/type/OnDemandKind")) :: ws) ({ frames := 0, cells := 0, slots := 0, locals := 0 } : Room)) (fun a U => a = #[(.int p1), (.int p2)] ∧ Z.Warmed39 U.vm ∧ U.heap = h0) (fun _ _ _ _ _ => True) (fun _ U o U' => ∃ v L, o = .returned v ∧ Q1 Z p1 p2 w3 h0 n0 v U'.heap L ∧ FrameEnd U o U' L ({ frames := 0, cells := 0, slots := 0, locals := 0 } : Room).cells ({ frames := 0, cells := 0, slots := 0, locals := 0 } : Room).slots) := by
  refine MetFree.of_bodySF (plainFor_of_name pn_1) hisR ?_
  intro p e s m args below meth c s₁ Bd hml0 hP hK
  obtain ⟨rfl, hZ, hh⟩ := hP
  have hx := Bd.exec
  have hby := Bd.bytes
  have hml : c.maxLocals = 3 := hml0
  have hown : s.vm.findClass "com/example/tallygraph/tallygraph/type/OnDemandKind" = some m.cls := findClass_of_methodNamed Bd.named
  have hnm := (name_of_methodNamed Bd.named Bd.method).1
  have X0 : Stand p l e ({ frames := 0, cells := 0, slots := 0, locals := 0 } : Room) s m #[(.int p1), (.int p2)] below meth c s₁ [] 0 0 := Stand.of_body Bd
  have e0 : s₁.heap = h0 := by rw [← hh, Bd.state]; rfl
  have N0 := Fr.nil n0
  have pre0 : ∀ t, Steps p.tables e below (s₁.setTop (mkF m 0 #[.val (.int p1), .val (.int p2), .unset] [])) t → Steps p.tables e below (s₁.setTop (entryFrame m #[(.int p1), (.int p2)] 3)) t := fun t k => castTop (ef_1 m p1 p2) k
  obtain ⟨T4, X4, e4, st4⟩ := getS2 X0 hx hZ hown (host := "") (Or.inl (hw _ (List.mem_of_getElem? (i := 5) rfl))) Via.refl e0 S_DATA_VALUES (g := (mkF m 4 #[.val (.int p1), .val (.int p2), .unset] [])) rfl (hb hby d1_4)
  obtain ⟨fs, hr, hrun, hended, hW, hsame⟩ := X4.leave (v := some (.ref w3)) (fun h => by rw [Bd.returns] at h; cases h)
  refine ⟨_, _, pre0 _ ?_, hrun, hended, _, _, rfl, ?_, ⟨_, rfl⟩, hW, hsame.mono (by decide) (by decide)⟩
  · show Steps p.tables e below (s₁.setTop (mkF m 0 #[.val (.int p1), .val (.int p2), .unset] [])) _
    refine XS.iloadN X0.here hx rfl (hb hby d1_0) rfl ?_
    show Steps p.tables e below (s₁.setTop (mkF m 1 #[.val (.int p1), .val (.int p2), .unset] [(.int p2)])) _
    refine XS.ifNo X0.here hx rfl (hb hby d1_1) rfl ((if0 _ _).trans (teq hc1).2) ?_
    show Steps p.tables e below (s₁.setTop (mkF m 4 #[.val (.int p1), .val (.int p2), .unset] [])) _
    refine st4 _ ?_
    show Steps p.tables e below (T4.setTop (mkF m 7 #[.val (.int p1), .val (.int p2), .unset] [(.ref w3)])) _
    refine XS.astoreN X4.here hx rfl (hb hby d1_7) rfl rfl (l' := #[.val (.int p1), .val (.int p2), .val (.ref w3)]) rfl ?_
    show Steps p.tables e below (T4.setTop (mkF m 8 #[.val (.int p1), .val (.int p2), .val (.ref w3)] [])) _
    refine XS.goto X4.here hx rfl (pc0 := 8) (pc' := 27) rfl (hb hby d1_8) (by decide) (by decide) ?_
    show Steps p.tables e below (T4.setTop (mkF m 27 #[.val (.int p1), .val (.int p2), .val (.ref w3)] [])) _
    refine XS.aloadN X4.here hx rfl (hb hby d1_27) rfl rfl ?_
    show Steps p.tables e below (T4.setTop (mkF m 28 #[.val (.int p1), .val (.int p2), .val (.ref w3)] [(.ref w3)])) _
    jvm_step X4.here [X4.here.top, hx, (hb hby d1_28), X4.method', Bd.returns, Value.isRef, FieldType.isReference]
    first | (intro acts; rw [hr _ acts rfl rfl rfl]) | rw [hr _ _ rfl rfl rfl]
    exact Steps.refl _
  · show Q1 Z p1 p2 w3 h0 n0 _ T4.heap _
    rw [e4]
    exact ⟨rfl, N0, rfl⟩
theorem d1_11 : decode prog_52_method_4_code 11 = .ok (.iload_n 1, 1) := by decide +kernel
theorem d1_12 : decode prog_52_method_4_code 12 = .ok (.iload_n 0, 1) := by decide +kernel
theorem d1_13 : decode prog_52_method_4_code 13 = .ok (.if_icmp .ne 10, 3) := by decide +kernel
theorem d1_16 : decode prog_52_method_4_code 16 = .ok (.getstatic 7, 3) := by decide +kernel
theorem d1_19 : decode prog_52_method_4_code 19 = .ok (.astore_n 2, 1) := by decide +kernel
theorem d1_20 : decode prog_52_method_4_code 20 = .ok (.goto 7, 3) := by decide +kernel
set_option maxRecDepth 65536 in
set_option maxHeartbeats 40000000 in
theorem rm1b (l : Launch) (Z : State) (a0 : Array Value) (hw : ∀ d ∈ tables_1, d.before a0 Z = true) (ws : List Jvm.Cond) (p1 : Int32) (p2 : Int32) (w3 : Addr) (h0 : Heap) (n0 : Nat) (Z0 : n0 ≤ h0.size) (S_DATA_OBJECTS : Sta Z h0 "com/example/tallygraph/tallygraph/type/OnDemandKind" "DATA_OBJECTS" "Lcom/example/tallygraph/tallygraph/type/OnDemandKind;" (.ref w3)) (hc1 : ¬ (p2 = (0 : Int32))) (hc13 : p2 = p1) :
    MetFree l (⟨"com/example/tallygraph/tallygraph/type/OnDemandKind", "holding", "(II)Lcom/example/tallygraph/tallygraph/type/OnDemandKind;"⟩ : MethodName) (head1 (Jvm.Cond.code (⟨"com/example/tallygraph/tallygraph/type/OnDemandKind", "holding", "(II)Lcom/example/tallygraph/tallygraph/type/OnDemandKind;"⟩ : MethodName) prog_52_method_4_code 3 (some (.object "com/example/tallygraph/tallygraph/type/OnDemandKind")) :: ws) ({ frames := 0, cells := 0, slots := 0, locals := 0 } : Room)) (fun a U => a = #[(.int p1), (.int p2)] ∧ Z.Warmed39 U.vm ∧ U.heap = h0) (fun _ _ _ _ _ => True) (fun _ U o U' => ∃ v L, o = .returned v ∧ Q1 Z p1 p2 w3 h0 n0 v U'.heap L ∧ FrameEnd U o U' L ({ frames := 0, cells := 0, slots := 0, locals := 0 } : Room).cells ({ frames := 0, cells := 0, slots := 0, locals := 0 } : Room).slots) := by
  refine MetFree.of_bodySF (plainFor_of_name pn_1) hisR ?_
  intro p e s m args below meth c s₁ Bd hml0 hP hK
  obtain ⟨rfl, hZ, hh⟩ := hP
  have hx := Bd.exec
  have hby := Bd.bytes
  have hml : c.maxLocals = 3 := hml0
  have hown : s.vm.findClass "com/example/tallygraph/tallygraph/type/OnDemandKind" = some m.cls := findClass_of_methodNamed Bd.named
  have hnm := (name_of_methodNamed Bd.named Bd.method).1
  have X0 : Stand p l e ({ frames := 0, cells := 0, slots := 0, locals := 0 } : Room) s m #[(.int p1), (.int p2)] below meth c s₁ [] 0 0 := Stand.of_body Bd
  have e0 : s₁.heap = h0 := by rw [← hh, Bd.state]; rfl
  have N0 := Fr.nil n0
  have pre0 : ∀ t, Steps p.tables e below (s₁.setTop (mkF m 0 #[.val (.int p1), .val (.int p2), .unset] [])) t → Steps p.tables e below (s₁.setTop (entryFrame m #[(.int p1), (.int p2)] 3)) t := fun t k => castTop (ef_1 m p1 p2) k
  obtain ⟨T4, X4, e4, st4⟩ := getS2 X0 hx hZ hown (host := "") (Or.inl (hw _ (List.mem_of_getElem? (i := 14) rfl))) Via.refl e0 S_DATA_OBJECTS (g := (mkF m 16 #[.val (.int p1), .val (.int p2), .unset] [])) rfl (hb hby d1_16)
  obtain ⟨fs, hr, hrun, hended, hW, hsame⟩ := X4.leave (v := some (.ref w3)) (fun h => by rw [Bd.returns] at h; cases h)
  refine ⟨_, _, pre0 _ ?_, hrun, hended, _, _, rfl, ?_, ⟨_, rfl⟩, hW, hsame.mono (by decide) (by decide)⟩
  · show Steps p.tables e below (s₁.setTop (mkF m 0 #[.val (.int p1), .val (.int p2), .unset] [])) _
    refine XS.iloadN X0.here hx rfl (hb hby d1_0) rfl ?_
    show Steps p.tables e below (s₁.setTop (mkF m 1 #[.val (.int p1), .val (.int p2), .unset] [(.int p2)])) _
    refine XS.ifYes X0.here hx rfl (pc0 := 1) (pc' := 11) rfl (hb hby d1_1) rfl ((if0 _ _).trans (feq hc1).2) (by decide) (by decide) ?_
    show Steps p.tables e below (s₁.setTop (mkF m 11 #[.val (.int p1), .val (.int p2), .unset] [])) _
    refine XS.iloadN X0.here hx rfl (hb hby d1_11) rfl ?_
    show Steps p.tables e below (s₁.setTop (mkF m 12 #[.val (.int p1), .val (.int p2), .unset] [(.int p2)])) _
    refine XS.iloadN X0.here hx rfl (hb hby d1_12) rfl ?_
    show Steps p.tables e below (s₁.setTop (mkF m 13 #[.val (.int p1), .val (.int p2), .unset] [(.int p1), (.int p2)])) _
    refine XS.icmpNo X0.here hx rfl (hb hby d1_13) rfl (teq hc13).2 ?_
    show Steps p.tables e below (s₁.setTop (mkF m 16 #[.val (.int p1), .val (.int p2), .unset] [])) _
    refine st4 _ ?_
    show Steps p.tables e below (T4.setTop (mkF m 19 #[.val (.int p1), .val (.int p2), .unset] [(.ref w3)])) _
    refine XS.astoreN X4.here hx rfl (hb hby d1_19) rfl rfl (l' := #[.val (.int p1), .val (.int p2), .val (.ref w3)]) rfl ?_
    show Steps p.tables e below (T4.setTop (mkF m 20 #[.val (.int p1), .val (.int p2), .val (.ref w3)] [])) _
    refine XS.goto X4.here hx rfl (pc0 := 20) (pc' := 27) rfl (hb hby d1_20) (by decide) (by decide) ?_
    show Steps p.tables e below (T4.setTop (mkF m 27 #[.val (.int p1), .val (.int p2), .val (.ref w3)] [])) _
    refine XS.aloadN X4.here hx rfl (hb hby d1_27) rfl rfl ?_
    show Steps p.tables e below (T4.setTop (mkF m 28 #[.val (.int p1), .val (.int p2), .val (.ref w3)] [(.ref w3)])) _
    jvm_step X4.here [X4.here.top, hx, (hb hby d1_28), X4.method', Bd.returns, Value.isRef, FieldType.isReference]
    first | (intro acts; rw [hr _ acts rfl rfl rfl]) | rw [hr _ _ rfl rfl rfl]
    exact Steps.refl _
  · show Q1 Z p1 p2 w3 h0 n0 _ T4.heap _
    rw [e4]
    exact ⟨rfl, N0, rfl⟩
theorem d1_23 : decode prog_52_method_4_code 23 = .ok (.getstatic 10, 3) := by decide +kernel
theorem d1_26 : decode prog_52_method_4_code 26 = .ok (.astore_n 2, 1) := by decide +kernel
set_option maxRecDepth 65536 in
set_option maxHeartbeats 40000000 in
theorem rm1c (l : Launch) (Z : State) (a0 : Array Value) (hw : ∀ d ∈ tables_1, d.before a0 Z = true) (ws : List Jvm.Cond) (p1 : Int32) (p2 : Int32) (w3 : Addr) (h0 : Heap) (n0 : Nat) (Z0 : n0 ≤ h0.size) (S_VALUES_AND_OBJECTS : Sta Z h0 "com/example/tallygraph/tallygraph/type/OnDemandKind" "VALUES_AND_OBJECTS" "Lcom/example/tallygraph/tallygraph/type/OnDemandKind;" (.ref w3)) (hc1 : ¬ (p2 = (0 : Int32))) (hc13 : ¬ (p2 = p1)) :
    MetFree l (⟨"com/example/tallygraph/tallygraph/type/OnDemandKind", "holding", "(II)Lcom/example/tallygraph/tallygraph/type/OnDemandKind;"⟩ : MethodName) (head1 (Jvm.Cond.code (⟨"com/example/tallygraph/tallygraph/type/OnDemandKind", "holding", "(II)Lcom/example/tallygraph/tallygraph/type/OnDemandKind;"⟩ : MethodName) prog_52_method_4_code 3 (some (.object "com/example/tallygraph/tallygraph/type/OnDemandKind")) :: ws) ({ frames := 0, cells := 0, slots := 0, locals := 0 } : Room)) (fun a U => a = #[(.int p1), (.int p2)] ∧ Z.Warmed39 U.vm ∧ U.heap = h0) (fun _ _ _ _ _ => True) (fun _ U o U' => ∃ v L, o = .returned v ∧ Q1 Z p1 p2 w3 h0 n0 v U'.heap L ∧ FrameEnd U o U' L ({ frames := 0, cells := 0, slots := 0, locals := 0 } : Room).cells ({ frames := 0, cells := 0, slots := 0, locals := 0 } : Room).slots) := by
  refine MetFree.of_bodySF (plainFor_of_name pn_1) hisR ?_
  intro p e s m args below meth c s₁ Bd hml0 hP hK
  obtain ⟨rfl, hZ, hh⟩ := hP
  have hx := Bd.exec
  have hby := Bd.bytes
  have hml : c.maxLocals = 3 := hml0
  have hown : s.vm.findClass "com/example/tallygraph/tallygraph/type/OnDemandKind" = some m.cls := findClass_of_methodNamed Bd.named
  have hnm := (name_of_methodNamed Bd.named Bd.method).1
  have X0 : Stand p l e ({ frames := 0, cells := 0, slots := 0, locals := 0 } : Room) s m #[(.int p1), (.int p2)] below meth c s₁ [] 0 0 := Stand.of_body Bd
  have e0 : s₁.heap = h0 := by rw [← hh, Bd.state]; rfl
  have N0 := Fr.nil n0
  have pre0 : ∀ t, Steps p.tables e below (s₁.setTop (mkF m 0 #[.val (.int p1), .val (.int p2), .unset] [])) t → Steps p.tables e below (s₁.setTop (entryFrame m #[(.int p1), (.int p2)] 3)) t := fun t k => castTop (ef_1 m p1 p2) k
  obtain ⟨T4, X4, e4, st4⟩ := getS2 X0 hx hZ hown (host := "") (Or.inl (hw _ (List.mem_of_getElem? (i := 13) rfl))) Via.refl e0 S_VALUES_AND_OBJECTS (g := (mkF m 23 #[.val (.int p1), .val (.int p2), .unset] [])) rfl (hb hby d1_23)
  obtain ⟨fs, hr, hrun, hended, hW, hsame⟩ := X4.leave (v := some (.ref w3)) (fun h => by rw [Bd.returns] at h; cases h)
  refine ⟨_, _, pre0 _ ?_, hrun, hended, _, _, rfl, ?_, ⟨_, rfl⟩, hW, hsame.mono (by decide) (by decide)⟩
  · show Steps p.tables e below (s₁.setTop (mkF m 0 #[.val (.int p1), .val (.int p2), .unset] [])) _
    refine XS.iloadN X0.here hx rfl (hb hby d1_0) rfl ?_
    show Steps p.tables e below (s₁.setTop (mkF m 1 #[.val (.int p1), .val (.int p2), .unset] [(.int p2)])) _
    refine XS.ifYes X0.here hx rfl (pc0 := 1) (pc' := 11) rfl (hb hby d1_1) rfl ((if0 _ _).trans (feq hc1).2) (by decide) (by decide) ?_
    show Steps p.tables e below (s₁.setTop (mkF m 11 #[.val (.int p1), .val (.int p2), .unset] [])) _
    refine XS.iloadN X0.here hx rfl (hb hby d1_11) rfl ?_
    show Steps p.tables e below (s₁.setTop (mkF m 12 #[.val (.int p1), .val (.int p2), .unset] [(.int p2)])) _
    refine XS.iloadN X0.here hx rfl (hb hby d1_12) rfl ?_
    show Steps p.tables e below (s₁.setTop (mkF m 13 #[.val (.int p1), .val (.int p2), .unset] [(.int p1), (.int p2)])) _
    refine XS.icmpYes X0.here hx rfl (pc0 := 13) (pc' := 23) rfl (hb hby d1_13) rfl (feq hc13).2 (by decide) (by decide) ?_
    show Steps p.tables e below (s₁.setTop (mkF m 23 #[.val (.int p1), .val (.int p2), .unset] [])) _
    refine st4 _ ?_
    show Steps p.tables e below (T4.setTop (mkF m 26 #[.val (.int p1), .val (.int p2), .unset] [(.ref w3)])) _
    refine XS.astoreN X4.here hx rfl (hb hby d1_26) rfl rfl (l' := #[.val (.int p1), .val (.int p2), .val (.ref w3)]) rfl ?_
    show Steps p.tables e below (T4.setTop (mkF m 27 #[.val (.int p1), .val (.int p2), .val (.ref w3)] [])) _
    refine XS.aloadN X4.here hx rfl (hb hby d1_27) rfl rfl ?_
    show Steps p.tables e below (T4.setTop (mkF m 28 #[.val (.int p1), .val (.int p2), .val (.ref w3)] [(.ref w3)])) _
    jvm_step X4.here [X4.here.top, hx, (hb hby d1_28), X4.method', Bd.returns, Value.isRef, FieldType.isReference]
    first | (intro acts; rw [hr _ acts rfl rfl rfl]) | rw [hr _ _ rfl rfl rfl]
    exact Steps.refl _
  · show Q1 Z p1 p2 w3 h0 n0 _ T4.heap _
    rw [e4]
    exact ⟨rfl, N0, rfl⟩

def own_H (Z : State) (h0 : Heap) (v d : Int32) (w : Addr) : Prop := (d = 0 ∧ Sta Z h0 "com/example/tallygraph/tallygraph/type/OnDemandKind" "DATA_VALUES" "Lcom/example/tallygraph/tallygraph/type/OnDemandKind;" (.ref w)) ∨ (¬ d = 0 ∧ d = v ∧ Sta Z h0 "com/example/tallygraph/tallygraph/type/OnDemandKind" "DATA_OBJECTS" "Lcom/example/tallygraph/tallygraph/type/OnDemandKind;" (.ref w)) ∨ (¬ d = 0 ∧ ¬ d = v ∧ Sta Z h0 "com/example/tallygraph/tallygraph/type/OnDemandKind" "VALUES_AND_OBJECTS" "Lcom/example/tallygraph/tallygraph/type/OnDemandKind;" (.ref w))
theorem rm1 (l : Launch) (Z : State) (a0 : Array Value) (hw : ∀ d ∈ tables_1, d.before a0 Z = true) (ws : List Jvm.Cond) (p1 : Int32) (p2 : Int32) (w3 : Addr) (h0 : Heap) (n0 : Nat) (Z0 : n0 ≤ h0.size) (H : own_H Z h0 p1 p2 w3) :
    MetFree l (⟨"com/example/tallygraph/tallygraph/type/OnDemandKind", "holding", "(II)Lcom/example/tallygraph/tallygraph/type/OnDemandKind;"⟩ : MethodName) (head1 (Jvm.Cond.code (⟨"com/example/tallygraph/tallygraph/type/OnDemandKind", "holding", "(II)Lcom/example/tallygraph/tallygraph/type/OnDemandKind;"⟩ : MethodName) prog_52_method_4_code 3 (some (.object "com/example/tallygraph/tallygraph/type/OnDemandKind")) :: ws) ({ frames := 0, cells := 0, slots := 0, locals := 0 } : Room)) (fun a U => a = #[(.int p1), (.int p2)] ∧ Z.Warmed39 U.vm ∧ U.heap = h0) (fun _ _ _ _ _ => True) (fun _ U o U' => ∃ v L, o = .returned v ∧ Q1 Z p1 p2 w3 h0 n0 v U'.heap L ∧ FrameEnd U o U' L ({ frames := 0, cells := 0, slots := 0, locals := 0 } : Room).cells ({ frames := 0, cells := 0, slots := 0, locals := 0 } : Room).slots) := by
  rcases H with ⟨h1, h2⟩ | ⟨h1, h2, h3⟩ | ⟨h1, h2, h3⟩
  · exact rm1a l Z a0 hw ws p1 p2 w3 h0 n0 Z0 h2 h1
  · exact rm1b l Z a0 hw ws p1 p2 w3 h0 n0 Z0 h3 h1 h2
  · exact rm1c l Z a0 hw ws p1 p2 w3 h0 n0 Z0 h3 h1 h2
theorem os0_16a {s0 : Slot} {s1 : Slot} {s2 : Slot} {s3 : Slot} {z4 : Value} {s5 : Slot} {s6 : Slot} {s7 : Slot} {s8 : Slot} {s9 : Slot} {v : Int32} (h : One s5) : storeLocals #[s0, s1, s2, s3, .val z4, s5, s6, s7, s8, s9] 5 (.int v) = some #[s0, s1, s2, s3, .val z4, .val (.int v), s6, s7, s8, s9] := by
  rcases h with rfl | ⟨w, rfl, hw⟩
  · rfl
  · cases w <;> first | rfl | (simp [Value.category] at hw)
set_option maxRecDepth 65536 in
set_option maxHeartbeats 40000000 in
theorem tn0_10_69a {p : Program} {l : Launch} {e : Env} {R : Room} {s : State} {m : MethodId} {args : Array Value} {below : List Frame} {meth : Method} {c : Code} {T0 : State} {locs : List Loc} {cells slots : Nat} {Z : State} {a0 : Array Value} {h0 : Heap} (s0 : Slot) (s1 : Slot) (s2 : Slot) (s3 : Slot) (i4 : Int32) (s5 : Slot) (s6 : Slot) (s7 : Slot) (s8 : Slot) (s9 : Slot)
    (X0 : Stand p l e R s m args below meth c T0 locs cells slots) (hx : p.tables.exec = Jvm.exec) (hZ : Z.Warmed39 s.vm) (hw : ∀ d ∈ tables_1, d.before a0 Z = true) (hby : c.code = code) (hml : c.maxLocals = 10) (hown : s.vm.findClass "com/example/tallygraph/tallygraph/type/OnDemandKindHoldingPinLaw" = some m.cls) (e0 : T0.heap = h0) (hs5 : One s5) (hc12 : i4 = (0 : Int32)) :
    ∃ (T' : State), Stand p l e R s m args below meth c T' locs cells slots ∧ T'.heap = h0 ∧
      ∀ target, Steps p.tables e below (T'.setTop (mkF m 69 #[s0, s1, s2, s3, .val (.int i4), .val (.int (0 : Int32)), s6, s7, s8, s9] [])) target → Steps p.tables e below (T0.setTop (mkF m 10 #[s0, s1, s2, s3, .val (.int i4), s5, s6, s7, s8, s9] [])) target := by

  refine ⟨T0, X0, e0, fun target kt => ?_⟩
  show Steps p.tables e below (T0.setTop (mkF m 10 #[s0, s1, s2, s3, .val (.int i4), s5, s6, s7, s8, s9] [])) _
  refine XS.iload X0.here hx rfl (hb hby at_10) rfl ?_
  show Steps p.tables e below (T0.setTop (mkF m 12 #[s0, s1, s2, s3, .val (.int i4), s5, s6, s7, s8, s9] [(.int i4)])) _
  refine XS.ifNo X0.here hx rfl (hb hby at_12) rfl ((if0 _ _).trans (teq hc12).2) ?_
  show Steps p.tables e below (T0.setTop (mkF m 15 #[s0, s1, s2, s3, .val (.int i4), s5, s6, s7, s8, s9] [])) _
  refine XS.iconst X0.here hx rfl (hb hby at_15) ?_
  show Steps p.tables e below (T0.setTop (mkF m 16 #[s0, s1, s2, s3, .val (.int i4), s5, s6, s7, s8, s9] [(.int (0 : Int32))])) _
  refine XS.istore X0.here hx rfl (hb hby at_16) rfl (l' := #[s0, s1, s2, s3, .val (.int i4), .val (.int (0 : Int32)), s6, s7, s8, s9]) (os0_16a hs5) ?_
  show Steps p.tables e below (T0.setTop (mkF m 18 #[s0, s1, s2, s3, .val (.int i4), .val (.int (0 : Int32)), s6, s7, s8, s9] [])) _
  refine XS.goto X0.here hx rfl (pc0 := 18) (pc' := 69) rfl (hb hby at_18) (by decide) (by decide) ?_
  exact kt
theorem os0_28b {s0 : Slot} {s1 : Slot} {s2 : Slot} {z3 : Value} {z4 : Value} {s5 : Slot} {s6 : Slot} {s7 : Slot} {s8 : Slot} {s9 : Slot} {v : Int32} (h : One s5) : storeLocals #[s0, s1, s2, .val z3, .val z4, s5, s6, s7, s8, s9] 5 (.int v) = some #[s0, s1, s2, .val z3, .val z4, .val (.int v), s6, s7, s8, s9] := by
  rcases h with rfl | ⟨w, rfl, hw⟩
  · rfl
  · cases w <;> first | rfl | (simp [Value.category] at hw)
set_option maxRecDepth 65536 in
set_option maxHeartbeats 40000000 in
theorem tn0_10_69b {p : Program} {l : Launch} {e : Env} {R : Room} {s : State} {m : MethodId} {args : Array Value} {below : List Frame} {meth : Method} {c : Code} {T0 : State} {locs : List Loc} {cells slots : Nat} {Z : State} {a0 : Array Value} {h0 : Heap} (s0 : Slot) (s1 : Slot) (s2 : Slot) (i3 : Int32) (i4 : Int32) (s5 : Slot) (s6 : Slot) (s7 : Slot) (s8 : Slot) (s9 : Slot)
    (X0 : Stand p l e R s m args below meth c T0 locs cells slots) (hx : p.tables.exec = Jvm.exec) (hZ : Z.Warmed39 s.vm) (hw : ∀ d ∈ tables_1, d.before a0 Z = true) (hby : c.code = code) (hml : c.maxLocals = 10) (hown : s.vm.findClass "com/example/tallygraph/tallygraph/type/OnDemandKindHoldingPinLaw" = some m.cls) (e0 : T0.heap = h0) (hs5 : One s5) (hc12 : ¬ (i4 = (0 : Int32))) (hc24 : i4 = (1 : Int32)) :
    ∃ (T' : State), Stand p l e R s m args below meth c T' locs cells slots ∧ T'.heap = h0 ∧
      ∀ target, Steps p.tables e below (T'.setTop (mkF m 69 #[s0, s1, s2, .val (.int i3), .val (.int i4), .val (.int i3), s6, s7, s8, s9] [])) target → Steps p.tables e below (T0.setTop (mkF m 10 #[s0, s1, s2, .val (.int i3), .val (.int i4), s5, s6, s7, s8, s9] [])) target := by

  refine ⟨T0, X0, e0, fun target kt => ?_⟩
  show Steps p.tables e below (T0.setTop (mkF m 10 #[s0, s1, s2, .val (.int i3), .val (.int i4), s5, s6, s7, s8, s9] [])) _
  refine XS.iload X0.here hx rfl (hb hby at_10) rfl ?_
  show Steps p.tables e below (T0.setTop (mkF m 12 #[s0, s1, s2, .val (.int i3), .val (.int i4), s5, s6, s7, s8, s9] [(.int i4)])) _
  refine XS.ifYes X0.here hx rfl (pc0 := 12) (pc' := 21) rfl (hb hby at_12) rfl ((if0 _ _).trans (feq hc12).2) (by decide) (by decide) ?_
  show Steps p.tables e below (T0.setTop (mkF m 21 #[s0, s1, s2, .val (.int i3), .val (.int i4), s5, s6, s7, s8, s9] [])) _
  refine XS.iload X0.here hx rfl (hb hby at_21) rfl ?_
  show Steps p.tables e below (T0.setTop (mkF m 23 #[s0, s1, s2, .val (.int i3), .val (.int i4), s5, s6, s7, s8, s9] [(.int i4)])) _
  refine XS.iconst X0.here hx rfl (hb hby at_23) ?_
  show Steps p.tables e below (T0.setTop (mkF m 24 #[s0, s1, s2, .val (.int i3), .val (.int i4), s5, s6, s7, s8, s9] [(.int (1 : Int32)), (.int i4)])) _
  refine XS.icmpNo X0.here hx rfl (hb hby at_24) rfl (teq hc24).2 ?_
  show Steps p.tables e below (T0.setTop (mkF m 27 #[s0, s1, s2, .val (.int i3), .val (.int i4), s5, s6, s7, s8, s9] [])) _
  refine XS.iloadN X0.here hx rfl (hb hby at_27) rfl ?_
  show Steps p.tables e below (T0.setTop (mkF m 28 #[s0, s1, s2, .val (.int i3), .val (.int i4), s5, s6, s7, s8, s9] [(.int i3)])) _
  refine XS.istore X0.here hx rfl (hb hby at_28) rfl (l' := #[s0, s1, s2, .val (.int i3), .val (.int i4), .val (.int i3), s6, s7, s8, s9]) (os0_28b hs5) ?_
  show Steps p.tables e below (T0.setTop (mkF m 30 #[s0, s1, s2, .val (.int i3), .val (.int i4), .val (.int i3), s6, s7, s8, s9] [])) _
  refine XS.goto X0.here hx rfl (pc0 := 30) (pc' := 69) rfl (hb hby at_30) (by decide) (by decide) ?_
  exact kt
theorem os0_50c {s0 : Slot} {s1 : Slot} {s2 : Slot} {z3 : Value} {z4 : Value} {s5 : Slot} {s6 : Slot} {s7 : Slot} {s8 : Slot} {s9 : Slot} {v : Int32} (h : One s5) : storeLocals #[s0, s1, s2, .val z3, .val z4, s5, s6, s7, s8, s9] 5 (.int v) = some #[s0, s1, s2, .val z3, .val z4, .val (.int v), s6, s7, s8, s9] := by
  rcases h with rfl | ⟨w, rfl, hw⟩
  · rfl
  · cases w <;> first | rfl | (simp [Value.category] at hw)
set_option maxRecDepth 65536 in
set_option maxHeartbeats 40000000 in
theorem tn0_10_69c {p : Program} {l : Launch} {e : Env} {R : Room} {s : State} {m : MethodId} {args : Array Value} {below : List Frame} {meth : Method} {c : Code} {T0 : State} {locs : List Loc} {cells slots : Nat} {Z : State} {a0 : Array Value} {h0 : Heap} (s0 : Slot) (s1 : Slot) (s2 : Slot) (i3 : Int32) (i4 : Int32) (s5 : Slot) (s6 : Slot) (s7 : Slot) (s8 : Slot) (s9 : Slot)
    (X0 : Stand p l e R s m args below meth c T0 locs cells slots) (hx : p.tables.exec = Jvm.exec) (hZ : Z.Warmed39 s.vm) (hw : ∀ d ∈ tables_1, d.before a0 Z = true) (hby : c.code = code) (hml : c.maxLocals = 10) (hown : s.vm.findClass "com/example/tallygraph/tallygraph/type/OnDemandKindHoldingPinLaw" = some m.cls) (e0 : T0.heap = h0) (hs5 : One s5) (hc12 : ¬ (i4 = (0 : Int32))) (hc24 : ¬ (i4 = (1 : Int32))) (hc36 : i4 = (2 : Int32)) (hc40 : (0 : Int32) < i3) :
    ∃ (T' : State), Stand p l e R s m args below meth c T' locs cells slots ∧ T'.heap = h0 ∧
      ∀ target, Steps p.tables e below (T'.setTop (mkF m 69 #[s0, s1, s2, .val (.int i3), .val (.int i4), .val (.int (i3 - (1 : Int32))), s6, s7, s8, s9] [])) target → Steps p.tables e below (T0.setTop (mkF m 10 #[s0, s1, s2, .val (.int i3), .val (.int i4), s5, s6, s7, s8, s9] [])) target := by

  refine ⟨T0, X0, e0, fun target kt => ?_⟩
  show Steps p.tables e below (T0.setTop (mkF m 10 #[s0, s1, s2, .val (.int i3), .val (.int i4), s5, s6, s7, s8, s9] [])) _
  refine XS.iload X0.here hx rfl (hb hby at_10) rfl ?_
  show Steps p.tables e below (T0.setTop (mkF m 12 #[s0, s1, s2, .val (.int i3), .val (.int i4), s5, s6, s7, s8, s9] [(.int i4)])) _
  refine XS.ifYes X0.here hx rfl (pc0 := 12) (pc' := 21) rfl (hb hby at_12) rfl ((if0 _ _).trans (feq hc12).2) (by decide) (by decide) ?_
  show Steps p.tables e below (T0.setTop (mkF m 21 #[s0, s1, s2, .val (.int i3), .val (.int i4), s5, s6, s7, s8, s9] [])) _
  refine XS.iload X0.here hx rfl (hb hby at_21) rfl ?_
  show Steps p.tables e below (T0.setTop (mkF m 23 #[s0, s1, s2, .val (.int i3), .val (.int i4), s5, s6, s7, s8, s9] [(.int i4)])) _
  refine XS.iconst X0.here hx rfl (hb hby at_23) ?_
  show Steps p.tables e below (T0.setTop (mkF m 24 #[s0, s1, s2, .val (.int i3), .val (.int i4), s5, s6, s7, s8, s9] [(.int (1 : Int32)), (.int i4)])) _
  refine XS.icmpYes X0.here hx rfl (pc0 := 24) (pc' := 33) rfl (hb hby at_24) rfl (feq hc24).2 (by decide) (by decide) ?_
  show Steps p.tables e below (T0.setTop (mkF m 33 #[s0, s1, s2, .val (.int i3), .val (.int i4), s5, s6, s7, s8, s9] [])) _
  refine XS.iload X0.here hx rfl (hb hby at_33) rfl ?_
  show Steps p.tables e below (T0.setTop (mkF m 35 #[s0, s1, s2, .val (.int i3), .val (.int i4), s5, s6, s7, s8, s9] [(.int i4)])) _
  refine XS.iconst X0.here hx rfl (hb hby at_35) ?_
  show Steps p.tables e below (T0.setTop (mkF m 36 #[s0, s1, s2, .val (.int i3), .val (.int i4), s5, s6, s7, s8, s9] [(.int (2 : Int32)), (.int i4)])) _
  refine XS.icmpNo X0.here hx rfl (hb hby at_36) rfl (teq hc36).2 ?_
  show Steps p.tables e below (T0.setTop (mkF m 39 #[s0, s1, s2, .val (.int i3), .val (.int i4), s5, s6, s7, s8, s9] [])) _
  refine XS.iloadN X0.here hx rfl (hb hby at_39) rfl ?_
  show Steps p.tables e below (T0.setTop (mkF m 40 #[s0, s1, s2, .val (.int i3), .val (.int i4), s5, s6, s7, s8, s9] [(.int i3)])) _
  refine XS.ifNo X0.here hx rfl (hb hby at_40) rfl ((if0 _ _).trans (tlt hc40).2.2.2) ?_
  show Steps p.tables e below (T0.setTop (mkF m 43 #[s0, s1, s2, .val (.int i3), .val (.int i4), s5, s6, s7, s8, s9] [])) _
  refine XS.iloadN X0.here hx rfl (hb hby at_43) rfl ?_
  show Steps p.tables e below (T0.setTop (mkF m 44 #[s0, s1, s2, .val (.int i3), .val (.int i4), s5, s6, s7, s8, s9] [(.int i3)])) _
  refine XS.iconst X0.here hx rfl (hb hby at_44) ?_
  show Steps p.tables e below (T0.setTop (mkF m 45 #[s0, s1, s2, .val (.int i3), .val (.int i4), s5, s6, s7, s8, s9] [(.int (1 : Int32)), (.int i3)])) _
  refine XS.isub X0.here hx rfl (hb hby at_45) rfl ?_
  show Steps p.tables e below (T0.setTop (mkF m 46 #[s0, s1, s2, .val (.int i3), .val (.int i4), s5, s6, s7, s8, s9] [(.int (i3 - (1 : Int32)))])) _
  refine XS.goto X0.here hx rfl (pc0 := 46) (pc' := 50) rfl (hb hby at_46) (by decide) (by decide) ?_
  show Steps p.tables e below (T0.setTop (mkF m 50 #[s0, s1, s2, .val (.int i3), .val (.int i4), s5, s6, s7, s8, s9] [(.int (i3 - (1 : Int32)))])) _
  refine XS.istore X0.here hx rfl (hb hby at_50) rfl (l' := #[s0, s1, s2, .val (.int i3), .val (.int i4), .val (.int (i3 - (1 : Int32))), s6, s7, s8, s9]) (os0_50c hs5) ?_
  show Steps p.tables e below (T0.setTop (mkF m 52 #[s0, s1, s2, .val (.int i3), .val (.int i4), .val (.int (i3 - (1 : Int32))), s6, s7, s8, s9] [])) _
  refine XS.goto X0.here hx rfl (pc0 := 52) (pc' := 69) rfl (hb hby at_52) (by decide) (by decide) ?_
  exact kt
theorem os0_50d {s0 : Slot} {s1 : Slot} {s2 : Slot} {z3 : Value} {z4 : Value} {s5 : Slot} {s6 : Slot} {s7 : Slot} {s8 : Slot} {s9 : Slot} {v : Int32} (h : One s5) : storeLocals #[s0, s1, s2, .val z3, .val z4, s5, s6, s7, s8, s9] 5 (.int v) = some #[s0, s1, s2, .val z3, .val z4, .val (.int v), s6, s7, s8, s9] := by
  rcases h with rfl | ⟨w, rfl, hw⟩
  · rfl
  · cases w <;> first | rfl | (simp [Value.category] at hw)
set_option maxRecDepth 65536 in
set_option maxHeartbeats 40000000 in
theorem tn0_10_69d {p : Program} {l : Launch} {e : Env} {R : Room} {s : State} {m : MethodId} {args : Array Value} {below : List Frame} {meth : Method} {c : Code} {T0 : State} {locs : List Loc} {cells slots : Nat} {Z : State} {a0 : Array Value} {h0 : Heap} (s0 : Slot) (s1 : Slot) (s2 : Slot) (i3 : Int32) (i4 : Int32) (s5 : Slot) (s6 : Slot) (s7 : Slot) (s8 : Slot) (s9 : Slot)
    (X0 : Stand p l e R s m args below meth c T0 locs cells slots) (hx : p.tables.exec = Jvm.exec) (hZ : Z.Warmed39 s.vm) (hw : ∀ d ∈ tables_1, d.before a0 Z = true) (hby : c.code = code) (hml : c.maxLocals = 10) (hown : s.vm.findClass "com/example/tallygraph/tallygraph/type/OnDemandKindHoldingPinLaw" = some m.cls) (e0 : T0.heap = h0) (hs5 : One s5) (hc12 : ¬ (i4 = (0 : Int32))) (hc24 : ¬ (i4 = (1 : Int32))) (hc36 : i4 = (2 : Int32)) (hc40 : ¬ ((0 : Int32) < i3)) :
    ∃ (T' : State), Stand p l e R s m args below meth c T' locs cells slots ∧ T'.heap = h0 ∧
      ∀ target, Steps p.tables e below (T'.setTop (mkF m 69 #[s0, s1, s2, .val (.int i3), .val (.int i4), .val (.int (0 : Int32)), s6, s7, s8, s9] [])) target → Steps p.tables e below (T0.setTop (mkF m 10 #[s0, s1, s2, .val (.int i3), .val (.int i4), s5, s6, s7, s8, s9] [])) target := by

  refine ⟨T0, X0, e0, fun target kt => ?_⟩
  show Steps p.tables e below (T0.setTop (mkF m 10 #[s0, s1, s2, .val (.int i3), .val (.int i4), s5, s6, s7, s8, s9] [])) _
  refine XS.iload X0.here hx rfl (hb hby at_10) rfl ?_
  show Steps p.tables e below (T0.setTop (mkF m 12 #[s0, s1, s2, .val (.int i3), .val (.int i4), s5, s6, s7, s8, s9] [(.int i4)])) _
  refine XS.ifYes X0.here hx rfl (pc0 := 12) (pc' := 21) rfl (hb hby at_12) rfl ((if0 _ _).trans (feq hc12).2) (by decide) (by decide) ?_
  show Steps p.tables e below (T0.setTop (mkF m 21 #[s0, s1, s2, .val (.int i3), .val (.int i4), s5, s6, s7, s8, s9] [])) _
  refine XS.iload X0.here hx rfl (hb hby at_21) rfl ?_
  show Steps p.tables e below (T0.setTop (mkF m 23 #[s0, s1, s2, .val (.int i3), .val (.int i4), s5, s6, s7, s8, s9] [(.int i4)])) _
  refine XS.iconst X0.here hx rfl (hb hby at_23) ?_
  show Steps p.tables e below (T0.setTop (mkF m 24 #[s0, s1, s2, .val (.int i3), .val (.int i4), s5, s6, s7, s8, s9] [(.int (1 : Int32)), (.int i4)])) _
  refine XS.icmpYes X0.here hx rfl (pc0 := 24) (pc' := 33) rfl (hb hby at_24) rfl (feq hc24).2 (by decide) (by decide) ?_
  show Steps p.tables e below (T0.setTop (mkF m 33 #[s0, s1, s2, .val (.int i3), .val (.int i4), s5, s6, s7, s8, s9] [])) _
  refine XS.iload X0.here hx rfl (hb hby at_33) rfl ?_
  show Steps p.tables e below (T0.setTop (mkF m 35 #[s0, s1, s2, .val (.int i3), .val (.int i4), s5, s6, s7, s8, s9] [(.int i4)])) _
  refine XS.iconst X0.here hx rfl (hb hby at_35) ?_
  show Steps p.tables e below (T0.setTop (mkF m 36 #[s0, s1, s2, .val (.int i3), .val (.int i4), s5, s6, s7, s8, s9] [(.int (2 : Int32)), (.int i4)])) _
  refine XS.icmpNo X0.here hx rfl (hb hby at_36) rfl (teq hc36).2 ?_
  show Steps p.tables e below (T0.setTop (mkF m 39 #[s0, s1, s2, .val (.int i3), .val (.int i4), s5, s6, s7, s8, s9] [])) _
  refine XS.iloadN X0.here hx rfl (hb hby at_39) rfl ?_
  show Steps p.tables e below (T0.setTop (mkF m 40 #[s0, s1, s2, .val (.int i3), .val (.int i4), s5, s6, s7, s8, s9] [(.int i3)])) _
  refine XS.ifYes X0.here hx rfl (pc0 := 40) (pc' := 49) rfl (hb hby at_40) rfl ((if0 _ _).trans (flt hc40).2.2.2) (by decide) (by decide) ?_
  show Steps p.tables e below (T0.setTop (mkF m 49 #[s0, s1, s2, .val (.int i3), .val (.int i4), s5, s6, s7, s8, s9] [])) _
  refine XS.iconst X0.here hx rfl (hb hby at_49) ?_
  show Steps p.tables e below (T0.setTop (mkF m 50 #[s0, s1, s2, .val (.int i3), .val (.int i4), s5, s6, s7, s8, s9] [(.int (0 : Int32))])) _
  refine XS.istore X0.here hx rfl (hb hby at_50) rfl (l' := #[s0, s1, s2, .val (.int i3), .val (.int i4), .val (.int (0 : Int32)), s6, s7, s8, s9]) (os0_50d hs5) ?_
  show Steps p.tables e below (T0.setTop (mkF m 52 #[s0, s1, s2, .val (.int i3), .val (.int i4), .val (.int (0 : Int32)), s6, s7, s8, s9] [])) _
  refine XS.goto X0.here hx rfl (pc0 := 52) (pc' := 69) rfl (hb hby at_52) (by decide) (by decide) ?_
  exact kt

theorem os0_67 {s0 : Slot} {z1 : Value} {s2 : Slot} {z3 : Value} {z4 : Value} {s5 : Slot} {s6 : Slot} {s7 : Slot} {s8 : Slot} {s9 : Slot} {v : Int32} (h : One s5) : storeLocals #[s0, .val z1, s2, .val z3, .val z4, s5, s6, s7, s8, s9] 5 (.int v) = some #[s0, .val z1, s2, .val z3, .val z4, .val (.int v), s6, s7, s8, s9] := by
  rcases h with rfl | ⟨w, rfl, hw⟩
  · rfl
  · cases w <;> first | rfl | (simp [Value.category] at hw)
set_option maxRecDepth 65536 in
set_option maxHeartbeats 40000000 in
theorem tn0_10_69e {p : Program} {l : Launch} {e : Env} {R : Room} {s : State} {m : MethodId} {args : Array Value} {below : List Frame} {meth : Method} {c : Code} {T0 : State} {locs : List Loc} {cells slots : Nat} {Z : State} {a0 : Array Value} {h0 : Heap} (s0 : Slot) (i1 : Int32) (s2 : Slot) (i3 : Int32) (i4 : Int32) (s5 : Slot) (s6 : Slot) (s7 : Slot) (s8 : Slot) (s9 : Slot)
    (X0 : Stand p l e R s m args below meth c T0 locs cells slots) (hx : p.tables.exec = Jvm.exec) (hZ : Z.Warmed39 s.vm) (hw : ∀ d ∈ tables_1, d.before a0 Z = true) (hby : c.code = code) (hml : c.maxLocals = 10) (hown : s.vm.findClass "com/example/tallygraph/tallygraph/type/OnDemandKindHoldingPinLaw" = some m.cls) (e0 : T0.heap = h0) (hs5 : One s5) (hv : 0 ≤ i3.toInt) (hc12 : ¬ (i4 = (0 : Int32))) (hc24 : ¬ (i4 = (1 : Int32))) (hc36 : ¬ (i4 = (2 : Int32))) :
    ∃ (T' : State), Stand p l e R s m args below meth c T' locs cells slots ∧ T'.heap = h0 ∧
      ∀ target, Steps p.tables e below (T'.setTop (mkF m 69 #[s0, .val (.int i1), s2, .val (.int i3), .val (.int i4), .val (.int (own_d i1 i3)), s6, s7, s8, s9] [])) target → Steps p.tables e below (T0.setTop (mkF m 10 #[s0, .val (.int i1), s2, .val (.int i3), .val (.int i4), s5, s6, s7, s8, s9] [])) target := by
  refine ⟨T0, X0, e0, fun target kt => ?_⟩
  show Steps p.tables e below (T0.setTop (mkF m 10 #[s0, .val (.int i1), s2, .val (.int i3), .val (.int i4), s5, s6, s7, s8, s9] [])) _
  refine XS.iload X0.here hx rfl (hb hby at_10) rfl ?_
  show Steps p.tables e below (T0.setTop (mkF m 12 #[s0, .val (.int i1), s2, .val (.int i3), .val (.int i4), s5, s6, s7, s8, s9] [(.int i4)])) _
  refine XS.ifYes X0.here hx rfl (pc0 := 12) (pc' := 21) rfl (hb hby at_12) rfl ((if0 _ _).trans (feq hc12).2) (by decide) (by decide) ?_
  show Steps p.tables e below (T0.setTop (mkF m 21 #[s0, .val (.int i1), s2, .val (.int i3), .val (.int i4), s5, s6, s7, s8, s9] [])) _
  refine XS.iload X0.here hx rfl (hb hby at_21) rfl ?_
  show Steps p.tables e below (T0.setTop (mkF m 23 #[s0, .val (.int i1), s2, .val (.int i3), .val (.int i4), s5, s6, s7, s8, s9] [(.int i4)])) _
  refine XS.iconst X0.here hx rfl (hb hby at_23) ?_
  show Steps p.tables e below (T0.setTop (mkF m 24 #[s0, .val (.int i1), s2, .val (.int i3), .val (.int i4), s5, s6, s7, s8, s9] [(.int (1 : Int32)), (.int i4)])) _
  refine XS.icmpYes X0.here hx rfl (pc0 := 24) (pc' := 33) rfl (hb hby at_24) rfl (feq hc24).2 (by decide) (by decide) ?_
  show Steps p.tables e below (T0.setTop (mkF m 33 #[s0, .val (.int i1), s2, .val (.int i3), .val (.int i4), s5, s6, s7, s8, s9] [])) _
  refine XS.iload X0.here hx rfl (hb hby at_33) rfl ?_
  show Steps p.tables e below (T0.setTop (mkF m 35 #[s0, .val (.int i1), s2, .val (.int i3), .val (.int i4), s5, s6, s7, s8, s9] [(.int i4)])) _
  refine XS.iconst X0.here hx rfl (hb hby at_35) ?_
  show Steps p.tables e below (T0.setTop (mkF m 36 #[s0, .val (.int i1), s2, .val (.int i3), .val (.int i4), s5, s6, s7, s8, s9] [(.int (2 : Int32)), (.int i4)])) _
  refine XS.icmpYes X0.here hx rfl (pc0 := 36) (pc' := 55) rfl (hb hby at_36) rfl (feq hc36).2 (by decide) (by decide) ?_
  show Steps p.tables e below (T0.setTop (mkF m 55 #[s0, .val (.int i1), s2, .val (.int i3), .val (.int i4), s5, s6, s7, s8, s9] [])) _
  refine XS.iloadN X0.here hx rfl (hb hby at_55) rfl ?_
  show Steps p.tables e below (T0.setTop (mkF m 56 #[s0, .val (.int i1), s2, .val (.int i3), .val (.int i4), s5, s6, s7, s8, s9] [(.int i1)])) _
  refine XS.i2l X0.here hx rfl (hb hby at_56) rfl ?_
  show Steps p.tables e below (T0.setTop (mkF m 57 #[s0, .val (.int i1), s2, .val (.int i3), .val (.int i4), s5, s6, s7, s8, s9] [(.long (i1.toInt64))])) _
  refine X0.ldc2Long hx hown (mvT hZ (hw _ (List.mem_of_getElem? (i := 12) rfl))) (g := (mkF m 57 #[s0, .val (.int i1), s2, .val (.int i3), .val (.int i4), s5, s6, s7, s8, s9] [(.long (i1.toInt64))])) rfl (hb hby at_57) _ ?_
  show Steps p.tables e below (T0.setTop (mkF m 60 #[s0, .val (.int i1), s2, .val (.int i3), .val (.int i4), s5, s6, s7, s8, s9] [(.long (2147483647 : Int64)), (.long (i1.toInt64))])) _
  refine XS.land X0.here hx rfl (hb hby at_60) rfl ?_
  show Steps p.tables e below (T0.setTop (mkF m 61 #[s0, .val (.int i1), s2, .val (.int i3), .val (.int i4), s5, s6, s7, s8, s9] [(.long ((i1.toInt64) &&& (2147483647 : Int64)))])) _
  refine XS.iloadN X0.here hx rfl (hb hby at_61) rfl ?_
  show Steps p.tables e below (T0.setTop (mkF m 62 #[s0, .val (.int i1), s2, .val (.int i3), .val (.int i4), s5, s6, s7, s8, s9] [(.int i3), (.long ((i1.toInt64) &&& (2147483647 : Int64)))])) _
  refine XS.i2l X0.here hx rfl (hb hby at_62) rfl ?_
  show Steps p.tables e below (T0.setTop (mkF m 63 #[s0, .val (.int i1), s2, .val (.int i3), .val (.int i4), s5, s6, s7, s8, s9] [(.long (i3.toInt64)), (.long ((i1.toInt64) &&& (2147483647 : Int64)))])) _
  refine XS.lconst X0.here hx rfl (hb hby at_63) ?_
  show Steps p.tables e below (T0.setTop (mkF m 64 #[s0, .val (.int i1), s2, .val (.int i3), .val (.int i4), s5, s6, s7, s8, s9] [(.long (1 : Int64)), (.long (i3.toInt64)), (.long ((i1.toInt64) &&& (2147483647 : Int64)))])) _
  refine XS.ladd X0.here hx rfl (hb hby at_64) rfl ?_
  show Steps p.tables e below (T0.setTop (mkF m 65 #[s0, .val (.int i1), s2, .val (.int i3), .val (.int i4), s5, s6, s7, s8, s9] [(.long ((i3.toInt64) + (1 : Int64))), (.long ((i1.toInt64) &&& (2147483647 : Int64)))])) _
  refine XS.lrem X0.here hx rfl (hb hby at_65) rfl (own_y0 hv) ?_
  show Steps p.tables e below (T0.setTop (mkF m 66 #[s0, .val (.int i1), s2, .val (.int i3), .val (.int i4), s5, s6, s7, s8, s9] [(.long (((i1.toInt64) &&& (2147483647 : Int64)) - ((i1.toInt64) &&& (2147483647 : Int64)) / ((i3.toInt64) + (1 : Int64)) * ((i3.toInt64) + (1 : Int64))))])) _
  refine XS.l2i X0.here hx rfl (hb hby at_66) rfl ?_
  show Steps p.tables e below (T0.setTop (mkF m 67 #[s0, .val (.int i1), s2, .val (.int i3), .val (.int i4), s5, s6, s7, s8, s9] [(.int (own_d i1 i3))])) _
  refine XS.istore X0.here hx rfl (hb hby at_67) rfl (l' := #[s0, .val (.int i1), s2, .val (.int i3), .val (.int i4), .val (.int (own_d i1 i3)), s6, s7, s8, s9]) (os0_67 hs5) ?_
  exact kt

theorem own_10_69 {p : Program} {l : Launch} {e : Env} {R : Room} {s : State} {m : MethodId} {args : Array Value} {below : List Frame} {meth : Method} {c : Code} {T0 : State} {locs : List Loc} {cells slots : Nat} {Z : State} {a0 : Array Value} {h0 : Heap} (s0 : Slot) (i1 : Int32) (s2 : Slot) (i3 : Int32) (i4 : Int32) (s5 : Slot) (s6 : Slot) (s7 : Slot) (s8 : Slot) (s9 : Slot)
    (X0 : Stand p l e R s m args below meth c T0 locs cells slots) (hx : p.tables.exec = Jvm.exec) (hZ : Z.Warmed39 s.vm) (hw : ∀ d ∈ tables_1, d.before a0 Z = true) (hby : c.code = code) (hml : c.maxLocals = 10) (hown : s.vm.findClass "com/example/tallygraph/tallygraph/type/OnDemandKindHoldingPinLaw" = some m.cls) (e0 : T0.heap = h0) (hs5 : One s5) (hv : 0 ≤ i3.toInt) :
    ∃ (T' : State) (d : Int32), Stand p l e R s m args below meth c T' locs cells slots ∧ T'.heap = h0 ∧ (0 ≤ d.toInt ∧ d.toInt ≤ i3.toInt) ∧
      ∀ target, Steps p.tables e below (T'.setTop (mkF m 69 #[s0, .val (.int i1), s2, .val (.int i3), .val (.int i4), .val (.int d), s6, s7, s8, s9] [])) target → Steps p.tables e below (T0.setTop (mkF m 10 #[s0, .val (.int i1), s2, .val (.int i3), .val (.int i4), s5, s6, s7, s8, s9] [])) target := by
  have i0 : (0 : Int32).toInt = 0 := rfl
  by_cases h0 : i4 = 0
  · obtain ⟨T', X', e', k⟩ := tn0_10_69a s0 (.val (.int i1)) s2 (.val (.int i3)) i4 s5 s6 s7 s8 s9 X0 hx hZ hw hby hml hown e0 hs5 h0
    exact ⟨T', 0, X', e', by omega, k⟩
  by_cases h1 : i4 = 1
  · obtain ⟨T', X', e', k⟩ := tn0_10_69b s0 (.val (.int i1)) s2 i3 i4 s5 s6 s7 s8 s9 X0 hx hZ hw hby hml hown e0 hs5 h0 h1
    exact ⟨T', i3, X', e', by omega, k⟩
  by_cases h2 : i4 = 2
  · by_cases h3 : (0 : Int32) < i3
    · obtain ⟨T', X', e', k⟩ := tn0_10_69c s0 (.val (.int i1)) s2 i3 i4 s5 s6 s7 s8 s9 X0 hx hZ hw hby hml hown e0 hs5 h0 h1 h2 h3
      exact ⟨T', i3 - 1, X', e', own_pred h3, k⟩
    · obtain ⟨T', X', e', k⟩ := tn0_10_69d s0 (.val (.int i1)) s2 i3 i4 s5 s6 s7 s8 s9 X0 hx hZ hw hby hml hown e0 hs5 h0 h1 h2 h3
      exact ⟨T', 0, X', e', by omega, k⟩
  · obtain ⟨T', X', e', k⟩ := tn0_10_69e s0 i1 s2 i3 i4 s5 s6 s7 s8 s9 X0 hx hZ hw hby hml hown e0 hs5 hv h0 h1 h2
    exact ⟨T', own_d i1 i3, X', e', own_rem i1 hv, k⟩
theorem pd_0_0 : parseMethodDescriptor "(II)Lcom/example/tallygraph/tallygraph/type/OnDemandKind;" = some ⟨[.int, .int], some (.object "com/example/tallygraph/tallygraph/type/OnDemandKind")⟩ := by decide +kernel
theorem os0_75 {s0 : Slot} {s1 : Slot} {s2 : Slot} {z3 : Value} {s4 : Slot} {z5 : Value} {s6 : Slot} {s7 : Slot} {s8 : Slot} {s9 : Slot} {v : Addr} (h : One s6) : storeLocals #[s0, s1, s2, .val z3, s4, .val z5, s6, s7, s8, s9] 6 (.ref v) = some #[s0, s1, s2, .val z3, s4, .val z5, .val (.ref v), s7, s8, s9] := by
  rcases h with rfl | ⟨w, rfl, hw⟩
  · rfl
  · cases w <;> first | rfl | (simp [Value.category] at hw)

set_option maxRecDepth 65536 in
set_option maxHeartbeats 40000000 in
theorem own_69_77 {p : Program} {l : Launch} {e : Env} {s : State} {m : MethodId} {args : Array Value} {below : List Frame} {meth : Method} {c : Code} {T0 : State} {Z : State} {a0 : Array Value} {h0 : Heap} (s0 : Slot) (s1 : Slot) (s2 : Slot) (i3 : Int32) (s4 : Slot) (i5 : Int32) (s6 : Slot) (s7 : Slot) (s8 : Slot) (s9 : Slot) (w : Addr)
    (X0 : Stand p l e room_1 s m args below meth c T0 [] 0 0) (hx : p.tables.exec = Jvm.exec) (hZ : Z.Warmed39 s.vm) (hw : ∀ d ∈ tables_1, d.before a0 Z = true) (hby : c.code = code) (hml : c.maxLocals = 10) (hown : s.vm.findClass "com/example/tallygraph/tallygraph/type/OnDemandKindHoldingPinLaw" = some m.cls) (e0 : T0.heap = h0) (hs6 : One s6) (n0 : Nat) (Z0 : n0 ≤ h0.size) (H : own_H Z h0 i3 i5 w) :
    ∃ (T' : State) (L : List Loc), Stand p l e room_1 s m args below meth c T' L 0 0 ∧ T'.heap = h0 ∧ Fr n0 L ∧
      ∀ target, Steps p.tables e below (T'.setTop (mkF m 77 #[s0, s1, s2, .val (.int i3), s4, .val (.int i5), .val (.ref w), s7, s8, s9] [])) target → Steps p.tables e below (T0.setTop (mkF m 69 #[s0, s1, s2, .val (.int i3), s4, .val (.int i5), s6, s7, s8, s9] [])) target := by
  obtain ⟨_, _, ⟨T4, L4, k4, n4⟩, -, X4, ⟨Lc4, hQ4, l4, y4, z4⟩, st4⟩ := Jvm.LawKit.callS X0 hx (y := (⟨"com/example/tallygraph/tallygraph/type/OnDemandKind", "holding", "(II)Lcom/example/tallygraph/tallygraph/type/OnDemandKind;"⟩ : MethodName)) hown (mvT hZ (hw _ (List.mem_of_getElem? (i := 1) rfl))) (mvT hZ (hw _ (List.mem_of_getElem? (i := 2) rfl))) (mvT hZ (hw _ (List.mem_of_getElem? (i := 3) rfl))) (mvT hZ (hw _ (List.mem_of_getElem? (i := 4) rfl))) (by decide) (backOf (W := 0) (rm1 l Z a0 hw [] i3 i5 w h0 n0 Z0 H) hZ (hw _ (List.mem_of_getElem? (i := 4) rfl)) (hw _ (List.mem_of_getElem? (i := 3) rfl)) (by decide) (by decide)) (g := (mkF m 72 #[s0, s1, s2, .val (.int i3), s4, .val (.int i5), s6, s7, s8, s9] [(.int i5), (.int i3)])) rfl (by rw [hml]; rfl) (argsL := [(.int i3), (.int i5)]) (rest := []) (lenOf pd_0_0 rfl) rfl (by show 2 * 0 + _ ≤ _; exact Nat.le_of_eq rfl) (hb hby at_72) (fun _ _ => ⟨rfl, e0, (by decide : 0 + 0 ≤ _), (by decide : 0 + 0 ≤ _)⟩)
  dsimp only [Pt.U, Pt.locs, Pt.cells, Pt.slots] at X4 l4 y4 z4 st4 hQ4
  subst l4 y4 z4
  obtain ⟨rfl, N4q, e4⟩ := hQ4
  refine ⟨T4, _, X4, e4, Fr.app (Fr.nil n0) N4q, fun target kt => ?_⟩
  show Steps p.tables e below (T0.setTop (mkF m 69 #[s0, s1, s2, .val (.int i3), s4, .val (.int i5), s6, s7, s8, s9] [])) _
  refine XS.iloadN X0.here hx rfl (hb hby at_69) rfl ?_
  show Steps p.tables e below (T0.setTop (mkF m 70 #[s0, s1, s2, .val (.int i3), s4, .val (.int i5), s6, s7, s8, s9] [(.int i3)])) _
  refine XS.iload X0.here hx rfl (hb hby at_70) rfl ?_
  show Steps p.tables e below (T0.setTop (mkF m 72 #[s0, s1, s2, .val (.int i3), s4, .val (.int i5), s6, s7, s8, s9] [(.int i5), (.int i3)])) _
  refine st4 _ ?_
  show Steps p.tables e below (T4.setTop (mkF m 75 #[s0, s1, s2, .val (.int i3), s4, .val (.int i5), s6, s7, s8, s9] [(.ref w)])) _
  refine XS.astore X4.here hx rfl (hb hby at_75) rfl rfl (l' := #[s0, s1, s2, .val (.int i3), s4, .val (.int i5), .val (.ref w), s7, s8, s9]) (os0_75 hs6) ?_
  exact kt
theorem os0_87 {s0 : Slot} {s1 : Slot} {s2 : Slot} {z3 : Value} {s4 : Slot} {z5 : Value} {z6 : Value} {s7 : Slot} {s8 : Slot} {s9 : Slot} {v : Int32} (h : One s7) : storeLocals #[s0, s1, s2, .val z3, s4, .val z5, .val z6, s7, s8, s9] 7 (.int v) = some #[s0, s1, s2, .val z3, s4, .val z5, .val z6, .val (.int v), s8, s9] := by
  rcases h with rfl | ⟨w, rfl, hw⟩
  · rfl
  · cases w <;> first | rfl | (simp [Value.category] at hw)
theorem os0_104 {s0 : Slot} {s1 : Slot} {s2 : Slot} {z3 : Value} {s4 : Slot} {z5 : Value} {z6 : Value} {z7 : Value} {s8 : Slot} {s9 : Slot} {v : Int32} (h : One s8) : storeLocals #[s0, s1, s2, .val z3, s4, .val z5, .val z6, .val z7, s8, s9] 8 (.int v) = some #[s0, s1, s2, .val z3, s4, .val z5, .val z6, .val z7, .val (.int v), s9] := by
  rcases h with rfl | ⟨w, rfl, hw⟩
  · rfl
  · cases w <;> first | rfl | (simp [Value.category] at hw)
theorem os0_123 {s0 : Slot} {s1 : Slot} {s2 : Slot} {z3 : Value} {s4 : Slot} {z5 : Value} {z6 : Value} {z7 : Value} {z8 : Value} {s9 : Slot} {v : Int32} (h : One s9) : storeLocals #[s0, s1, s2, .val z3, s4, .val z5, .val z6, .val z7, .val z8, s9] 9 (.int v) = some #[s0, s1, s2, .val z3, s4, .val z5, .val z6, .val z7, .val z8, .val (.int v)] := by
  rcases h with rfl | ⟨w, rfl, hw⟩
  · rfl
  · cases w <;> first | rfl | (simp [Value.category] at hw)
set_option maxRecDepth 65536 in
set_option maxHeartbeats 40000000 in
theorem tn0_77_184a {p : Program} {l : Launch} {e : Env} {R : Room} {s : State} {m : MethodId} {args : Array Value} {below : List Frame} {meth : Method} {c : Code} {T0 : State} {locs : List Loc} {cells slots : Nat} {Z : State} {a0 : Array Value} {h0 : Heap} (s0 : Slot) (s1 : Slot) (s2 : Slot) (i3 : Int32) (s4 : Slot) (i5 : Int32) (o6 : Addr) (s7 : Slot) (s8 : Slot) (s9 : Slot) (w4 : Addr) (w6 : Addr) (w8 : Addr)
    (X0 : Stand p l e R s m args below meth c T0 locs cells slots) (hx : p.tables.exec = Jvm.exec) (hZ : Z.Warmed39 s.vm) (hw : ∀ d ∈ tables_1, d.before a0 Z = true) (hby : c.code = code) (hml : c.maxLocals = 10) (hown : s.vm.findClass "com/example/tallygraph/tallygraph/type/OnDemandKindHoldingPinLaw" = some m.cls) (e0 : T0.heap = h0) (hs7 : One s7) (hs8 : One s8) (hs9 : One s9) (S_DATA_VALUES : Sta Z h0 "com/example/tallygraph/tallygraph/type/OnDemandKind" "DATA_VALUES" "Lcom/example/tallygraph/tallygraph/type/OnDemandKind;" (.ref w4)) (S_DATA_OBJECTS : Sta Z h0 "com/example/tallygraph/tallygraph/type/OnDemandKind" "DATA_OBJECTS" "Lcom/example/tallygraph/tallygraph/type/OnDemandKind;" (.ref w6)) (S_VALUES_AND_OBJECTS : Sta Z h0 "com/example/tallygraph/tallygraph/type/OnDemandKind" "VALUES_AND_OBJECTS" "Lcom/example/tallygraph/tallygraph/type/OnDemandKind;" (.ref w8)) (hc79 : i5 = (0 : Int32)) (hc90 : ¬ ((0 : Int32) < i3)) (hc109 : ¬ ((0 : Int32) < i5)) (ha130 : o6 = w4) (ha148 : ¬ (o6 = w6)) (ha166 : ¬ (o6 = w8)) :
    ∃ (T' : State), Stand p l e R s m args below meth c T' locs cells slots ∧ T'.heap = h0 ∧
      ∀ target, Steps p.tables e below (T'.setTop (mkF m 184 #[s0, s1, s2, .val (.int i3), s4, .val (.int i5), .val (.ref o6), .val (.int (1 : Int32)), .val (.int (0 : Int32)), .val (.int (0 : Int32))] [(.int (1 : Int32))])) target → Steps p.tables e below (T0.setTop (mkF m 77 #[s0, s1, s2, .val (.int i3), s4, .val (.int i5), .val (.ref o6), s7, s8, s9] [])) target := by
  obtain ⟨T5, X5, e5, st5⟩ := getS2 X0 hx hZ hown (host := "") (Or.inl (hw _ (List.mem_of_getElem? (i := 7) rfl))) Via.refl e0 S_DATA_VALUES (g := (mkF m 127 #[s0, s1, s2, .val (.int i3), s4, .val (.int i5), .val (.ref o6), .val (.int (1 : Int32)), .val (.int (0 : Int32)), .val (.int (0 : Int32))] [(.ref o6)])) rfl (hb hby at_127)
  obtain ⟨T7, X7, e7, st7⟩ := getS2 X5 hx hZ hown (host := "") (Or.inl (hw _ (List.mem_of_getElem? (i := 8) rfl))) Via.refl e5 S_DATA_OBJECTS (g := (mkF m 145 #[s0, s1, s2, .val (.int i3), s4, .val (.int i5), .val (.ref o6), .val (.int (1 : Int32)), .val (.int (0 : Int32)), .val (.int (0 : Int32))] [(.ref o6)])) rfl (hb hby at_145)
  obtain ⟨T9, X9, e9, st9⟩ := getS2 X7 hx hZ hown (host := "") (Or.inl (hw _ (List.mem_of_getElem? (i := 10) rfl))) Via.refl e7 S_VALUES_AND_OBJECTS (g := (mkF m 163 #[s0, s1, s2, .val (.int i3), s4, .val (.int i5), .val (.ref o6), .val (.int (1 : Int32)), .val (.int (0 : Int32)), .val (.int (0 : Int32))] [(.ref o6)])) rfl (hb hby at_163)
  refine ⟨T9, X9, e9, fun target kt => ?_⟩
  show Steps p.tables e below (T0.setTop (mkF m 77 #[s0, s1, s2, .val (.int i3), s4, .val (.int i5), .val (.ref o6), s7, s8, s9] [])) _
  refine XS.iload X0.here hx rfl (hb hby at_77) rfl ?_
  show Steps p.tables e below (T0.setTop (mkF m 79 #[s0, s1, s2, .val (.int i3), s4, .val (.int i5), .val (.ref o6), s7, s8, s9] [(.int i5)])) _
  refine XS.ifNo X0.here hx rfl (hb hby at_79) rfl ((if0 _ _).trans (teq hc79).2) ?_
  show Steps p.tables e below (T0.setTop (mkF m 82 #[s0, s1, s2, .val (.int i3), s4, .val (.int i5), .val (.ref o6), s7, s8, s9] [])) _
  refine XS.iconst X0.here hx rfl (hb hby at_82) ?_
  show Steps p.tables e below (T0.setTop (mkF m 83 #[s0, s1, s2, .val (.int i3), s4, .val (.int i5), .val (.ref o6), s7, s8, s9] [(.int (1 : Int32))])) _
  refine XS.goto X0.here hx rfl (pc0 := 83) (pc' := 87) rfl (hb hby at_83) (by decide) (by decide) ?_
  show Steps p.tables e below (T0.setTop (mkF m 87 #[s0, s1, s2, .val (.int i3), s4, .val (.int i5), .val (.ref o6), s7, s8, s9] [(.int (1 : Int32))])) _
  refine XS.istore X0.here hx rfl (hb hby at_87) rfl (l' := #[s0, s1, s2, .val (.int i3), s4, .val (.int i5), .val (.ref o6), .val (.int (1 : Int32)), s8, s9]) (os0_87 hs7) ?_
  show Steps p.tables e below (T0.setTop (mkF m 89 #[s0, s1, s2, .val (.int i3), s4, .val (.int i5), .val (.ref o6), .val (.int (1 : Int32)), s8, s9] [])) _
  refine XS.iloadN X0.here hx rfl (hb hby at_89) rfl ?_
  show Steps p.tables e below (T0.setTop (mkF m 90 #[s0, s1, s2, .val (.int i3), s4, .val (.int i5), .val (.ref o6), .val (.int (1 : Int32)), s8, s9] [(.int i3)])) _
  refine XS.ifYes X0.here hx rfl (pc0 := 90) (pc' := 103) rfl (hb hby at_90) rfl ((if0 _ _).trans (flt hc90).2.2.2) (by decide) (by decide) ?_
  show Steps p.tables e below (T0.setTop (mkF m 103 #[s0, s1, s2, .val (.int i3), s4, .val (.int i5), .val (.ref o6), .val (.int (1 : Int32)), s8, s9] [])) _
  refine XS.iconst X0.here hx rfl (hb hby at_103) ?_
  show Steps p.tables e below (T0.setTop (mkF m 104 #[s0, s1, s2, .val (.int i3), s4, .val (.int i5), .val (.ref o6), .val (.int (1 : Int32)), s8, s9] [(.int (0 : Int32))])) _
  refine XS.istore X0.here hx rfl (hb hby at_104) rfl (l' := #[s0, s1, s2, .val (.int i3), s4, .val (.int i5), .val (.ref o6), .val (.int (1 : Int32)), .val (.int (0 : Int32)), s9]) (os0_104 hs8) ?_
  show Steps p.tables e below (T0.setTop (mkF m 106 #[s0, s1, s2, .val (.int i3), s4, .val (.int i5), .val (.ref o6), .val (.int (1 : Int32)), .val (.int (0 : Int32)), s9] [])) _
  refine XS.iconst X0.here hx rfl (hb hby at_106) ?_
  show Steps p.tables e below (T0.setTop (mkF m 107 #[s0, s1, s2, .val (.int i3), s4, .val (.int i5), .val (.ref o6), .val (.int (1 : Int32)), .val (.int (0 : Int32)), s9] [(.int (0 : Int32))])) _
  refine XS.iload X0.here hx rfl (hb hby at_107) rfl ?_
  show Steps p.tables e below (T0.setTop (mkF m 109 #[s0, s1, s2, .val (.int i3), s4, .val (.int i5), .val (.ref o6), .val (.int (1 : Int32)), .val (.int (0 : Int32)), s9] [(.int i5), (.int (0 : Int32))])) _
  refine XS.icmpYes X0.here hx rfl (pc0 := 109) (pc' := 122) rfl (hb hby at_109) rfl (flt hc109).2.1 (by decide) (by decide) ?_
  show Steps p.tables e below (T0.setTop (mkF m 122 #[s0, s1, s2, .val (.int i3), s4, .val (.int i5), .val (.ref o6), .val (.int (1 : Int32)), .val (.int (0 : Int32)), s9] [])) _
  refine XS.iconst X0.here hx rfl (hb hby at_122) ?_
  show Steps p.tables e below (T0.setTop (mkF m 123 #[s0, s1, s2, .val (.int i3), s4, .val (.int i5), .val (.ref o6), .val (.int (1 : Int32)), .val (.int (0 : Int32)), s9] [(.int (0 : Int32))])) _
  refine XS.istore X0.here hx rfl (hb hby at_123) rfl (l' := #[s0, s1, s2, .val (.int i3), s4, .val (.int i5), .val (.ref o6), .val (.int (1 : Int32)), .val (.int (0 : Int32)), .val (.int (0 : Int32))]) (os0_123 hs9) ?_
  show Steps p.tables e below (T0.setTop (mkF m 125 #[s0, s1, s2, .val (.int i3), s4, .val (.int i5), .val (.ref o6), .val (.int (1 : Int32)), .val (.int (0 : Int32)), .val (.int (0 : Int32))] [])) _
  refine XS.aload X0.here hx rfl (hb hby at_125) rfl rfl ?_
  show Steps p.tables e below (T0.setTop (mkF m 127 #[s0, s1, s2, .val (.int i3), s4, .val (.int i5), .val (.ref o6), .val (.int (1 : Int32)), .val (.int (0 : Int32)), .val (.int (0 : Int32))] [(.ref o6)])) _
  refine st5 _ ?_
  show Steps p.tables e below (T5.setTop (mkF m 130 #[s0, s1, s2, .val (.int i3), s4, .val (.int i5), .val (.ref o6), .val (.int (1 : Int32)), .val (.int (0 : Int32)), .val (.int (0 : Int32))] [(.ref w4), (.ref o6)])) _
  refine Jvm.RoadKit.acmp (g := (mkF m 130 #[s0, s1, s2, .val (.int i3), s4, .val (.int i5), .val (.ref o6), .val (.int (1 : Int32)), .val (.int (0 : Int32)), .val (.int (0 : Int32))] [(.ref w4), (.ref o6)])) X5 hx rfl rfl rfl (pc0 := 130) (pc' := 133) (same := true) rfl (hb hby at_130) rfl (decide_eq_true (congrArg Value.ref ha130)) (by decide) (by decide) ?_
  show Steps p.tables e below (T5.setTop (mkF m 133 #[s0, s1, s2, .val (.int i3), s4, .val (.int i5), .val (.ref o6), .val (.int (1 : Int32)), .val (.int (0 : Int32)), .val (.int (0 : Int32))] [])) _
  refine XS.iconst X5.here hx rfl (hb hby at_133) ?_
  show Steps p.tables e below (T5.setTop (mkF m 134 #[s0, s1, s2, .val (.int i3), s4, .val (.int i5), .val (.ref o6), .val (.int (1 : Int32)), .val (.int (0 : Int32)), .val (.int (0 : Int32))] [(.int (1 : Int32))])) _
  refine XS.goto X5.here hx rfl (pc0 := 134) (pc' := 138) rfl (hb hby at_134) (by decide) (by decide) ?_
  show Steps p.tables e below (T5.setTop (mkF m 138 #[s0, s1, s2, .val (.int i3), s4, .val (.int i5), .val (.ref o6), .val (.int (1 : Int32)), .val (.int (0 : Int32)), .val (.int (0 : Int32))] [(.int (1 : Int32))])) _
  refine XS.iload X5.here hx rfl (hb hby at_138) rfl ?_
  show Steps p.tables e below (T5.setTop (mkF m 140 #[s0, s1, s2, .val (.int i3), s4, .val (.int i5), .val (.ref o6), .val (.int (1 : Int32)), .val (.int (0 : Int32)), .val (.int (0 : Int32))] [(.int (1 : Int32)), (.int (1 : Int32))])) _
  refine XS.icmpNo X5.here hx rfl (hb hby at_140) rfl (teq (rfl : (1 : Int32) = (1 : Int32))).2 ?_
  show Steps p.tables e below (T5.setTop (mkF m 143 #[s0, s1, s2, .val (.int i3), s4, .val (.int i5), .val (.ref o6), .val (.int (1 : Int32)), .val (.int (0 : Int32)), .val (.int (0 : Int32))] [])) _
  refine XS.aload X5.here hx rfl (hb hby at_143) rfl rfl ?_
  show Steps p.tables e below (T5.setTop (mkF m 145 #[s0, s1, s2, .val (.int i3), s4, .val (.int i5), .val (.ref o6), .val (.int (1 : Int32)), .val (.int (0 : Int32)), .val (.int (0 : Int32))] [(.ref o6)])) _
  refine st7 _ ?_
  show Steps p.tables e below (T7.setTop (mkF m 148 #[s0, s1, s2, .val (.int i3), s4, .val (.int i5), .val (.ref o6), .val (.int (1 : Int32)), .val (.int (0 : Int32)), .val (.int (0 : Int32))] [(.ref w6), (.ref o6)])) _
  refine Jvm.RoadKit.acmp (g := (mkF m 148 #[s0, s1, s2, .val (.int i3), s4, .val (.int i5), .val (.ref o6), .val (.int (1 : Int32)), .val (.int (0 : Int32)), .val (.int (0 : Int32))] [(.ref w6), (.ref o6)])) X7 hx rfl rfl rfl (pc0 := 148) (pc' := 155) (same := false) rfl (hb hby at_148) rfl (decide_eq_false fun q => ha148 (Value.ref.inj q)) (by decide) (by decide) ?_
  show Steps p.tables e below (T7.setTop (mkF m 155 #[s0, s1, s2, .val (.int i3), s4, .val (.int i5), .val (.ref o6), .val (.int (1 : Int32)), .val (.int (0 : Int32)), .val (.int (0 : Int32))] [])) _
  refine XS.iconst X7.here hx rfl (hb hby at_155) ?_
  show Steps p.tables e below (T7.setTop (mkF m 156 #[s0, s1, s2, .val (.int i3), s4, .val (.int i5), .val (.ref o6), .val (.int (1 : Int32)), .val (.int (0 : Int32)), .val (.int (0 : Int32))] [(.int (0 : Int32))])) _
  refine XS.iload X7.here hx rfl (hb hby at_156) rfl ?_
  show Steps p.tables e below (T7.setTop (mkF m 158 #[s0, s1, s2, .val (.int i3), s4, .val (.int i5), .val (.ref o6), .val (.int (1 : Int32)), .val (.int (0 : Int32)), .val (.int (0 : Int32))] [(.int (0 : Int32)), (.int (0 : Int32))])) _
  refine XS.icmpNo X7.here hx rfl (hb hby at_158) rfl (teq (rfl : (0 : Int32) = (0 : Int32))).2 ?_
  show Steps p.tables e below (T7.setTop (mkF m 161 #[s0, s1, s2, .val (.int i3), s4, .val (.int i5), .val (.ref o6), .val (.int (1 : Int32)), .val (.int (0 : Int32)), .val (.int (0 : Int32))] [])) _
  refine XS.aload X7.here hx rfl (hb hby at_161) rfl rfl ?_
  show Steps p.tables e below (T7.setTop (mkF m 163 #[s0, s1, s2, .val (.int i3), s4, .val (.int i5), .val (.ref o6), .val (.int (1 : Int32)), .val (.int (0 : Int32)), .val (.int (0 : Int32))] [(.ref o6)])) _
  refine st9 _ ?_
  show Steps p.tables e below (T9.setTop (mkF m 166 #[s0, s1, s2, .val (.int i3), s4, .val (.int i5), .val (.ref o6), .val (.int (1 : Int32)), .val (.int (0 : Int32)), .val (.int (0 : Int32))] [(.ref w8), (.ref o6)])) _
  refine Jvm.RoadKit.acmp (g := (mkF m 166 #[s0, s1, s2, .val (.int i3), s4, .val (.int i5), .val (.ref o6), .val (.int (1 : Int32)), .val (.int (0 : Int32)), .val (.int (0 : Int32))] [(.ref w8), (.ref o6)])) X9 hx rfl rfl rfl (pc0 := 166) (pc' := 173) (same := false) rfl (hb hby at_166) rfl (decide_eq_false fun q => ha166 (Value.ref.inj q)) (by decide) (by decide) ?_
  show Steps p.tables e below (T9.setTop (mkF m 173 #[s0, s1, s2, .val (.int i3), s4, .val (.int i5), .val (.ref o6), .val (.int (1 : Int32)), .val (.int (0 : Int32)), .val (.int (0 : Int32))] [])) _
  refine XS.iconst X9.here hx rfl (hb hby at_173) ?_
  show Steps p.tables e below (T9.setTop (mkF m 174 #[s0, s1, s2, .val (.int i3), s4, .val (.int i5), .val (.ref o6), .val (.int (1 : Int32)), .val (.int (0 : Int32)), .val (.int (0 : Int32))] [(.int (0 : Int32))])) _
  refine XS.iload X9.here hx rfl (hb hby at_174) rfl ?_
  show Steps p.tables e below (T9.setTop (mkF m 176 #[s0, s1, s2, .val (.int i3), s4, .val (.int i5), .val (.ref o6), .val (.int (1 : Int32)), .val (.int (0 : Int32)), .val (.int (0 : Int32))] [(.int (0 : Int32)), (.int (0 : Int32))])) _
  refine XS.icmpNo X9.here hx rfl (hb hby at_176) rfl (teq (rfl : (0 : Int32) = (0 : Int32))).2 ?_
  show Steps p.tables e below (T9.setTop (mkF m 179 #[s0, s1, s2, .val (.int i3), s4, .val (.int i5), .val (.ref o6), .val (.int (1 : Int32)), .val (.int (0 : Int32)), .val (.int (0 : Int32))] [])) _
  refine XS.iconst X9.here hx rfl (hb hby at_179) ?_
  show Steps p.tables e below (T9.setTop (mkF m 180 #[s0, s1, s2, .val (.int i3), s4, .val (.int i5), .val (.ref o6), .val (.int (1 : Int32)), .val (.int (0 : Int32)), .val (.int (0 : Int32))] [(.int (1 : Int32))])) _
  refine XS.goto X9.here hx rfl (pc0 := 180) (pc' := 184) rfl (hb hby at_180) (by decide) (by decide) ?_
  exact kt
set_option maxRecDepth 65536 in
set_option maxHeartbeats 40000000 in
theorem tn0_77_184b {p : Program} {l : Launch} {e : Env} {R : Room} {s : State} {m : MethodId} {args : Array Value} {below : List Frame} {meth : Method} {c : Code} {T0 : State} {locs : List Loc} {cells slots : Nat} {Z : State} {a0 : Array Value} {h0 : Heap} (s0 : Slot) (s1 : Slot) (s2 : Slot) (i3 : Int32) (s4 : Slot) (i5 : Int32) (o6 : Addr) (s7 : Slot) (s8 : Slot) (s9 : Slot) (w4 : Addr) (w6 : Addr) (w8 : Addr)
    (X0 : Stand p l e R s m args below meth c T0 locs cells slots) (hx : p.tables.exec = Jvm.exec) (hZ : Z.Warmed39 s.vm) (hw : ∀ d ∈ tables_1, d.before a0 Z = true) (hby : c.code = code) (hml : c.maxLocals = 10) (hown : s.vm.findClass "com/example/tallygraph/tallygraph/type/OnDemandKindHoldingPinLaw" = some m.cls) (e0 : T0.heap = h0) (hs7 : One s7) (hs8 : One s8) (hs9 : One s9) (S_DATA_VALUES : Sta Z h0 "com/example/tallygraph/tallygraph/type/OnDemandKind" "DATA_VALUES" "Lcom/example/tallygraph/tallygraph/type/OnDemandKind;" (.ref w4)) (S_DATA_OBJECTS : Sta Z h0 "com/example/tallygraph/tallygraph/type/OnDemandKind" "DATA_OBJECTS" "Lcom/example/tallygraph/tallygraph/type/OnDemandKind;" (.ref w6)) (S_VALUES_AND_OBJECTS : Sta Z h0 "com/example/tallygraph/tallygraph/type/OnDemandKind" "VALUES_AND_OBJECTS" "Lcom/example/tallygraph/tallygraph/type/OnDemandKind;" (.ref w8)) (hc79 : i5 = (0 : Int32)) (hc90 : (0 : Int32) < i3) (hc96 : ¬ (i5 = i3)) (hc109 : ¬ ((0 : Int32) < i5)) (ha130 : o6 = w4) (ha148 : ¬ (o6 = w6)) (ha166 : ¬ (o6 = w8)) :
    ∃ (T' : State), Stand p l e R s m args below meth c T' locs cells slots ∧ T'.heap = h0 ∧
      ∀ target, Steps p.tables e below (T'.setTop (mkF m 184 #[s0, s1, s2, .val (.int i3), s4, .val (.int i5), .val (.ref o6), .val (.int (1 : Int32)), .val (.int (0 : Int32)), .val (.int (0 : Int32))] [(.int (1 : Int32))])) target → Steps p.tables e below (T0.setTop (mkF m 77 #[s0, s1, s2, .val (.int i3), s4, .val (.int i5), .val (.ref o6), s7, s8, s9] [])) target := by
  obtain ⟨T5, X5, e5, st5⟩ := getS2 X0 hx hZ hown (host := "") (Or.inl (hw _ (List.mem_of_getElem? (i := 7) rfl))) Via.refl e0 S_DATA_VALUES (g := (mkF m 127 #[s0, s1, s2, .val (.int i3), s4, .val (.int i5), .val (.ref o6), .val (.int (1 : Int32)), .val (.int (0 : Int32)), .val (.int (0 : Int32))] [(.ref o6)])) rfl (hb hby at_127)
  obtain ⟨T7, X7, e7, st7⟩ := getS2 X5 hx hZ hown (host := "") (Or.inl (hw _ (List.mem_of_getElem? (i := 8) rfl))) Via.refl e5 S_DATA_OBJECTS (g := (mkF m 145 #[s0, s1, s2, .val (.int i3), s4, .val (.int i5), .val (.ref o6), .val (.int (1 : Int32)), .val (.int (0 : Int32)), .val (.int (0 : Int32))] [(.ref o6)])) rfl (hb hby at_145)
  obtain ⟨T9, X9, e9, st9⟩ := getS2 X7 hx hZ hown (host := "") (Or.inl (hw _ (List.mem_of_getElem? (i := 10) rfl))) Via.refl e7 S_VALUES_AND_OBJECTS (g := (mkF m 163 #[s0, s1, s2, .val (.int i3), s4, .val (.int i5), .val (.ref o6), .val (.int (1 : Int32)), .val (.int (0 : Int32)), .val (.int (0 : Int32))] [(.ref o6)])) rfl (hb hby at_163)
  refine ⟨T9, X9, e9, fun target kt => ?_⟩
  show Steps p.tables e below (T0.setTop (mkF m 77 #[s0, s1, s2, .val (.int i3), s4, .val (.int i5), .val (.ref o6), s7, s8, s9] [])) _
  refine XS.iload X0.here hx rfl (hb hby at_77) rfl ?_
  show Steps p.tables e below (T0.setTop (mkF m 79 #[s0, s1, s2, .val (.int i3), s4, .val (.int i5), .val (.ref o6), s7, s8, s9] [(.int i5)])) _
  refine XS.ifNo X0.here hx rfl (hb hby at_79) rfl ((if0 _ _).trans (teq hc79).2) ?_
  show Steps p.tables e below (T0.setTop (mkF m 82 #[s0, s1, s2, .val (.int i3), s4, .val (.int i5), .val (.ref o6), s7, s8, s9] [])) _
  refine XS.iconst X0.here hx rfl (hb hby at_82) ?_
  show Steps p.tables e below (T0.setTop (mkF m 83 #[s0, s1, s2, .val (.int i3), s4, .val (.int i5), .val (.ref o6), s7, s8, s9] [(.int (1 : Int32))])) _
  refine XS.goto X0.here hx rfl (pc0 := 83) (pc' := 87) rfl (hb hby at_83) (by decide) (by decide) ?_
  show Steps p.tables e below (T0.setTop (mkF m 87 #[s0, s1, s2, .val (.int i3), s4, .val (.int i5), .val (.ref o6), s7, s8, s9] [(.int (1 : Int32))])) _
  refine XS.istore X0.here hx rfl (hb hby at_87) rfl (l' := #[s0, s1, s2, .val (.int i3), s4, .val (.int i5), .val (.ref o6), .val (.int (1 : Int32)), s8, s9]) (os0_87 hs7) ?_
  show Steps p.tables e below (T0.setTop (mkF m 89 #[s0, s1, s2, .val (.int i3), s4, .val (.int i5), .val (.ref o6), .val (.int (1 : Int32)), s8, s9] [])) _
  refine XS.iloadN X0.here hx rfl (hb hby at_89) rfl ?_
  show Steps p.tables e below (T0.setTop (mkF m 90 #[s0, s1, s2, .val (.int i3), s4, .val (.int i5), .val (.ref o6), .val (.int (1 : Int32)), s8, s9] [(.int i3)])) _
  refine XS.ifNo X0.here hx rfl (hb hby at_90) rfl ((if0 _ _).trans (tlt hc90).2.2.2) ?_
  show Steps p.tables e below (T0.setTop (mkF m 93 #[s0, s1, s2, .val (.int i3), s4, .val (.int i5), .val (.ref o6), .val (.int (1 : Int32)), s8, s9] [])) _
  refine XS.iload X0.here hx rfl (hb hby at_93) rfl ?_
  show Steps p.tables e below (T0.setTop (mkF m 95 #[s0, s1, s2, .val (.int i3), s4, .val (.int i5), .val (.ref o6), .val (.int (1 : Int32)), s8, s9] [(.int i5)])) _
  refine XS.iloadN X0.here hx rfl (hb hby at_95) rfl ?_
  show Steps p.tables e below (T0.setTop (mkF m 96 #[s0, s1, s2, .val (.int i3), s4, .val (.int i5), .val (.ref o6), .val (.int (1 : Int32)), s8, s9] [(.int i3), (.int i5)])) _
  refine XS.icmpYes X0.here hx rfl (pc0 := 96) (pc' := 103) rfl (hb hby at_96) rfl (feq hc96).2 (by decide) (by decide) ?_
  show Steps p.tables e below (T0.setTop (mkF m 103 #[s0, s1, s2, .val (.int i3), s4, .val (.int i5), .val (.ref o6), .val (.int (1 : Int32)), s8, s9] [])) _
  refine XS.iconst X0.here hx rfl (hb hby at_103) ?_
  show Steps p.tables e below (T0.setTop (mkF m 104 #[s0, s1, s2, .val (.int i3), s4, .val (.int i5), .val (.ref o6), .val (.int (1 : Int32)), s8, s9] [(.int (0 : Int32))])) _
  refine XS.istore X0.here hx rfl (hb hby at_104) rfl (l' := #[s0, s1, s2, .val (.int i3), s4, .val (.int i5), .val (.ref o6), .val (.int (1 : Int32)), .val (.int (0 : Int32)), s9]) (os0_104 hs8) ?_
  show Steps p.tables e below (T0.setTop (mkF m 106 #[s0, s1, s2, .val (.int i3), s4, .val (.int i5), .val (.ref o6), .val (.int (1 : Int32)), .val (.int (0 : Int32)), s9] [])) _
  refine XS.iconst X0.here hx rfl (hb hby at_106) ?_
  show Steps p.tables e below (T0.setTop (mkF m 107 #[s0, s1, s2, .val (.int i3), s4, .val (.int i5), .val (.ref o6), .val (.int (1 : Int32)), .val (.int (0 : Int32)), s9] [(.int (0 : Int32))])) _
  refine XS.iload X0.here hx rfl (hb hby at_107) rfl ?_
  show Steps p.tables e below (T0.setTop (mkF m 109 #[s0, s1, s2, .val (.int i3), s4, .val (.int i5), .val (.ref o6), .val (.int (1 : Int32)), .val (.int (0 : Int32)), s9] [(.int i5), (.int (0 : Int32))])) _
  refine XS.icmpYes X0.here hx rfl (pc0 := 109) (pc' := 122) rfl (hb hby at_109) rfl (flt hc109).2.1 (by decide) (by decide) ?_
  show Steps p.tables e below (T0.setTop (mkF m 122 #[s0, s1, s2, .val (.int i3), s4, .val (.int i5), .val (.ref o6), .val (.int (1 : Int32)), .val (.int (0 : Int32)), s9] [])) _
  refine XS.iconst X0.here hx rfl (hb hby at_122) ?_
  show Steps p.tables e below (T0.setTop (mkF m 123 #[s0, s1, s2, .val (.int i3), s4, .val (.int i5), .val (.ref o6), .val (.int (1 : Int32)), .val (.int (0 : Int32)), s9] [(.int (0 : Int32))])) _
  refine XS.istore X0.here hx rfl (hb hby at_123) rfl (l' := #[s0, s1, s2, .val (.int i3), s4, .val (.int i5), .val (.ref o6), .val (.int (1 : Int32)), .val (.int (0 : Int32)), .val (.int (0 : Int32))]) (os0_123 hs9) ?_
  show Steps p.tables e below (T0.setTop (mkF m 125 #[s0, s1, s2, .val (.int i3), s4, .val (.int i5), .val (.ref o6), .val (.int (1 : Int32)), .val (.int (0 : Int32)), .val (.int (0 : Int32))] [])) _
  refine XS.aload X0.here hx rfl (hb hby at_125) rfl rfl ?_
  show Steps p.tables e below (T0.setTop (mkF m 127 #[s0, s1, s2, .val (.int i3), s4, .val (.int i5), .val (.ref o6), .val (.int (1 : Int32)), .val (.int (0 : Int32)), .val (.int (0 : Int32))] [(.ref o6)])) _
  refine st5 _ ?_
  show Steps p.tables e below (T5.setTop (mkF m 130 #[s0, s1, s2, .val (.int i3), s4, .val (.int i5), .val (.ref o6), .val (.int (1 : Int32)), .val (.int (0 : Int32)), .val (.int (0 : Int32))] [(.ref w4), (.ref o6)])) _
  refine Jvm.RoadKit.acmp (g := (mkF m 130 #[s0, s1, s2, .val (.int i3), s4, .val (.int i5), .val (.ref o6), .val (.int (1 : Int32)), .val (.int (0 : Int32)), .val (.int (0 : Int32))] [(.ref w4), (.ref o6)])) X5 hx rfl rfl rfl (pc0 := 130) (pc' := 133) (same := true) rfl (hb hby at_130) rfl (decide_eq_true (congrArg Value.ref ha130)) (by decide) (by decide) ?_
  show Steps p.tables e below (T5.setTop (mkF m 133 #[s0, s1, s2, .val (.int i3), s4, .val (.int i5), .val (.ref o6), .val (.int (1 : Int32)), .val (.int (0 : Int32)), .val (.int (0 : Int32))] [])) _
  refine XS.iconst X5.here hx rfl (hb hby at_133) ?_
  show Steps p.tables e below (T5.setTop (mkF m 134 #[s0, s1, s2, .val (.int i3), s4, .val (.int i5), .val (.ref o6), .val (.int (1 : Int32)), .val (.int (0 : Int32)), .val (.int (0 : Int32))] [(.int (1 : Int32))])) _
  refine XS.goto X5.here hx rfl (pc0 := 134) (pc' := 138) rfl (hb hby at_134) (by decide) (by decide) ?_
  show Steps p.tables e below (T5.setTop (mkF m 138 #[s0, s1, s2, .val (.int i3), s4, .val (.int i5), .val (.ref o6), .val (.int (1 : Int32)), .val (.int (0 : Int32)), .val (.int (0 : Int32))] [(.int (1 : Int32))])) _
  refine XS.iload X5.here hx rfl (hb hby at_138) rfl ?_
  show Steps p.tables e below (T5.setTop (mkF m 140 #[s0, s1, s2, .val (.int i3), s4, .val (.int i5), .val (.ref o6), .val (.int (1 : Int32)), .val (.int (0 : Int32)), .val (.int (0 : Int32))] [(.int (1 : Int32)), (.int (1 : Int32))])) _
  refine XS.icmpNo X5.here hx rfl (hb hby at_140) rfl (teq (rfl : (1 : Int32) = (1 : Int32))).2 ?_
  show Steps p.tables e below (T5.setTop (mkF m 143 #[s0, s1, s2, .val (.int i3), s4, .val (.int i5), .val (.ref o6), .val (.int (1 : Int32)), .val (.int (0 : Int32)), .val (.int (0 : Int32))] [])) _
  refine XS.aload X5.here hx rfl (hb hby at_143) rfl rfl ?_
  show Steps p.tables e below (T5.setTop (mkF m 145 #[s0, s1, s2, .val (.int i3), s4, .val (.int i5), .val (.ref o6), .val (.int (1 : Int32)), .val (.int (0 : Int32)), .val (.int (0 : Int32))] [(.ref o6)])) _
  refine st7 _ ?_
  show Steps p.tables e below (T7.setTop (mkF m 148 #[s0, s1, s2, .val (.int i3), s4, .val (.int i5), .val (.ref o6), .val (.int (1 : Int32)), .val (.int (0 : Int32)), .val (.int (0 : Int32))] [(.ref w6), (.ref o6)])) _
  refine Jvm.RoadKit.acmp (g := (mkF m 148 #[s0, s1, s2, .val (.int i3), s4, .val (.int i5), .val (.ref o6), .val (.int (1 : Int32)), .val (.int (0 : Int32)), .val (.int (0 : Int32))] [(.ref w6), (.ref o6)])) X7 hx rfl rfl rfl (pc0 := 148) (pc' := 155) (same := false) rfl (hb hby at_148) rfl (decide_eq_false fun q => ha148 (Value.ref.inj q)) (by decide) (by decide) ?_
  show Steps p.tables e below (T7.setTop (mkF m 155 #[s0, s1, s2, .val (.int i3), s4, .val (.int i5), .val (.ref o6), .val (.int (1 : Int32)), .val (.int (0 : Int32)), .val (.int (0 : Int32))] [])) _
  refine XS.iconst X7.here hx rfl (hb hby at_155) ?_
  show Steps p.tables e below (T7.setTop (mkF m 156 #[s0, s1, s2, .val (.int i3), s4, .val (.int i5), .val (.ref o6), .val (.int (1 : Int32)), .val (.int (0 : Int32)), .val (.int (0 : Int32))] [(.int (0 : Int32))])) _
  refine XS.iload X7.here hx rfl (hb hby at_156) rfl ?_
  show Steps p.tables e below (T7.setTop (mkF m 158 #[s0, s1, s2, .val (.int i3), s4, .val (.int i5), .val (.ref o6), .val (.int (1 : Int32)), .val (.int (0 : Int32)), .val (.int (0 : Int32))] [(.int (0 : Int32)), (.int (0 : Int32))])) _
  refine XS.icmpNo X7.here hx rfl (hb hby at_158) rfl (teq (rfl : (0 : Int32) = (0 : Int32))).2 ?_
  show Steps p.tables e below (T7.setTop (mkF m 161 #[s0, s1, s2, .val (.int i3), s4, .val (.int i5), .val (.ref o6), .val (.int (1 : Int32)), .val (.int (0 : Int32)), .val (.int (0 : Int32))] [])) _
  refine XS.aload X7.here hx rfl (hb hby at_161) rfl rfl ?_
  show Steps p.tables e below (T7.setTop (mkF m 163 #[s0, s1, s2, .val (.int i3), s4, .val (.int i5), .val (.ref o6), .val (.int (1 : Int32)), .val (.int (0 : Int32)), .val (.int (0 : Int32))] [(.ref o6)])) _
  refine st9 _ ?_
  show Steps p.tables e below (T9.setTop (mkF m 166 #[s0, s1, s2, .val (.int i3), s4, .val (.int i5), .val (.ref o6), .val (.int (1 : Int32)), .val (.int (0 : Int32)), .val (.int (0 : Int32))] [(.ref w8), (.ref o6)])) _
  refine Jvm.RoadKit.acmp (g := (mkF m 166 #[s0, s1, s2, .val (.int i3), s4, .val (.int i5), .val (.ref o6), .val (.int (1 : Int32)), .val (.int (0 : Int32)), .val (.int (0 : Int32))] [(.ref w8), (.ref o6)])) X9 hx rfl rfl rfl (pc0 := 166) (pc' := 173) (same := false) rfl (hb hby at_166) rfl (decide_eq_false fun q => ha166 (Value.ref.inj q)) (by decide) (by decide) ?_
  show Steps p.tables e below (T9.setTop (mkF m 173 #[s0, s1, s2, .val (.int i3), s4, .val (.int i5), .val (.ref o6), .val (.int (1 : Int32)), .val (.int (0 : Int32)), .val (.int (0 : Int32))] [])) _
  refine XS.iconst X9.here hx rfl (hb hby at_173) ?_
  show Steps p.tables e below (T9.setTop (mkF m 174 #[s0, s1, s2, .val (.int i3), s4, .val (.int i5), .val (.ref o6), .val (.int (1 : Int32)), .val (.int (0 : Int32)), .val (.int (0 : Int32))] [(.int (0 : Int32))])) _
  refine XS.iload X9.here hx rfl (hb hby at_174) rfl ?_
  show Steps p.tables e below (T9.setTop (mkF m 176 #[s0, s1, s2, .val (.int i3), s4, .val (.int i5), .val (.ref o6), .val (.int (1 : Int32)), .val (.int (0 : Int32)), .val (.int (0 : Int32))] [(.int (0 : Int32)), (.int (0 : Int32))])) _
  refine XS.icmpNo X9.here hx rfl (hb hby at_176) rfl (teq (rfl : (0 : Int32) = (0 : Int32))).2 ?_
  show Steps p.tables e below (T9.setTop (mkF m 179 #[s0, s1, s2, .val (.int i3), s4, .val (.int i5), .val (.ref o6), .val (.int (1 : Int32)), .val (.int (0 : Int32)), .val (.int (0 : Int32))] [])) _
  refine XS.iconst X9.here hx rfl (hb hby at_179) ?_
  show Steps p.tables e below (T9.setTop (mkF m 180 #[s0, s1, s2, .val (.int i3), s4, .val (.int i5), .val (.ref o6), .val (.int (1 : Int32)), .val (.int (0 : Int32)), .val (.int (0 : Int32))] [(.int (1 : Int32))])) _
  refine XS.goto X9.here hx rfl (pc0 := 180) (pc' := 184) rfl (hb hby at_180) (by decide) (by decide) ?_
  exact kt
set_option maxRecDepth 65536 in
set_option maxHeartbeats 40000000 in
theorem tn0_77_184c {p : Program} {l : Launch} {e : Env} {R : Room} {s : State} {m : MethodId} {args : Array Value} {below : List Frame} {meth : Method} {c : Code} {T0 : State} {locs : List Loc} {cells slots : Nat} {Z : State} {a0 : Array Value} {h0 : Heap} (s0 : Slot) (s1 : Slot) (s2 : Slot) (i3 : Int32) (s4 : Slot) (i5 : Int32) (o6 : Addr) (s7 : Slot) (s8 : Slot) (s9 : Slot) (w4 : Addr) (w6 : Addr) (w8 : Addr)
    (X0 : Stand p l e R s m args below meth c T0 locs cells slots) (hx : p.tables.exec = Jvm.exec) (hZ : Z.Warmed39 s.vm) (hw : ∀ d ∈ tables_1, d.before a0 Z = true) (hby : c.code = code) (hml : c.maxLocals = 10) (hown : s.vm.findClass "com/example/tallygraph/tallygraph/type/OnDemandKindHoldingPinLaw" = some m.cls) (e0 : T0.heap = h0) (hs7 : One s7) (hs8 : One s8) (hs9 : One s9) (S_DATA_VALUES : Sta Z h0 "com/example/tallygraph/tallygraph/type/OnDemandKind" "DATA_VALUES" "Lcom/example/tallygraph/tallygraph/type/OnDemandKind;" (.ref w4)) (S_DATA_OBJECTS : Sta Z h0 "com/example/tallygraph/tallygraph/type/OnDemandKind" "DATA_OBJECTS" "Lcom/example/tallygraph/tallygraph/type/OnDemandKind;" (.ref w6)) (S_VALUES_AND_OBJECTS : Sta Z h0 "com/example/tallygraph/tallygraph/type/OnDemandKind" "VALUES_AND_OBJECTS" "Lcom/example/tallygraph/tallygraph/type/OnDemandKind;" (.ref w8)) (hc79 : ¬ (i5 = (0 : Int32))) (hc90 : (0 : Int32) < i3) (hc96 : i5 = i3) (hc109 : (0 : Int32) < i5) (hc115 : ¬ (i5 < i3)) (ha130 : ¬ (o6 = w4)) (ha148 : o6 = w6) (ha166 : ¬ (o6 = w8)) :
    ∃ (T' : State), Stand p l e R s m args below meth c T' locs cells slots ∧ T'.heap = h0 ∧
      ∀ target, Steps p.tables e below (T'.setTop (mkF m 184 #[s0, s1, s2, .val (.int i3), s4, .val (.int i5), .val (.ref o6), .val (.int (0 : Int32)), .val (.int (1 : Int32)), .val (.int (0 : Int32))] [(.int (1 : Int32))])) target → Steps p.tables e below (T0.setTop (mkF m 77 #[s0, s1, s2, .val (.int i3), s4, .val (.int i5), .val (.ref o6), s7, s8, s9] [])) target := by
  obtain ⟨T5, X5, e5, st5⟩ := getS2 X0 hx hZ hown (host := "") (Or.inl (hw _ (List.mem_of_getElem? (i := 7) rfl))) Via.refl e0 S_DATA_VALUES (g := (mkF m 127 #[s0, s1, s2, .val (.int i3), s4, .val (.int i5), .val (.ref o6), .val (.int (0 : Int32)), .val (.int (1 : Int32)), .val (.int (0 : Int32))] [(.ref o6)])) rfl (hb hby at_127)
  obtain ⟨T7, X7, e7, st7⟩ := getS2 X5 hx hZ hown (host := "") (Or.inl (hw _ (List.mem_of_getElem? (i := 8) rfl))) Via.refl e5 S_DATA_OBJECTS (g := (mkF m 145 #[s0, s1, s2, .val (.int i3), s4, .val (.int i5), .val (.ref o6), .val (.int (0 : Int32)), .val (.int (1 : Int32)), .val (.int (0 : Int32))] [(.ref o6)])) rfl (hb hby at_145)
  obtain ⟨T9, X9, e9, st9⟩ := getS2 X7 hx hZ hown (host := "") (Or.inl (hw _ (List.mem_of_getElem? (i := 10) rfl))) Via.refl e7 S_VALUES_AND_OBJECTS (g := (mkF m 163 #[s0, s1, s2, .val (.int i3), s4, .val (.int i5), .val (.ref o6), .val (.int (0 : Int32)), .val (.int (1 : Int32)), .val (.int (0 : Int32))] [(.ref o6)])) rfl (hb hby at_163)
  refine ⟨T9, X9, e9, fun target kt => ?_⟩
  show Steps p.tables e below (T0.setTop (mkF m 77 #[s0, s1, s2, .val (.int i3), s4, .val (.int i5), .val (.ref o6), s7, s8, s9] [])) _
  refine XS.iload X0.here hx rfl (hb hby at_77) rfl ?_
  show Steps p.tables e below (T0.setTop (mkF m 79 #[s0, s1, s2, .val (.int i3), s4, .val (.int i5), .val (.ref o6), s7, s8, s9] [(.int i5)])) _
  refine XS.ifYes X0.here hx rfl (pc0 := 79) (pc' := 86) rfl (hb hby at_79) rfl ((if0 _ _).trans (feq hc79).2) (by decide) (by decide) ?_
  show Steps p.tables e below (T0.setTop (mkF m 86 #[s0, s1, s2, .val (.int i3), s4, .val (.int i5), .val (.ref o6), s7, s8, s9] [])) _
  refine XS.iconst X0.here hx rfl (hb hby at_86) ?_
  show Steps p.tables e below (T0.setTop (mkF m 87 #[s0, s1, s2, .val (.int i3), s4, .val (.int i5), .val (.ref o6), s7, s8, s9] [(.int (0 : Int32))])) _
  refine XS.istore X0.here hx rfl (hb hby at_87) rfl (l' := #[s0, s1, s2, .val (.int i3), s4, .val (.int i5), .val (.ref o6), .val (.int (0 : Int32)), s8, s9]) (os0_87 hs7) ?_
  show Steps p.tables e below (T0.setTop (mkF m 89 #[s0, s1, s2, .val (.int i3), s4, .val (.int i5), .val (.ref o6), .val (.int (0 : Int32)), s8, s9] [])) _
  refine XS.iloadN X0.here hx rfl (hb hby at_89) rfl ?_
  show Steps p.tables e below (T0.setTop (mkF m 90 #[s0, s1, s2, .val (.int i3), s4, .val (.int i5), .val (.ref o6), .val (.int (0 : Int32)), s8, s9] [(.int i3)])) _
  refine XS.ifNo X0.here hx rfl (hb hby at_90) rfl ((if0 _ _).trans (tlt hc90).2.2.2) ?_
  show Steps p.tables e below (T0.setTop (mkF m 93 #[s0, s1, s2, .val (.int i3), s4, .val (.int i5), .val (.ref o6), .val (.int (0 : Int32)), s8, s9] [])) _
  refine XS.iload X0.here hx rfl (hb hby at_93) rfl ?_
  show Steps p.tables e below (T0.setTop (mkF m 95 #[s0, s1, s2, .val (.int i3), s4, .val (.int i5), .val (.ref o6), .val (.int (0 : Int32)), s8, s9] [(.int i5)])) _
  refine XS.iloadN X0.here hx rfl (hb hby at_95) rfl ?_
  show Steps p.tables e below (T0.setTop (mkF m 96 #[s0, s1, s2, .val (.int i3), s4, .val (.int i5), .val (.ref o6), .val (.int (0 : Int32)), s8, s9] [(.int i3), (.int i5)])) _
  refine XS.icmpNo X0.here hx rfl (hb hby at_96) rfl (teq hc96).2 ?_
  show Steps p.tables e below (T0.setTop (mkF m 99 #[s0, s1, s2, .val (.int i3), s4, .val (.int i5), .val (.ref o6), .val (.int (0 : Int32)), s8, s9] [])) _
  refine XS.iconst X0.here hx rfl (hb hby at_99) ?_
  show Steps p.tables e below (T0.setTop (mkF m 100 #[s0, s1, s2, .val (.int i3), s4, .val (.int i5), .val (.ref o6), .val (.int (0 : Int32)), s8, s9] [(.int (1 : Int32))])) _
  refine XS.goto X0.here hx rfl (pc0 := 100) (pc' := 104) rfl (hb hby at_100) (by decide) (by decide) ?_
  show Steps p.tables e below (T0.setTop (mkF m 104 #[s0, s1, s2, .val (.int i3), s4, .val (.int i5), .val (.ref o6), .val (.int (0 : Int32)), s8, s9] [(.int (1 : Int32))])) _
  refine XS.istore X0.here hx rfl (hb hby at_104) rfl (l' := #[s0, s1, s2, .val (.int i3), s4, .val (.int i5), .val (.ref o6), .val (.int (0 : Int32)), .val (.int (1 : Int32)), s9]) (os0_104 hs8) ?_
  show Steps p.tables e below (T0.setTop (mkF m 106 #[s0, s1, s2, .val (.int i3), s4, .val (.int i5), .val (.ref o6), .val (.int (0 : Int32)), .val (.int (1 : Int32)), s9] [])) _
  refine XS.iconst X0.here hx rfl (hb hby at_106) ?_
  show Steps p.tables e below (T0.setTop (mkF m 107 #[s0, s1, s2, .val (.int i3), s4, .val (.int i5), .val (.ref o6), .val (.int (0 : Int32)), .val (.int (1 : Int32)), s9] [(.int (0 : Int32))])) _
  refine XS.iload X0.here hx rfl (hb hby at_107) rfl ?_
  show Steps p.tables e below (T0.setTop (mkF m 109 #[s0, s1, s2, .val (.int i3), s4, .val (.int i5), .val (.ref o6), .val (.int (0 : Int32)), .val (.int (1 : Int32)), s9] [(.int i5), (.int (0 : Int32))])) _
  refine XS.icmpNo X0.here hx rfl (hb hby at_109) rfl (tlt hc109).2.1 ?_
  show Steps p.tables e below (T0.setTop (mkF m 112 #[s0, s1, s2, .val (.int i3), s4, .val (.int i5), .val (.ref o6), .val (.int (0 : Int32)), .val (.int (1 : Int32)), s9] [])) _
  refine XS.iload X0.here hx rfl (hb hby at_112) rfl ?_
  show Steps p.tables e below (T0.setTop (mkF m 114 #[s0, s1, s2, .val (.int i3), s4, .val (.int i5), .val (.ref o6), .val (.int (0 : Int32)), .val (.int (1 : Int32)), s9] [(.int i5)])) _
  refine XS.iloadN X0.here hx rfl (hb hby at_114) rfl ?_
  show Steps p.tables e below (T0.setTop (mkF m 115 #[s0, s1, s2, .val (.int i3), s4, .val (.int i5), .val (.ref o6), .val (.int (0 : Int32)), .val (.int (1 : Int32)), s9] [(.int i3), (.int i5)])) _
  refine XS.icmpYes X0.here hx rfl (pc0 := 115) (pc' := 122) rfl (hb hby at_115) rfl (flt hc115).2.1 (by decide) (by decide) ?_
  show Steps p.tables e below (T0.setTop (mkF m 122 #[s0, s1, s2, .val (.int i3), s4, .val (.int i5), .val (.ref o6), .val (.int (0 : Int32)), .val (.int (1 : Int32)), s9] [])) _
  refine XS.iconst X0.here hx rfl (hb hby at_122) ?_
  show Steps p.tables e below (T0.setTop (mkF m 123 #[s0, s1, s2, .val (.int i3), s4, .val (.int i5), .val (.ref o6), .val (.int (0 : Int32)), .val (.int (1 : Int32)), s9] [(.int (0 : Int32))])) _
  refine XS.istore X0.here hx rfl (hb hby at_123) rfl (l' := #[s0, s1, s2, .val (.int i3), s4, .val (.int i5), .val (.ref o6), .val (.int (0 : Int32)), .val (.int (1 : Int32)), .val (.int (0 : Int32))]) (os0_123 hs9) ?_
  show Steps p.tables e below (T0.setTop (mkF m 125 #[s0, s1, s2, .val (.int i3), s4, .val (.int i5), .val (.ref o6), .val (.int (0 : Int32)), .val (.int (1 : Int32)), .val (.int (0 : Int32))] [])) _
  refine XS.aload X0.here hx rfl (hb hby at_125) rfl rfl ?_
  show Steps p.tables e below (T0.setTop (mkF m 127 #[s0, s1, s2, .val (.int i3), s4, .val (.int i5), .val (.ref o6), .val (.int (0 : Int32)), .val (.int (1 : Int32)), .val (.int (0 : Int32))] [(.ref o6)])) _
  refine st5 _ ?_
  show Steps p.tables e below (T5.setTop (mkF m 130 #[s0, s1, s2, .val (.int i3), s4, .val (.int i5), .val (.ref o6), .val (.int (0 : Int32)), .val (.int (1 : Int32)), .val (.int (0 : Int32))] [(.ref w4), (.ref o6)])) _
  refine Jvm.RoadKit.acmp (g := (mkF m 130 #[s0, s1, s2, .val (.int i3), s4, .val (.int i5), .val (.ref o6), .val (.int (0 : Int32)), .val (.int (1 : Int32)), .val (.int (0 : Int32))] [(.ref w4), (.ref o6)])) X5 hx rfl rfl rfl (pc0 := 130) (pc' := 137) (same := false) rfl (hb hby at_130) rfl (decide_eq_false fun q => ha130 (Value.ref.inj q)) (by decide) (by decide) ?_
  show Steps p.tables e below (T5.setTop (mkF m 137 #[s0, s1, s2, .val (.int i3), s4, .val (.int i5), .val (.ref o6), .val (.int (0 : Int32)), .val (.int (1 : Int32)), .val (.int (0 : Int32))] [])) _
  refine XS.iconst X5.here hx rfl (hb hby at_137) ?_
  show Steps p.tables e below (T5.setTop (mkF m 138 #[s0, s1, s2, .val (.int i3), s4, .val (.int i5), .val (.ref o6), .val (.int (0 : Int32)), .val (.int (1 : Int32)), .val (.int (0 : Int32))] [(.int (0 : Int32))])) _
  refine XS.iload X5.here hx rfl (hb hby at_138) rfl ?_
  show Steps p.tables e below (T5.setTop (mkF m 140 #[s0, s1, s2, .val (.int i3), s4, .val (.int i5), .val (.ref o6), .val (.int (0 : Int32)), .val (.int (1 : Int32)), .val (.int (0 : Int32))] [(.int (0 : Int32)), (.int (0 : Int32))])) _
  refine XS.icmpNo X5.here hx rfl (hb hby at_140) rfl (teq (rfl : (0 : Int32) = (0 : Int32))).2 ?_
  show Steps p.tables e below (T5.setTop (mkF m 143 #[s0, s1, s2, .val (.int i3), s4, .val (.int i5), .val (.ref o6), .val (.int (0 : Int32)), .val (.int (1 : Int32)), .val (.int (0 : Int32))] [])) _
  refine XS.aload X5.here hx rfl (hb hby at_143) rfl rfl ?_
  show Steps p.tables e below (T5.setTop (mkF m 145 #[s0, s1, s2, .val (.int i3), s4, .val (.int i5), .val (.ref o6), .val (.int (0 : Int32)), .val (.int (1 : Int32)), .val (.int (0 : Int32))] [(.ref o6)])) _
  refine st7 _ ?_
  show Steps p.tables e below (T7.setTop (mkF m 148 #[s0, s1, s2, .val (.int i3), s4, .val (.int i5), .val (.ref o6), .val (.int (0 : Int32)), .val (.int (1 : Int32)), .val (.int (0 : Int32))] [(.ref w6), (.ref o6)])) _
  refine Jvm.RoadKit.acmp (g := (mkF m 148 #[s0, s1, s2, .val (.int i3), s4, .val (.int i5), .val (.ref o6), .val (.int (0 : Int32)), .val (.int (1 : Int32)), .val (.int (0 : Int32))] [(.ref w6), (.ref o6)])) X7 hx rfl rfl rfl (pc0 := 148) (pc' := 151) (same := true) rfl (hb hby at_148) rfl (decide_eq_true (congrArg Value.ref ha148)) (by decide) (by decide) ?_
  show Steps p.tables e below (T7.setTop (mkF m 151 #[s0, s1, s2, .val (.int i3), s4, .val (.int i5), .val (.ref o6), .val (.int (0 : Int32)), .val (.int (1 : Int32)), .val (.int (0 : Int32))] [])) _
  refine XS.iconst X7.here hx rfl (hb hby at_151) ?_
  show Steps p.tables e below (T7.setTop (mkF m 152 #[s0, s1, s2, .val (.int i3), s4, .val (.int i5), .val (.ref o6), .val (.int (0 : Int32)), .val (.int (1 : Int32)), .val (.int (0 : Int32))] [(.int (1 : Int32))])) _
  refine XS.goto X7.here hx rfl (pc0 := 152) (pc' := 156) rfl (hb hby at_152) (by decide) (by decide) ?_
  show Steps p.tables e below (T7.setTop (mkF m 156 #[s0, s1, s2, .val (.int i3), s4, .val (.int i5), .val (.ref o6), .val (.int (0 : Int32)), .val (.int (1 : Int32)), .val (.int (0 : Int32))] [(.int (1 : Int32))])) _
  refine XS.iload X7.here hx rfl (hb hby at_156) rfl ?_
  show Steps p.tables e below (T7.setTop (mkF m 158 #[s0, s1, s2, .val (.int i3), s4, .val (.int i5), .val (.ref o6), .val (.int (0 : Int32)), .val (.int (1 : Int32)), .val (.int (0 : Int32))] [(.int (1 : Int32)), (.int (1 : Int32))])) _
  refine XS.icmpNo X7.here hx rfl (hb hby at_158) rfl (teq (rfl : (1 : Int32) = (1 : Int32))).2 ?_
  show Steps p.tables e below (T7.setTop (mkF m 161 #[s0, s1, s2, .val (.int i3), s4, .val (.int i5), .val (.ref o6), .val (.int (0 : Int32)), .val (.int (1 : Int32)), .val (.int (0 : Int32))] [])) _
  refine XS.aload X7.here hx rfl (hb hby at_161) rfl rfl ?_
  show Steps p.tables e below (T7.setTop (mkF m 163 #[s0, s1, s2, .val (.int i3), s4, .val (.int i5), .val (.ref o6), .val (.int (0 : Int32)), .val (.int (1 : Int32)), .val (.int (0 : Int32))] [(.ref o6)])) _
  refine st9 _ ?_
  show Steps p.tables e below (T9.setTop (mkF m 166 #[s0, s1, s2, .val (.int i3), s4, .val (.int i5), .val (.ref o6), .val (.int (0 : Int32)), .val (.int (1 : Int32)), .val (.int (0 : Int32))] [(.ref w8), (.ref o6)])) _
  refine Jvm.RoadKit.acmp (g := (mkF m 166 #[s0, s1, s2, .val (.int i3), s4, .val (.int i5), .val (.ref o6), .val (.int (0 : Int32)), .val (.int (1 : Int32)), .val (.int (0 : Int32))] [(.ref w8), (.ref o6)])) X9 hx rfl rfl rfl (pc0 := 166) (pc' := 173) (same := false) rfl (hb hby at_166) rfl (decide_eq_false fun q => ha166 (Value.ref.inj q)) (by decide) (by decide) ?_
  show Steps p.tables e below (T9.setTop (mkF m 173 #[s0, s1, s2, .val (.int i3), s4, .val (.int i5), .val (.ref o6), .val (.int (0 : Int32)), .val (.int (1 : Int32)), .val (.int (0 : Int32))] [])) _
  refine XS.iconst X9.here hx rfl (hb hby at_173) ?_
  show Steps p.tables e below (T9.setTop (mkF m 174 #[s0, s1, s2, .val (.int i3), s4, .val (.int i5), .val (.ref o6), .val (.int (0 : Int32)), .val (.int (1 : Int32)), .val (.int (0 : Int32))] [(.int (0 : Int32))])) _
  refine XS.iload X9.here hx rfl (hb hby at_174) rfl ?_
  show Steps p.tables e below (T9.setTop (mkF m 176 #[s0, s1, s2, .val (.int i3), s4, .val (.int i5), .val (.ref o6), .val (.int (0 : Int32)), .val (.int (1 : Int32)), .val (.int (0 : Int32))] [(.int (0 : Int32)), (.int (0 : Int32))])) _
  refine XS.icmpNo X9.here hx rfl (hb hby at_176) rfl (teq (rfl : (0 : Int32) = (0 : Int32))).2 ?_
  show Steps p.tables e below (T9.setTop (mkF m 179 #[s0, s1, s2, .val (.int i3), s4, .val (.int i5), .val (.ref o6), .val (.int (0 : Int32)), .val (.int (1 : Int32)), .val (.int (0 : Int32))] [])) _
  refine XS.iconst X9.here hx rfl (hb hby at_179) ?_
  show Steps p.tables e below (T9.setTop (mkF m 180 #[s0, s1, s2, .val (.int i3), s4, .val (.int i5), .val (.ref o6), .val (.int (0 : Int32)), .val (.int (1 : Int32)), .val (.int (0 : Int32))] [(.int (1 : Int32))])) _
  refine XS.goto X9.here hx rfl (pc0 := 180) (pc' := 184) rfl (hb hby at_180) (by decide) (by decide) ?_
  exact kt
set_option maxRecDepth 65536 in
set_option maxHeartbeats 40000000 in
theorem tn0_77_184d {p : Program} {l : Launch} {e : Env} {R : Room} {s : State} {m : MethodId} {args : Array Value} {below : List Frame} {meth : Method} {c : Code} {T0 : State} {locs : List Loc} {cells slots : Nat} {Z : State} {a0 : Array Value} {h0 : Heap} (s0 : Slot) (s1 : Slot) (s2 : Slot) (i3 : Int32) (s4 : Slot) (i5 : Int32) (o6 : Addr) (s7 : Slot) (s8 : Slot) (s9 : Slot) (w4 : Addr) (w6 : Addr) (w8 : Addr)
    (X0 : Stand p l e R s m args below meth c T0 locs cells slots) (hx : p.tables.exec = Jvm.exec) (hZ : Z.Warmed39 s.vm) (hw : ∀ d ∈ tables_1, d.before a0 Z = true) (hby : c.code = code) (hml : c.maxLocals = 10) (hown : s.vm.findClass "com/example/tallygraph/tallygraph/type/OnDemandKindHoldingPinLaw" = some m.cls) (e0 : T0.heap = h0) (hs7 : One s7) (hs8 : One s8) (hs9 : One s9) (S_DATA_VALUES : Sta Z h0 "com/example/tallygraph/tallygraph/type/OnDemandKind" "DATA_VALUES" "Lcom/example/tallygraph/tallygraph/type/OnDemandKind;" (.ref w4)) (S_DATA_OBJECTS : Sta Z h0 "com/example/tallygraph/tallygraph/type/OnDemandKind" "DATA_OBJECTS" "Lcom/example/tallygraph/tallygraph/type/OnDemandKind;" (.ref w6)) (S_VALUES_AND_OBJECTS : Sta Z h0 "com/example/tallygraph/tallygraph/type/OnDemandKind" "VALUES_AND_OBJECTS" "Lcom/example/tallygraph/tallygraph/type/OnDemandKind;" (.ref w8)) (hc79 : ¬ (i5 = (0 : Int32))) (hc90 : (0 : Int32) < i3) (hc96 : ¬ (i5 = i3)) (hc109 : (0 : Int32) < i5) (hc115 : i5 < i3) (ha130 : ¬ (o6 = w4)) (ha148 : ¬ (o6 = w6)) (ha166 : o6 = w8) :
    ∃ (T' : State), Stand p l e R s m args below meth c T' locs cells slots ∧ T'.heap = h0 ∧
      ∀ target, Steps p.tables e below (T'.setTop (mkF m 184 #[s0, s1, s2, .val (.int i3), s4, .val (.int i5), .val (.ref o6), .val (.int (0 : Int32)), .val (.int (0 : Int32)), .val (.int (1 : Int32))] [(.int (1 : Int32))])) target → Steps p.tables e below (T0.setTop (mkF m 77 #[s0, s1, s2, .val (.int i3), s4, .val (.int i5), .val (.ref o6), s7, s8, s9] [])) target := by
  obtain ⟨T5, X5, e5, st5⟩ := getS2 X0 hx hZ hown (host := "") (Or.inl (hw _ (List.mem_of_getElem? (i := 7) rfl))) Via.refl e0 S_DATA_VALUES (g := (mkF m 127 #[s0, s1, s2, .val (.int i3), s4, .val (.int i5), .val (.ref o6), .val (.int (0 : Int32)), .val (.int (0 : Int32)), .val (.int (1 : Int32))] [(.ref o6)])) rfl (hb hby at_127)
  obtain ⟨T7, X7, e7, st7⟩ := getS2 X5 hx hZ hown (host := "") (Or.inl (hw _ (List.mem_of_getElem? (i := 8) rfl))) Via.refl e5 S_DATA_OBJECTS (g := (mkF m 145 #[s0, s1, s2, .val (.int i3), s4, .val (.int i5), .val (.ref o6), .val (.int (0 : Int32)), .val (.int (0 : Int32)), .val (.int (1 : Int32))] [(.ref o6)])) rfl (hb hby at_145)
  obtain ⟨T9, X9, e9, st9⟩ := getS2 X7 hx hZ hown (host := "") (Or.inl (hw _ (List.mem_of_getElem? (i := 10) rfl))) Via.refl e7 S_VALUES_AND_OBJECTS (g := (mkF m 163 #[s0, s1, s2, .val (.int i3), s4, .val (.int i5), .val (.ref o6), .val (.int (0 : Int32)), .val (.int (0 : Int32)), .val (.int (1 : Int32))] [(.ref o6)])) rfl (hb hby at_163)
  refine ⟨T9, X9, e9, fun target kt => ?_⟩
  show Steps p.tables e below (T0.setTop (mkF m 77 #[s0, s1, s2, .val (.int i3), s4, .val (.int i5), .val (.ref o6), s7, s8, s9] [])) _
  refine XS.iload X0.here hx rfl (hb hby at_77) rfl ?_
  show Steps p.tables e below (T0.setTop (mkF m 79 #[s0, s1, s2, .val (.int i3), s4, .val (.int i5), .val (.ref o6), s7, s8, s9] [(.int i5)])) _
  refine XS.ifYes X0.here hx rfl (pc0 := 79) (pc' := 86) rfl (hb hby at_79) rfl ((if0 _ _).trans (feq hc79).2) (by decide) (by decide) ?_
  show Steps p.tables e below (T0.setTop (mkF m 86 #[s0, s1, s2, .val (.int i3), s4, .val (.int i5), .val (.ref o6), s7, s8, s9] [])) _
  refine XS.iconst X0.here hx rfl (hb hby at_86) ?_
  show Steps p.tables e below (T0.setTop (mkF m 87 #[s0, s1, s2, .val (.int i3), s4, .val (.int i5), .val (.ref o6), s7, s8, s9] [(.int (0 : Int32))])) _
  refine XS.istore X0.here hx rfl (hb hby at_87) rfl (l' := #[s0, s1, s2, .val (.int i3), s4, .val (.int i5), .val (.ref o6), .val (.int (0 : Int32)), s8, s9]) (os0_87 hs7) ?_
  show Steps p.tables e below (T0.setTop (mkF m 89 #[s0, s1, s2, .val (.int i3), s4, .val (.int i5), .val (.ref o6), .val (.int (0 : Int32)), s8, s9] [])) _
  refine XS.iloadN X0.here hx rfl (hb hby at_89) rfl ?_
  show Steps p.tables e below (T0.setTop (mkF m 90 #[s0, s1, s2, .val (.int i3), s4, .val (.int i5), .val (.ref o6), .val (.int (0 : Int32)), s8, s9] [(.int i3)])) _
  refine XS.ifNo X0.here hx rfl (hb hby at_90) rfl ((if0 _ _).trans (tlt hc90).2.2.2) ?_
  show Steps p.tables e below (T0.setTop (mkF m 93 #[s0, s1, s2, .val (.int i3), s4, .val (.int i5), .val (.ref o6), .val (.int (0 : Int32)), s8, s9] [])) _
  refine XS.iload X0.here hx rfl (hb hby at_93) rfl ?_
  show Steps p.tables e below (T0.setTop (mkF m 95 #[s0, s1, s2, .val (.int i3), s4, .val (.int i5), .val (.ref o6), .val (.int (0 : Int32)), s8, s9] [(.int i5)])) _
  refine XS.iloadN X0.here hx rfl (hb hby at_95) rfl ?_
  show Steps p.tables e below (T0.setTop (mkF m 96 #[s0, s1, s2, .val (.int i3), s4, .val (.int i5), .val (.ref o6), .val (.int (0 : Int32)), s8, s9] [(.int i3), (.int i5)])) _
  refine XS.icmpYes X0.here hx rfl (pc0 := 96) (pc' := 103) rfl (hb hby at_96) rfl (feq hc96).2 (by decide) (by decide) ?_
  show Steps p.tables e below (T0.setTop (mkF m 103 #[s0, s1, s2, .val (.int i3), s4, .val (.int i5), .val (.ref o6), .val (.int (0 : Int32)), s8, s9] [])) _
  refine XS.iconst X0.here hx rfl (hb hby at_103) ?_
  show Steps p.tables e below (T0.setTop (mkF m 104 #[s0, s1, s2, .val (.int i3), s4, .val (.int i5), .val (.ref o6), .val (.int (0 : Int32)), s8, s9] [(.int (0 : Int32))])) _
  refine XS.istore X0.here hx rfl (hb hby at_104) rfl (l' := #[s0, s1, s2, .val (.int i3), s4, .val (.int i5), .val (.ref o6), .val (.int (0 : Int32)), .val (.int (0 : Int32)), s9]) (os0_104 hs8) ?_
  show Steps p.tables e below (T0.setTop (mkF m 106 #[s0, s1, s2, .val (.int i3), s4, .val (.int i5), .val (.ref o6), .val (.int (0 : Int32)), .val (.int (0 : Int32)), s9] [])) _
  refine XS.iconst X0.here hx rfl (hb hby at_106) ?_
  show Steps p.tables e below (T0.setTop (mkF m 107 #[s0, s1, s2, .val (.int i3), s4, .val (.int i5), .val (.ref o6), .val (.int (0 : Int32)), .val (.int (0 : Int32)), s9] [(.int (0 : Int32))])) _
  refine XS.iload X0.here hx rfl (hb hby at_107) rfl ?_
  show Steps p.tables e below (T0.setTop (mkF m 109 #[s0, s1, s2, .val (.int i3), s4, .val (.int i5), .val (.ref o6), .val (.int (0 : Int32)), .val (.int (0 : Int32)), s9] [(.int i5), (.int (0 : Int32))])) _
  refine XS.icmpNo X0.here hx rfl (hb hby at_109) rfl (tlt hc109).2.1 ?_
  show Steps p.tables e below (T0.setTop (mkF m 112 #[s0, s1, s2, .val (.int i3), s4, .val (.int i5), .val (.ref o6), .val (.int (0 : Int32)), .val (.int (0 : Int32)), s9] [])) _
  refine XS.iload X0.here hx rfl (hb hby at_112) rfl ?_
  show Steps p.tables e below (T0.setTop (mkF m 114 #[s0, s1, s2, .val (.int i3), s4, .val (.int i5), .val (.ref o6), .val (.int (0 : Int32)), .val (.int (0 : Int32)), s9] [(.int i5)])) _
  refine XS.iloadN X0.here hx rfl (hb hby at_114) rfl ?_
  show Steps p.tables e below (T0.setTop (mkF m 115 #[s0, s1, s2, .val (.int i3), s4, .val (.int i5), .val (.ref o6), .val (.int (0 : Int32)), .val (.int (0 : Int32)), s9] [(.int i3), (.int i5)])) _
  refine XS.icmpNo X0.here hx rfl (hb hby at_115) rfl (tlt hc115).2.1 ?_
  show Steps p.tables e below (T0.setTop (mkF m 118 #[s0, s1, s2, .val (.int i3), s4, .val (.int i5), .val (.ref o6), .val (.int (0 : Int32)), .val (.int (0 : Int32)), s9] [])) _
  refine XS.iconst X0.here hx rfl (hb hby at_118) ?_
  show Steps p.tables e below (T0.setTop (mkF m 119 #[s0, s1, s2, .val (.int i3), s4, .val (.int i5), .val (.ref o6), .val (.int (0 : Int32)), .val (.int (0 : Int32)), s9] [(.int (1 : Int32))])) _
  refine XS.goto X0.here hx rfl (pc0 := 119) (pc' := 123) rfl (hb hby at_119) (by decide) (by decide) ?_
  show Steps p.tables e below (T0.setTop (mkF m 123 #[s0, s1, s2, .val (.int i3), s4, .val (.int i5), .val (.ref o6), .val (.int (0 : Int32)), .val (.int (0 : Int32)), s9] [(.int (1 : Int32))])) _
  refine XS.istore X0.here hx rfl (hb hby at_123) rfl (l' := #[s0, s1, s2, .val (.int i3), s4, .val (.int i5), .val (.ref o6), .val (.int (0 : Int32)), .val (.int (0 : Int32)), .val (.int (1 : Int32))]) (os0_123 hs9) ?_
  show Steps p.tables e below (T0.setTop (mkF m 125 #[s0, s1, s2, .val (.int i3), s4, .val (.int i5), .val (.ref o6), .val (.int (0 : Int32)), .val (.int (0 : Int32)), .val (.int (1 : Int32))] [])) _
  refine XS.aload X0.here hx rfl (hb hby at_125) rfl rfl ?_
  show Steps p.tables e below (T0.setTop (mkF m 127 #[s0, s1, s2, .val (.int i3), s4, .val (.int i5), .val (.ref o6), .val (.int (0 : Int32)), .val (.int (0 : Int32)), .val (.int (1 : Int32))] [(.ref o6)])) _
  refine st5 _ ?_
  show Steps p.tables e below (T5.setTop (mkF m 130 #[s0, s1, s2, .val (.int i3), s4, .val (.int i5), .val (.ref o6), .val (.int (0 : Int32)), .val (.int (0 : Int32)), .val (.int (1 : Int32))] [(.ref w4), (.ref o6)])) _
  refine Jvm.RoadKit.acmp (g := (mkF m 130 #[s0, s1, s2, .val (.int i3), s4, .val (.int i5), .val (.ref o6), .val (.int (0 : Int32)), .val (.int (0 : Int32)), .val (.int (1 : Int32))] [(.ref w4), (.ref o6)])) X5 hx rfl rfl rfl (pc0 := 130) (pc' := 137) (same := false) rfl (hb hby at_130) rfl (decide_eq_false fun q => ha130 (Value.ref.inj q)) (by decide) (by decide) ?_
  show Steps p.tables e below (T5.setTop (mkF m 137 #[s0, s1, s2, .val (.int i3), s4, .val (.int i5), .val (.ref o6), .val (.int (0 : Int32)), .val (.int (0 : Int32)), .val (.int (1 : Int32))] [])) _
  refine XS.iconst X5.here hx rfl (hb hby at_137) ?_
  show Steps p.tables e below (T5.setTop (mkF m 138 #[s0, s1, s2, .val (.int i3), s4, .val (.int i5), .val (.ref o6), .val (.int (0 : Int32)), .val (.int (0 : Int32)), .val (.int (1 : Int32))] [(.int (0 : Int32))])) _
  refine XS.iload X5.here hx rfl (hb hby at_138) rfl ?_
  show Steps p.tables e below (T5.setTop (mkF m 140 #[s0, s1, s2, .val (.int i3), s4, .val (.int i5), .val (.ref o6), .val (.int (0 : Int32)), .val (.int (0 : Int32)), .val (.int (1 : Int32))] [(.int (0 : Int32)), (.int (0 : Int32))])) _
  refine XS.icmpNo X5.here hx rfl (hb hby at_140) rfl (teq (rfl : (0 : Int32) = (0 : Int32))).2 ?_
  show Steps p.tables e below (T5.setTop (mkF m 143 #[s0, s1, s2, .val (.int i3), s4, .val (.int i5), .val (.ref o6), .val (.int (0 : Int32)), .val (.int (0 : Int32)), .val (.int (1 : Int32))] [])) _
  refine XS.aload X5.here hx rfl (hb hby at_143) rfl rfl ?_
  show Steps p.tables e below (T5.setTop (mkF m 145 #[s0, s1, s2, .val (.int i3), s4, .val (.int i5), .val (.ref o6), .val (.int (0 : Int32)), .val (.int (0 : Int32)), .val (.int (1 : Int32))] [(.ref o6)])) _
  refine st7 _ ?_
  show Steps p.tables e below (T7.setTop (mkF m 148 #[s0, s1, s2, .val (.int i3), s4, .val (.int i5), .val (.ref o6), .val (.int (0 : Int32)), .val (.int (0 : Int32)), .val (.int (1 : Int32))] [(.ref w6), (.ref o6)])) _
  refine Jvm.RoadKit.acmp (g := (mkF m 148 #[s0, s1, s2, .val (.int i3), s4, .val (.int i5), .val (.ref o6), .val (.int (0 : Int32)), .val (.int (0 : Int32)), .val (.int (1 : Int32))] [(.ref w6), (.ref o6)])) X7 hx rfl rfl rfl (pc0 := 148) (pc' := 155) (same := false) rfl (hb hby at_148) rfl (decide_eq_false fun q => ha148 (Value.ref.inj q)) (by decide) (by decide) ?_
  show Steps p.tables e below (T7.setTop (mkF m 155 #[s0, s1, s2, .val (.int i3), s4, .val (.int i5), .val (.ref o6), .val (.int (0 : Int32)), .val (.int (0 : Int32)), .val (.int (1 : Int32))] [])) _
  refine XS.iconst X7.here hx rfl (hb hby at_155) ?_
  show Steps p.tables e below (T7.setTop (mkF m 156 #[s0, s1, s2, .val (.int i3), s4, .val (.int i5), .val (.ref o6), .val (.int (0 : Int32)), .val (.int (0 : Int32)), .val (.int (1 : Int32))] [(.int (0 : Int32))])) _
  refine XS.iload X7.here hx rfl (hb hby at_156) rfl ?_
  show Steps p.tables e below (T7.setTop (mkF m 158 #[s0, s1, s2, .val (.int i3), s4, .val (.int i5), .val (.ref o6), .val (.int (0 : Int32)), .val (.int (0 : Int32)), .val (.int (1 : Int32))] [(.int (0 : Int32)), (.int (0 : Int32))])) _
  refine XS.icmpNo X7.here hx rfl (hb hby at_158) rfl (teq (rfl : (0 : Int32) = (0 : Int32))).2 ?_
  show Steps p.tables e below (T7.setTop (mkF m 161 #[s0, s1, s2, .val (.int i3), s4, .val (.int i5), .val (.ref o6), .val (.int (0 : Int32)), .val (.int (0 : Int32)), .val (.int (1 : Int32))] [])) _
  refine XS.aload X7.here hx rfl (hb hby at_161) rfl rfl ?_
  show Steps p.tables e below (T7.setTop (mkF m 163 #[s0, s1, s2, .val (.int i3), s4, .val (.int i5), .val (.ref o6), .val (.int (0 : Int32)), .val (.int (0 : Int32)), .val (.int (1 : Int32))] [(.ref o6)])) _
  refine st9 _ ?_
  show Steps p.tables e below (T9.setTop (mkF m 166 #[s0, s1, s2, .val (.int i3), s4, .val (.int i5), .val (.ref o6), .val (.int (0 : Int32)), .val (.int (0 : Int32)), .val (.int (1 : Int32))] [(.ref w8), (.ref o6)])) _
  refine Jvm.RoadKit.acmp (g := (mkF m 166 #[s0, s1, s2, .val (.int i3), s4, .val (.int i5), .val (.ref o6), .val (.int (0 : Int32)), .val (.int (0 : Int32)), .val (.int (1 : Int32))] [(.ref w8), (.ref o6)])) X9 hx rfl rfl rfl (pc0 := 166) (pc' := 169) (same := true) rfl (hb hby at_166) rfl (decide_eq_true (congrArg Value.ref ha166)) (by decide) (by decide) ?_
  show Steps p.tables e below (T9.setTop (mkF m 169 #[s0, s1, s2, .val (.int i3), s4, .val (.int i5), .val (.ref o6), .val (.int (0 : Int32)), .val (.int (0 : Int32)), .val (.int (1 : Int32))] [])) _
  refine XS.iconst X9.here hx rfl (hb hby at_169) ?_
  show Steps p.tables e below (T9.setTop (mkF m 170 #[s0, s1, s2, .val (.int i3), s4, .val (.int i5), .val (.ref o6), .val (.int (0 : Int32)), .val (.int (0 : Int32)), .val (.int (1 : Int32))] [(.int (1 : Int32))])) _
  refine XS.goto X9.here hx rfl (pc0 := 170) (pc' := 174) rfl (hb hby at_170) (by decide) (by decide) ?_
  show Steps p.tables e below (T9.setTop (mkF m 174 #[s0, s1, s2, .val (.int i3), s4, .val (.int i5), .val (.ref o6), .val (.int (0 : Int32)), .val (.int (0 : Int32)), .val (.int (1 : Int32))] [(.int (1 : Int32))])) _
  refine XS.iload X9.here hx rfl (hb hby at_174) rfl ?_
  show Steps p.tables e below (T9.setTop (mkF m 176 #[s0, s1, s2, .val (.int i3), s4, .val (.int i5), .val (.ref o6), .val (.int (0 : Int32)), .val (.int (0 : Int32)), .val (.int (1 : Int32))] [(.int (1 : Int32)), (.int (1 : Int32))])) _
  refine XS.icmpNo X9.here hx rfl (hb hby at_176) rfl (teq (rfl : (1 : Int32) = (1 : Int32))).2 ?_
  show Steps p.tables e below (T9.setTop (mkF m 179 #[s0, s1, s2, .val (.int i3), s4, .val (.int i5), .val (.ref o6), .val (.int (0 : Int32)), .val (.int (0 : Int32)), .val (.int (1 : Int32))] [])) _
  refine XS.iconst X9.here hx rfl (hb hby at_179) ?_
  show Steps p.tables e below (T9.setTop (mkF m 180 #[s0, s1, s2, .val (.int i3), s4, .val (.int i5), .val (.ref o6), .val (.int (0 : Int32)), .val (.int (0 : Int32)), .val (.int (1 : Int32))] [(.int (1 : Int32))])) _
  refine XS.goto X9.here hx rfl (pc0 := 180) (pc' := 184) rfl (hb hby at_180) (by decide) (by decide) ?_
  exact kt

theorem own_77_184 {p : Program} {l : Launch} {e : Env} {R : Room} {s : State} {m : MethodId} {args : Array Value} {below : List Frame} {meth : Method} {c : Code} {T0 : State} {locs : List Loc} {cells slots : Nat} {Z : State} {a0 : Array Value} {h0 : Heap} (s0 : Slot) (s1 : Slot) (s2 : Slot) (i3 : Int32) (s4 : Slot) (i5 : Int32) (o6 : Addr) (s7 : Slot) (s8 : Slot) (s9 : Slot) (w4 : Addr) (w6 : Addr) (w8 : Addr)
    (X0 : Stand p l e R s m args below meth c T0 locs cells slots) (hx : p.tables.exec = Jvm.exec) (hZ : Z.Warmed39 s.vm) (hw : ∀ d ∈ tables_1, d.before a0 Z = true) (hby : c.code = code) (hml : c.maxLocals = 10) (hown : s.vm.findClass "com/example/tallygraph/tallygraph/type/OnDemandKindHoldingPinLaw" = some m.cls) (e0 : T0.heap = h0) (hs7 : One s7) (hs8 : One s8) (hs9 : One s9) (S1 : Sta Z h0 "com/example/tallygraph/tallygraph/type/OnDemandKind" "DATA_VALUES" "Lcom/example/tallygraph/tallygraph/type/OnDemandKind;" (.ref w4)) (S2 : Sta Z h0 "com/example/tallygraph/tallygraph/type/OnDemandKind" "DATA_OBJECTS" "Lcom/example/tallygraph/tallygraph/type/OnDemandKind;" (.ref w6)) (S3 : Sta Z h0 "com/example/tallygraph/tallygraph/type/OnDemandKind" "VALUES_AND_OBJECTS" "Lcom/example/tallygraph/tallygraph/type/OnDemandKind;" (.ref w8)) (n1 : w4 ≠ w6) (n2 : w4 ≠ w8) (n3 : w6 ≠ w8)
    (hb1 : 0 ≤ i5.toInt) (hb2 : i5.toInt ≤ i3.toInt) (H : (i5 = 0 ∧ o6 = w4) ∨ (¬ i5 = 0 ∧ i5 = i3 ∧ o6 = w6) ∨ (¬ i5 = 0 ∧ ¬ i5 = i3 ∧ o6 = w8)) :
    ∃ (T' : State) (Ls : Array Slot), Stand p l e R s m args below meth c T' locs cells slots ∧ T'.heap = h0 ∧
      ∀ target, Steps p.tables e below (T'.setTop (mkF m 184 Ls [(.int (1 : Int32))])) target → Steps p.tables e below (T0.setTop (mkF m 77 #[s0, s1, s2, .val (.int i3), s4, .val (.int i5), .val (.ref o6), s7, s8, s9] [])) target := by
  have i0 : (0 : Int32).toInt = 0 := rfl
  rcases H with ⟨h1, rfl⟩ | ⟨h1, h2, rfl⟩ | ⟨h1, h2, rfl⟩
  · by_cases h3 : (0 : Int32) < i3
    · have h4 : ¬ i5 = i3 := fun q => by rw [← q, h1] at h3; exact absurd h3 (by decide)
      obtain ⟨T', X', e', k⟩ := tn0_77_184b s0 s1 s2 i3 s4 i5 o6 s7 s8 s9 o6 w6 w8 X0 hx hZ hw hby hml hown e0 hs7 hs8 hs9 S1 S2 S3 h1 h3 h4 (by rw [h1]; decide) rfl n1 n2
      exact ⟨T', _, X', e', k⟩
    · obtain ⟨T', X', e', k⟩ := tn0_77_184a s0 s1 s2 i3 s4 i5 o6 s7 s8 s9 o6 w6 w8 X0 hx hZ hw hby hml hown e0 hs7 hs8 hs9 S1 S2 S3 h1 h3 (by rw [h1]; decide) rfl n1 n2
      exact ⟨T', _, X', e', k⟩
  · have h3 : (0 : Int32) < i5 := by
      rw [← Int32.toInt_inj] at h1
      rw [Int32.lt_iff_toInt_lt]; omega
    obtain ⟨T', X', e', k⟩ := tn0_77_184c s0 s1 s2 i3 s4 i5 o6 s7 s8 s9 w4 o6 w8 X0 hx hZ hw hby hml hown e0 hs7 hs8 hs9 S1 S2 S3 h1 (h2 ▸ h3) h2 h3 (by rw [h2, Int32.lt_iff_toInt_lt]; omega) (fun q => n1 q.symm) rfl n3
    exact ⟨T', _, X', e', k⟩
  · have h1' := h1
    have h2' := h2
    rw [← Int32.toInt_inj] at h1' h2'
    have h3 : (0 : Int32) < i5 := by rw [Int32.lt_iff_toInt_lt]; omega
    have h4 : (0 : Int32) < i3 := by rw [Int32.lt_iff_toInt_lt]; omega
    have h5 : i5 < i3 := by rw [Int32.lt_iff_toInt_lt]; omega
    obtain ⟨T', X', e', k⟩ := tn0_77_184d s0 s1 s2 i3 s4 i5 o6 s7 s8 s9 w4 w6 o6 X0 hx hZ hw hby hml hown e0 hs7 hs8 hs9 S1 S2 S3 h1 h4 h2 h3 h5 (fun q => n2 q.symm) (fun q => n3 q.symm) rfl
    exact ⟨T', _, X', e', k⟩

theorem pn_0 : plainName "com/example/tallygraph/tallygraph/type/OnDemandKindHoldingPinLaw" = true := by first | (simp [plainName, overriddenIn]; done) | decide +kernel
theorem ef_0 (m : MethodId) (x0 : Int32) (x1 : Int32) (x2 : Int32) : entryFrame m #[(.int x0), (.int x1), (.int x2)] maxLocals = mkF m 0 #[.val (.int x0), .val (.int x1), .val (.int x2), .unset, .unset, .unset, .unset, .unset, .unset, .unset] [] := by first | (simp [entryFrame, mkF, argsToLocals, Value.category, maxLocals]; done) | rfl
def Q0 (n0 : Nat) (v : Option Value) (L : List Loc) : Prop := v = some (.int (1 : Int32)) ∧ Fr n0 L
set_option maxRecDepth 65536 in
set_option maxHeartbeats 40000000 in
theorem rm0 (l : Launch) (Z : State) (a0 : Array Value) (hw : ∀ d ∈ tables_1, d.before a0 Z = true) (ws : List Jvm.Cond) (p1 : Int32) (p2 : Int32) (p3 : Int32) (w4 w6 w8 : Addr) (h0 : Heap) (n0 : Nat) (Z0 : n0 ≤ h0.size) (S1 : Sta Z h0 "com/example/tallygraph/tallygraph/type/OnDemandKind" "DATA_VALUES" "Lcom/example/tallygraph/tallygraph/type/OnDemandKind;" (.ref w4)) (S2 : Sta Z h0 "com/example/tallygraph/tallygraph/type/OnDemandKind" "DATA_OBJECTS" "Lcom/example/tallygraph/tallygraph/type/OnDemandKind;" (.ref w6)) (S3 : Sta Z h0 "com/example/tallygraph/tallygraph/type/OnDemandKind" "VALUES_AND_OBJECTS" "Lcom/example/tallygraph/tallygraph/type/OnDemandKind;" (.ref w8)) (n1 : w4 ≠ w6) (n2 : w4 ≠ w8) (n3 : w6 ≠ w8) :
    MetFree l x (head1 (Jvm.Cond.code x code maxLocals ret :: ws) room_1) (fun a U => a = #[(.int p1), (.int p2), (.int p3)] ∧ Z.Warmed39 U.vm ∧ U.heap = h0) (fun _ _ _ _ _ => True) (fun _ U o U' => ∃ v L, o = .returned v ∧ Q0 n0 v L ∧ FrameEnd U o U' L room_1.cells room_1.slots) := by
  refine MetFree.of_bodySF (plainFor_of_name pn_0) hisR ?_
  intro p e s m args below meth c s₁ Bd hml0 hP hK
  obtain ⟨rfl, hZ, hh⟩ := hP
  have hx := Bd.exec
  have hby := Bd.bytes
  have hml : c.maxLocals = 10 := hml0
  have hown : s.vm.findClass "com/example/tallygraph/tallygraph/type/OnDemandKindHoldingPinLaw" = some m.cls := findClass_of_methodNamed Bd.named
  have X0 : Stand p l e room_1 s m #[(.int p1), (.int p2), (.int p3)] below meth c s₁ [] 0 0 := Stand.of_body Bd
  have e0 : s₁.heap = h0 := by rw [← hh, Bd.state]; rfl
  have pre0 : ∀ t, Steps p.tables e below (s₁.setTop (mkF m 0 #[.val (.int p1), .val (.int p2), .val (.int p3), .unset, .unset, .unset, .unset, .unset, .unset, .unset] [])) t → Steps p.tables e below (s₁.setTop (entryFrame m #[(.int p1), (.int p2), (.int p3)] maxLocals)) t := fun t k => castTop (ef_0 m p1 p2 p3) k
  obtain ⟨T1, d, X1, e1, ⟨hd1, hd2⟩, st1⟩ := own_10_69 (.val (.int p1)) p2 (.val (.int p3)) (p1 &&& (2147483647 : Int32)) (p3 &&& (3 : Int32)) .unset .unset .unset .unset .unset X0 hx hZ hw hby hml hown e0 One.u (own_v0 p1)
  obtain ⟨w, H1, H2⟩ : ∃ w, own_H Z h0 (p1 &&& (2147483647 : Int32)) d w ∧ ((d = 0 ∧ w = w4) ∨ (¬ d = 0 ∧ d = (p1 &&& (2147483647 : Int32)) ∧ w = w6) ∨ (¬ d = 0 ∧ ¬ d = (p1 &&& (2147483647 : Int32)) ∧ w = w8)) := by
    by_cases q1 : d = 0
    · exact ⟨w4, Or.inl ⟨q1, S1⟩, Or.inl ⟨q1, rfl⟩⟩
    by_cases q2 : d = (p1 &&& (2147483647 : Int32))
    · exact ⟨w6, Or.inr (Or.inl ⟨q1, q2, S2⟩), Or.inr (Or.inl ⟨q1, q2, rfl⟩)⟩
    · exact ⟨w8, Or.inr (Or.inr ⟨q1, q2, S3⟩), Or.inr (Or.inr ⟨q1, q2, rfl⟩)⟩
  obtain ⟨T2, L2, X2, e2, N2, st2⟩ := own_69_77 (.val (.int p1)) (.val (.int p2)) (.val (.int p3)) (p1 &&& (2147483647 : Int32)) (.val (.int (p3 &&& (3 : Int32)))) d .unset .unset .unset .unset w X1 hx hZ hw hby hml hown e1 One.u n0 Z0 H1
  obtain ⟨T3, Ls3, X3, e3, st3⟩ := own_77_184 (.val (.int p1)) (.val (.int p2)) (.val (.int p3)) (p1 &&& (2147483647 : Int32)) (.val (.int (p3 &&& (3 : Int32)))) d w .unset .unset .unset w4 w6 w8 X2 hx hZ hw hby hml hown e2 One.u One.u One.u S1 S2 S3 n1 n2 n3 hd1 hd2 H2
  obtain ⟨fs, hr, hrun, hended, hW, hsame⟩ := X3.leave (v := some (.int (1 : Int32))) (fun h => by rw [Bd.returns] at h; cases h)
  refine ⟨_, _, pre0 _ ?_, hrun, hended, _, _, rfl, ⟨rfl, N2⟩, ⟨_, rfl⟩, hW, hsame.mono (by decide) (by decide)⟩
  show Steps p.tables e below (s₁.setTop (mkF m 0 #[.val (.int p1), .val (.int p2), .val (.int p3), .unset, .unset, .unset, .unset, .unset, .unset, .unset] [])) _
  refine XS.iloadN X0.here hx rfl (hb hby at_0) rfl ?_
  show Steps p.tables e below (s₁.setTop (mkF m 1 #[.val (.int p1), .val (.int p2), .val (.int p3), .unset, .unset, .unset, .unset, .unset, .unset, .unset] [(.int p1)])) _
  refine X0.ldcInt hx hown (mvT hZ (hw _ (List.mem_of_getElem? (i := 0) rfl))) (g := (mkF m 1 #[.val (.int p1), .val (.int p2), .val (.int p3), .unset, .unset, .unset, .unset, .unset, .unset, .unset] [(.int p1)])) rfl (hb hby at_1) _ ?_
  show Steps p.tables e below (s₁.setTop (mkF m 3 #[.val (.int p1), .val (.int p2), .val (.int p3), .unset, .unset, .unset, .unset, .unset, .unset, .unset] [(.int (2147483647 : Int32)), (.int p1)])) _
  refine XS.iand X0.here hx rfl (hb hby at_3) rfl ?_
  show Steps p.tables e below (s₁.setTop (mkF m 4 #[.val (.int p1), .val (.int p2), .val (.int p3), .unset, .unset, .unset, .unset, .unset, .unset, .unset] [(.int (p1 &&& (2147483647 : Int32)))])) _
  refine XS.istoreN X0.here hx rfl (hb hby at_4) rfl (l' := #[.val (.int p1), .val (.int p2), .val (.int p3), .val (.int (p1 &&& (2147483647 : Int32))), .unset, .unset, .unset, .unset, .unset, .unset]) rfl ?_
  show Steps p.tables e below (s₁.setTop (mkF m 5 #[.val (.int p1), .val (.int p2), .val (.int p3), .val (.int (p1 &&& (2147483647 : Int32))), .unset, .unset, .unset, .unset, .unset, .unset] [])) _
  refine XS.iloadN X0.here hx rfl (hb hby at_5) rfl ?_
  show Steps p.tables e below (s₁.setTop (mkF m 6 #[.val (.int p1), .val (.int p2), .val (.int p3), .val (.int (p1 &&& (2147483647 : Int32))), .unset, .unset, .unset, .unset, .unset, .unset] [(.int p3)])) _
  refine XS.iconst X0.here hx rfl (hb hby at_6) ?_
  show Steps p.tables e below (s₁.setTop (mkF m 7 #[.val (.int p1), .val (.int p2), .val (.int p3), .val (.int (p1 &&& (2147483647 : Int32))), .unset, .unset, .unset, .unset, .unset, .unset] [(.int (3 : Int32)), (.int p3)])) _
  refine XS.iand X0.here hx rfl (hb hby at_7) rfl ?_
  show Steps p.tables e below (s₁.setTop (mkF m 8 #[.val (.int p1), .val (.int p2), .val (.int p3), .val (.int (p1 &&& (2147483647 : Int32))), .unset, .unset, .unset, .unset, .unset, .unset] [(.int (p3 &&& (3 : Int32)))])) _
  refine XS.istore X0.here hx rfl (hb hby at_8) rfl (l' := #[.val (.int p1), .val (.int p2), .val (.int p3), .val (.int (p1 &&& (2147483647 : Int32))), .val (.int (p3 &&& (3 : Int32))), .unset, .unset, .unset, .unset, .unset]) rfl ?_
  show Steps p.tables e below (s₁.setTop (mkF m 10 #[.val (.int p1), .val (.int p2), .val (.int p3), .val (.int (p1 &&& (2147483647 : Int32))), .val (.int (p3 &&& (3 : Int32))), .unset, .unset, .unset, .unset, .unset] [])) _
  refine st1 _ ?_
  refine st2 _ ?_
  refine st3 _ ?_
  exact retN X3 hx (t := .boolean) Bd.returns (by simp) (hb hby at_184) hr

theorem own_exa {args : Array Value} {s : State} {t : Term} {C : String} (h : (Jvm.Cond.exactly t C).value args s none s [] = some true) : ∃ a, t.eval args s none [] s = some (.ref a) ∧ Exa s s.heap a C := by
  obtain ⟨a, ev⟩ := exa_v h
  exact ⟨a, ev, Exa.start ev h⟩
theorem own_ord {args : Array Value} {s : State} {t : Term} {a : Addr} {C n : String} {k : Int32} (ev : t.eval args s none [] s = some (.ref a)) (h : (Jvm.Cond.eq (Term.field t C n "I") (Term.int k)).value args s none s [] = some true) : Fld s s.heap a C n "I" (.int k) := by
  obtain ⟨x, y, hx, hy, k1, k2⟩ := cmp_v (Or.inl h)
  obtain rfl : Value.int k = y := Option.some.inj hy
  obtain ⟨z, rfl⟩ := k2
  have e : z = k := gotT (P := z = k) (by simp [Cond.value, hx, hy]) h
  subst e
  exact Fld.start ((fld_at ev).symm.trans hx)

set_option maxRecDepth 65536 in
set_option maxHeartbeats 40000000 in
theorem comes_1 {Post : Tables → Env → Array Value → State → Outcome → State → Prop} (hpost : ∀ tb e args s v u, (limb_1_1.after args s (.returned v) u = true ∧ limb_1_2.after args s (.returned v) u = true ∧ True) → FrameEnd s (.returned v) u (Jvm.fieldLocs frame_1_writes args s ++ Jvm.arrayLocs frame_1_arrays args s ++ Jvm.staticLocs frame_1_statics s) 0 0 → Post tb e args s (.returned v) u) :
    ArmFor flags0 classFile x code maxLocals ret World_1 tables_1 room_1 Calls_1 rest_1 Pre_1 Post := by
  intro l hfl _ _ p e ha hc hk s m args below hf hA hF happ hP
  obtain ⟨hcalls, hrest, hpre⟩ := hP
  obtain ⟨-, -, -, hnamed, -, -, -, hat⟩ := (Spec.applies_iff hf).mp happ
  obtain ⟨hg, hn⟩ := and_e (Cond.before_iff.mp (show (Jvm.Cond.and given_1 narrow_1).before args s = true from hpre))
  obtain ⟨g12, g13⟩ := and_e hg
  obtain ⟨g14, g15⟩ := and_e g13
  obtain ⟨g16, g17⟩ := and_e g15
  obtain ⟨n1, n2⟩ := and_e hn
  obtain ⟨n3, n4⟩ := and_e n2
  obtain ⟨n5, n6⟩ := and_e n4
  obtain ⟨n7, n8⟩ := and_e n6
  obtain ⟨n9, n10⟩ := and_e n8
  obtain ⟨w0, w1, w2, rfl⟩ : ∃ w0 w1 w2 : Value, args = #[w0, w1, w2] := by
    have hs : args.size = 3 := by simpa [Cond.value, given_1] using g12
    obtain ⟨L⟩ := args
    match L, hs with
    | [w0, w1, w2], _ => exact ⟨w0, w1, w2, rfl⟩
  have hw := fun d (hd : d ∈ tables_1) => atoms_spec (ws := Jvm.Cond.code x code maxLocals ret :: tables_1) hat d (List.mem_cons_of_mem _ hd)
  obtain ⟨i0, ei0⟩ := is_v g14
  obtain rfl : w0 = (.int i0) := Option.some.inj ei0
  obtain ⟨i1, ei1⟩ := is_v g16
  obtain rfl : w1 = (.int i1) := Option.some.inj ei1
  obtain ⟨i2, ei2⟩ := is_v g17
  obtain rfl : w2 = (.int i2) := Option.some.inj ei2
  obtain ⟨a1, v1, E1⟩ := own_exa n1
  obtain ⟨a2, v2, E2⟩ := own_exa n3
  obtain ⟨a3, v3, E3⟩ := own_exa n9
  have F1 := own_ord v1 n5
  have F2 := own_ord v2 n7
  have F3 := own_ord v3 n10
  have S1 := Sta.start v1 (Or.inr ⟨hw _ (List.mem_of_getElem? (i := 3) rfl), hw _ (List.mem_of_getElem? (i := 6) rfl)⟩)
  have S2 := Sta.start v2 (Or.inr ⟨hw _ (List.mem_of_getElem? (i := 3) rfl), hw _ (List.mem_of_getElem? (i := 9) rfl)⟩)
  have S3 := Sta.start v3 (Or.inr ⟨hw _ (List.mem_of_getElem? (i := 3) rfl), hw _ (List.mem_of_getElem? (i := 11) rfl)⟩)
  have d12 : a1 ≠ a2 := Fld.ne F1 F2 (fun q => absurd (Value.int.inj q) (by decide))
  have d13 : a1 ≠ a3 := Fld.ne F1 F3 (fun q => absurd (Value.int.inj q) (by decide))
  have d23 : a2 ≠ a3 := Fld.ne F2 F3 (fun q => absurd (Value.int.inj q) (by decide))
  obtain ⟨n, o, h1, h2, h3, _, L, rfl, ⟨rfl, N⟩, hq⟩ := rm0 l s _ hw tables_1 i0 i1 i2 a1 a2 a3 s.heap s.heap.size (Nat.le_refl _) S1 S2 S3 d12 d13 d23 p e ha hc hk s m _ below hf ((Spec.applies_iff_loose hf).mp happ).1 ⟨rfl, State.Warmed39.refl s, rfl⟩ trivial
  refine ⟨n, _, h1, h2, h3, hpost _ _ _ _ _ _ ⟨Cond.after_iff.mpr rfl, Cond.after_iff.mpr (eq_i res_at (Term.int_eval (1)) rfl), trivial⟩ ⟨hq.1, hq.2.1, (hq.2.2.sift fun y hy => Or.inr (N y hy)).mono (by decide) (by decide)⟩⟩
theorem main_1_1 : Claimed_1_1 := comes_1 fun _ _ _ _ _ _ h hF => ⟨h.1, hF⟩
theorem main_1_2 : Claimed_1_2 := comes_1 fun _ _ _ _ _ _ h hF => ⟨h.2.1, hF⟩
end Jvm.Pilot.@@N@@
namespace Jvm.Pilot.@@N@@
open Jvm Jvm.ClassFile Sem Op Lib Jvm.Free Jvm.Stand Jvm.Pilot.@@N@@.Jvm.D
/-! MADE BY PROGRAM (witnessworld.py) out of the Statement's table words and the real class files: 10 classes; the members and pool entries that the words name. The judged class is class 1, her method 1. -/
namespace start1
open Jvm.ClassFile
def u (s : String) : CpInfo := .utf8 (stringToUtf16 s)
/-- a pool by its gaps: so many unusable entries, then the entry; so many at the end -/
def gap : Nat → List CpInfo → List CpInfo
  | 0, r => r
  | n + 1, r => .unusable :: gap n r
def poolList (es : List (Nat × CpInfo)) (last : Nat) : List CpInfo := es.foldr (fun e r => gap e.1 (e.2 :: r)) (gap last [])
def pool (es : List (Nat × CpInfo)) (last : Nat) : Array CpInfo := ⟨poolList es last⟩
def fileOf (pool : Array CpInfo) (this : Nat) (attrs : Array Attribute := #[]) (ms : Array MethodInfo := #[]) (fl : Nat := 33) (sup : Nat := 0) (ifs : Array Nat := #[]) (fds : Array FieldInfo := #[]) : ClassFile where
  minorVersion := 0
  majorVersion := 65
  constantPool := pool
  accessFlags := fl
  thisClass := this
  superClass := sup
  interfaces := ifs
  fields := fds
  methods := ms
  attributes := attrs
def plain (name : String) (sup : Option ClassId) : Class where
  name := name
  kind := .ordinary
  loader := none
  accessFlags := 33
  super := sup
  interfaces := #[]
  cf := none
  fields := #[]
  methods := #[]
  instanceTypes := #[]
  staticTypes := #[]
  resolved := #[]
  callSites := []
  init := .initialized
  statics := none
  mirror := none

def pool0 : Array CpInfo := pool [(5, u "<init>"), (0, u "()V"), (1, .class_ 10), (1, u "java/lang/Object")] 113

def k0m0 : Method := { name := "<init>", desc := "()V", sig := { parameters := [], returnType := none }, accessFlags := 1, code := none }
/-- java/lang/Object -/
def k0 : Class := { plain "java/lang/Object" none with
  accessFlags := 33
  interfaces := #[]
  cf := some (fileOf pool0 8 #[] #[{ accessFlags := 1, nameIndex := 5, descriptorIndex := 6, attributes := #[] }] 33 0 #[] #[])
  fields := #[]
  methods := #[k0m0]
  instanceTypes := #[]
  staticTypes := #[]
  resolved := Array.replicate 124 none
  statics := none }

def pool1 : Array CpInfo := pool [(2, .class_ 4), (1, u "java/lang/Object"), (0, u "<init>"), (0, u "()V"), (0, .integer 2147483647), (0, .long 2147483647), (1, .methodref 11 12), (0, .class_ 13), (0, .nameAndType 14 15), (0, u "com/example/tallygraph/tallygraph/type/OnDemandKind"), (0, u "holding"), (0, u "(II)Lcom/example/tallygraph/tallygraph/type/OnDemandKind;"), (0, .fieldref 11 17), (0, .nameAndType 18 19), (0, u "DATA_VALUES"), (0, u "Lcom/example/tallygraph/tallygraph/type/OnDemandKind;"), (0, .fieldref 11 21), (0, .nameAndType 22 19), (0, u "DATA_OBJECTS"), (0, .fieldref 11 24), (0, .nameAndType 25 19), (0, u "VALUES_AND_OBJECTS"), (0, .class_ 27), (0, u "com/example/tallygraph/tallygraph/type/OnDemandKindHoldingPinLaw"), (2, u "law"), (0, u "(III)Z")] 3

def k1m0 : Method := { name := "<init>", desc := "()V", sig := { parameters := [], returnType := none }, accessFlags := 1, code := none }
def k1c1 : Code := { maxStack := 6, maxLocals := 10, code := code, exceptionTable := #[], attributes := #[] }
def k1m1 : Method := { name := "law", desc := "(III)Z", sig := { parameters := [.int, .int, .int], returnType := some .boolean }, accessFlags := 9, code := some k1c1 }
/-- com/example/tallygraph/tallygraph/type/OnDemandKindHoldingPinLaw -/
def k1 : Class := { plain "com/example/tallygraph/tallygraph/type/OnDemandKindHoldingPinLaw" (some 0) with
  accessFlags := 49
  interfaces := #[]
  cf := some (fileOf pool1 26 #[] #[{ accessFlags := 1, nameIndex := 5, descriptorIndex := 6, attributes := #[] }, { accessFlags := 9, nameIndex := 30, descriptorIndex := 31, attributes := #[] }] 49 2 #[] #[])
  fields := #[]
  methods := #[k1m0, k1m1]
  instanceTypes := #[]
  staticTypes := #[]
  resolved := Array.replicate 35 none
  statics := none }

def pool2 : Array CpInfo := pool [(1, .class_ 2), (0, u "java/lang/constant/Constable"), (0, .class_ 4), (0, u "java/lang/Object")] 6

/-- java/lang/constant/Constable -/
def k2 : Class := { plain "java/lang/constant/Constable" (some 0) with
  accessFlags := 1537
  interfaces := #[]
  cf := some (fileOf pool2 1 #[] #[] 1537 3 #[] #[])
  fields := #[]
  methods := #[]
  instanceTypes := #[]
  staticTypes := #[]
  resolved := Array.replicate 11 none
  statics := none }

def pool3 : Array CpInfo := pool [(1, .class_ 2), (0, u "java/lang/Comparable"), (0, .class_ 4), (0, u "java/lang/Object")] 7

/-- java/lang/Comparable -/
def k3 : Class := { plain "java/lang/Comparable" (some 0) with
  accessFlags := 1537
  interfaces := #[]
  cf := some (fileOf pool3 1 #[] #[] 1537 3 #[] #[])
  fields := #[]
  methods := #[]
  instanceTypes := #[]
  staticTypes := #[]
  resolved := Array.replicate 12 none
  statics := none }

def pool4 : Array CpInfo := pool [(1, .class_ 2), (0, u "java/io/Serializable"), (0, .class_ 4), (0, u "java/lang/Object")] 2

/-- java/io/Serializable -/
def k4 : Class := { plain "java/io/Serializable" (some 0) with
  accessFlags := 1537
  interfaces := #[]
  cf := some (fileOf pool4 1 #[] #[] 1537 3 #[] #[])
  fields := #[]
  methods := #[]
  instanceTypes := #[]
  staticTypes := #[]
  resolved := Array.replicate 7 none
  statics := none }

def pool5 : Array CpInfo := pool [(2, .class_ 4), (1, u "java/lang/Enum"), (0, u "name"), (0, u "Ljava/lang/String;"), (2, u "ordinal"), (0, u "I"), (1, .class_ 14), (1, u "java/lang/Object"), (4, u "hash"), (86, .class_ 108), (1, u "java/lang/Enum$EnumDesc"), (2, .class_ 112), (0, u "java/lang/constant/Constable"), (0, .class_ 114), (0, u "java/lang/Comparable"), (0, .class_ 116), (0, u "java/io/Serializable")] 87

/-- java/lang/Enum -/
def k5 : Class := { plain "java/lang/Enum" (some 0) with
  accessFlags := 1057
  interfaces := #[2, 3, 4]
  cf := some (fileOf pool5 2 #[.nestMembers #[106]] #[] 1057 12 #[111, 113, 115] #[{ accessFlags := 18, nameIndex := 5, descriptorIndex := 6, attributes := #[] }, { accessFlags := 18, nameIndex := 9, descriptorIndex := 10, attributes := #[] }, { accessFlags := 2, nameIndex := 19, descriptorIndex := 10, attributes := #[] }])
  fields := #[{ name := "name", type := (.object "java/lang/String"), accessFlags := 18, slot := 0, constantValue := 0 }, { name := "ordinal", type := .int, accessFlags := 18, slot := 1, constantValue := 0 }, { name := "hash", type := .int, accessFlags := 2, slot := 2, constantValue := 0 }]
  methods := #[]
  instanceTypes := #[(.object "java/lang/String"), .int, .int]
  staticTypes := #[]
  resolved := Array.replicate 204 none
  statics := none }

def pool6 : Array CpInfo := pool [(1, .class_ 2), (0, u "com/example/tallygraph/tallygraph/type/OnDemandKind"), (0, .fieldref 1 4), (0, .nameAndType 5 6), (0, u "DATA_VALUES"), (0, u "Lcom/example/tallygraph/tallygraph/type/OnDemandKind;"), (0, .fieldref 1 8), (0, .nameAndType 9 6), (0, u "DATA_OBJECTS"), (0, .fieldref 1 11), (0, .nameAndType 12 6), (0, u "VALUES_AND_OBJECTS"), (2, u "$VALUES"), (0, u "[Lcom/example/tallygraph/tallygraph/type/OnDemandKind;"), (6, .class_ 25), (1, u "java/lang/Enum"), (21, u "holding"), (0, u "(II)Lcom/example/tallygraph/tallygraph/type/OnDemandKind;")] 5

def k6c0 : Code := { maxStack := 2, maxLocals := 3, code := prog_52_method_4_code, exceptionTable := #[], attributes := #[] }
def k6m0 : Method := { name := "holding", desc := "(II)Lcom/example/tallygraph/tallygraph/type/OnDemandKind;", sig := { parameters := [.int, .int], returnType := some (.object "com/example/tallygraph/tallygraph/type/OnDemandKind") }, accessFlags := 9, code := some k6c0 }
/-- com/example/tallygraph/tallygraph/type/OnDemandKind -/
def k6 : Class := { plain "com/example/tallygraph/tallygraph/type/OnDemandKind" (some 5) with
  accessFlags := 16433
  interfaces := #[]
  cf := some (fileOf pool6 1 #[] #[{ accessFlags := 9, nameIndex := 47, descriptorIndex := 48, attributes := #[] }] 16433 23 #[] #[{ accessFlags := 16409, nameIndex := 5, descriptorIndex := 6, attributes := #[] }, { accessFlags := 16409, nameIndex := 9, descriptorIndex := 6, attributes := #[] }, { accessFlags := 16409, nameIndex := 12, descriptorIndex := 6, attributes := #[] }, { accessFlags := 4122, nameIndex := 15, descriptorIndex := 16, attributes := #[] }])
  fields := #[{ name := "DATA_VALUES", type := (.object "com/example/tallygraph/tallygraph/type/OnDemandKind"), accessFlags := 16409, slot := 0, constantValue := 0 }, { name := "DATA_OBJECTS", type := (.object "com/example/tallygraph/tallygraph/type/OnDemandKind"), accessFlags := 16409, slot := 1, constantValue := 0 }, { name := "VALUES_AND_OBJECTS", type := (.object "com/example/tallygraph/tallygraph/type/OnDemandKind"), accessFlags := 16409, slot := 2, constantValue := 0 }, { name := "$VALUES", type := (.array (.object "com/example/tallygraph/tallygraph/type/OnDemandKind")), accessFlags := 4122, slot := 3, constantValue := 0 }]
  methods := #[k6m0]
  instanceTypes := #[(.object "java/lang/String"), .int, .int]
  staticTypes := #[(.object "com/example/tallygraph/tallygraph/type/OnDemandKind"), (.object "com/example/tallygraph/tallygraph/type/OnDemandKind"), (.object "com/example/tallygraph/tallygraph/type/OnDemandKind"), (.array (.object "com/example/tallygraph/tallygraph/type/OnDemandKind"))]
  resolved := Array.replicate 54 none
  statics := some 0 }

def pool7 : Array CpInfo := pool [(1, u "java/lang/Cloneable"), (0, .class_ 1), (0, u "java/lang/Object"), (0, .class_ 3)] 3

/-- java/lang/Cloneable -/
def k7 : Class := { plain "java/lang/Cloneable" (some 0) with
  accessFlags := 1537
  interfaces := #[]
  cf := some (fileOf pool7 2 #[] #[] 1537 4 #[] #[])
  fields := #[]
  methods := #[]
  instanceTypes := #[]
  staticTypes := #[]
  resolved := Array.replicate 8 none
  statics := none }

/-- the primitive byte -/
def k8 : Class := { plain "byte" none with kind := .primitive 'B', accessFlags := 0x411 }
/-- [B -/
def k9 : Class := { plain "[B" (some 0) with kind := .array 8 .byte, interfaces := #[7, 4], accessFlags := 1041 }

def heap : Heap := #[{ cls := 6, slots := #[.ref 1, .ref 2, .ref 3, .null], vm := .statics 6 },
  { cls := 6, slots := #[.null, .int 0, .int 0], vm := .none },
  { cls := 6, slots := #[.null, .int 1, .int 0], vm := .none },
  { cls := 6, slots := #[.null, .int 2, .int 0], vm := .none }]
def classes : Array Class := #[k0, k1, k2, k3, k4, k5, k6, k7, k8, k9]
def interned : List (Array UInt16 × Addr) := []
def slotsUsed : Nat := 13
def theMethod : MethodId := ⟨1, 1⟩
def args0 : Array Value := #[.int 5, .int 3, .int 3]
def aboutOver (below : List Frame) : State where
  vm := { classes := classes, interned := interned.toArray }
  heap := heap
  slotsUsed := slotsUsed
  threads := #[{ frames := .invoking theMethod args0 :: below }]
def below0 : List Frame := [.native { method := ⟨0, 0⟩, args := #[] }]
def about1 : State := aboutOver below0
def p0 : Program := .bare "" "" ""
def e0 : Env := launch0.env 0 0 0
theorem w_frames : about1.frames = Frame.invoking theMethod args0 :: below0 := rfl
set_option maxRecDepth 65536 in
theorem w_args : argsFit about1.vm theMethod args0 = true := by decide +kernel
set_option maxRecDepth 65536 in
theorem w_heap : heapFits about1 = true := by decide +kernel
set_option maxRecDepth 65536 in
theorem w_runnable : about1.curStatus? = some .runnable := by decide +kernel
set_option maxRecDepth 65536 in
theorem w_alone : about1.alone = true := by decide +kernel
set_option maxRecDepth 65536 in
theorem w_named : about1.methodNamed? x = some theMethod := by decide +kernel
set_option maxRecDepth 65536 in
theorem w_hears : about1.hears theMethod below0 = true := by decide +kernel
set_option maxRecDepth 65536 in
theorem w_ripe : about1.ripe theMethod args0 below0 = true := by decide +kernel
theorem w_running : about1.status = .running := rfl
set_option maxRecDepth 65536 in
theorem w_room : about1.hasRoom e0.platform room_1 = true :=
  launch0.hasRoom_least _ room_1 (by decide +kernel) (by decide +kernel) (by decide +kernel) (by decide +kernel) (by decide +kernel) (by decide +kernel)
theorem allAtoms_all (ts : List Jvm.Cond) (a : Array Jvm.Value) (st : Jvm.State) : (allAtoms ts).before a st = ts.all (fun c => c.before a st) := by
  induction ts with
  | nil => rfl
  | cons c t ih =>
    show (Jvm.Cond.and c (allAtoms t)).before a st = _
    rw [Jvm.Cond.before_and, ih, List.all_cons]
def words1 : List Jvm.Cond := Jvm.Cond.code x code maxLocals ret :: tables_1
/-- a 'code' word, met by the world's own term for the bytes: nothing is compared byte by byte -/
theorem code_word {y : MethodName} {bytes : ByteArray} {mx : Nat} {rt : Option FieldType} {a : Array Value} {s : State} {m : MethodId} {meth : Method} {c : Code} (h1 : s.methodNamed? y = some m) (h2 : s.vm.method? m = some meth) (h3 : meth.code = some c) (h4 : c.code = bytes)
    (h5 : (c.maxLocals == mx && c.exceptionTable.isEmpty && decide (c.maxStack ≤ mostOperands) && decide (meth.sig.returnType = rt) && !meth.locks && decide (parseMethodDescriptor y.desc = some meth.sig)) = true) : (Jvm.Cond.code y bytes mx rt).before a s = true := by
  simp only [Bool.and_eq_true, beq_iff_eq, Bool.not_eq_true', decide_eq_true_eq] at h5
  obtain ⟨⟨⟨⟨⟨g1, g2⟩, g3⟩, g4⟩, g5⟩, g6⟩ := h5
  simp [Cond.before, Cond.holds, Cond.value, h1, h2, h3, h4, g1, g2, g3, g4, g5, g6]
def isCode : Jvm.Cond → Bool
  | .code _ _ _ _ => true
  | _ => false
theorem all_split {L : List Jvm.Cond} {P : Jvm.Cond → Bool} (h1 : L.all (fun c => isCode c || P c) = true) (h2 : ∀ c ∈ L.filter isCode, P c = true) : L.all P = true := by
  refine List.all_eq_true.mpr fun c hc => ?_
  have h := List.all_eq_true.mp h1 c hc
  rcases Bool.eq_false_or_eq_true (isCode c) with hi | hi
  · exact h2 c (List.mem_filter.mpr ⟨hc, hi⟩)
  · simpa [hi] using h
set_option maxRecDepth 65536 in
theorem w_c0 : (Jvm.Cond.code x code maxLocals ret).before args0 about1 = true := code_word (m := ⟨1, 1⟩) (meth := k1m1) (c := k1c1) (by decide +kernel) rfl rfl rfl (by decide +kernel)
set_option maxRecDepth 65536 in
theorem w_c1 : (Jvm.Cond.code ({ cls := "com/example/tallygraph/tallygraph/type/OnDemandKind", name := "holding", desc := "(II)Lcom/example/tallygraph/tallygraph/type/OnDemandKind;" } : Jvm.MethodName) prog_52_method_4_code (3 : Nat) (Option.some (Jvm.ClassFile.FieldType.object "com/example/tallygraph/tallygraph/type/OnDemandKind"))).before args0 about1 = true := code_word (m := ⟨6, 0⟩) (meth := k6m0) (c := k6c0) (by decide +kernel) rfl rfl rfl (by decide +kernel)
def codes1 : List Jvm.Cond := [Jvm.Cond.code x code maxLocals ret, Jvm.Cond.code ({ cls := "com/example/tallygraph/tallygraph/type/OnDemandKind", name := "holding", desc := "(II)Lcom/example/tallygraph/tallygraph/type/OnDemandKind;" } : Jvm.MethodName) prog_52_method_4_code (3 : Nat) (Option.some (Jvm.ClassFile.FieldType.object "com/example/tallygraph/tallygraph/type/OnDemandKind"))]
set_option maxRecDepth 65536 in
theorem codes_eq : words1.filter isCode = codes1 := rfl
theorem w_codes : ∀ c ∈ words1.filter isCode, c.before args0 about1 = true := by
  rw [codes_eq]
  intro c hc
  simp only [codes1, List.mem_cons, List.not_mem_nil, or_false] at hc
  rcases hc with rfl | rfl
  · exact w_c0
  · exact w_c1
set_option maxRecDepth 65536 in
theorem w_t1 : words1.all (fun c => isCode c || c.before args0 about1) = true := by decide +kernel
theorem w_tables : (allAtoms (Jvm.Cond.code x code maxLocals ret :: tables_1)).before args0 about1 = true := by
  rw [allAtoms_all]
  show words1.all (fun c => c.before args0 about1) = true
  refine all_split ?_ w_codes
  rw [w_t1]
set_option maxRecDepth 65536 in
theorem w_case : (Jvm.Cond.and given_1 narrow_1).before args0 about1 = true := by decide +kernel
theorem w_applies : (headSpec (Jvm.Cond.code x code maxLocals ret :: tables_1) room_1).applies x e0.platform about1 = true :=
  (Spec.applies_iff w_frames).mpr ⟨w_running, w_runnable, w_alone, w_named, w_hears, w_ripe, w_room, w_tables⟩
theorem atStart : AtStart classFile x code maxLocals ret World_1 tables_1 room_1 Calls_1 rest_1 Pre_1 launch0 p0 e0 about1 theMethod args0 below0 :=
  ⟨lists_1, trivial, launch0.admits_env _ _ _, launch0.least_env, fairChoices_fair.cas, fairChoices_fair.clock, w_frames, w_args, w_heap, w_applies, trivial, trivial, w_case⟩
end start1
theorem witness_1 : WitnessClaimed_1 := ⟨start1.p0, start1.e0, start1.about1, start1.theMethod, start1.args0, start1.below0, start1.atStart⟩
end Jvm.Pilot.@@N@@
