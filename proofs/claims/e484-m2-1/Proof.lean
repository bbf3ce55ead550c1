import JvmDerived
import JvmDerived.Pilot.@@N@@Statement
import JvmDerived.Pilot.@@N@@Code
set_option linter.unusedVariables false
set_option linter.unusedSimpArgs false
namespace Jvm.RoadKit
open Sem ClassFile Op Lib Jvm.Stand Jvm.Free Jvm.LawKit
section New
variable {p : Program} {l : Launch} {e : Env} {R : Room} {s : State} {m : MethodId} {args : Array Value} {below : List Frame} {meth : Method} {c : Code} {T : State} {locs : List Loc} {cells slots : Nat}
theorem retI (X : Stand p l e R s m args below meth c T locs cells slots) (hx : p.tables.exec = Jvm.exec) {pc : Nat} {Ls : Array Slot} {z : Int32} {rest : List Value} (hret : meth.sig.returnType = some .int) (hd : decode c.code pc = .ok (.ireturn, 1)) {fs : List Frame}
    (hl : ∀ (f : JFrame) (acts : List Action), f.method = m → f.locked = none → f.entered = [] → (doReturn e (T.setTop f) acts (some (.int z))).1 = T.setFrames fs) : Steps p.tables e below (T.setTop (mkF m pc Ls (.int z :: rest))) (T.setFrames fs) := by
  have hm' : T.vm.method? m = some meth := X.method'
  have hn : narrow .int (.int z) = .int z := rfl
  show Steps p.tables e below (T.setTop { method := m, pc := pc, locals := Ls, stack := _ :: rest, locked := none }) _
  jvm_step X.here [X.here.top, hx, hd, hm', hret, hn]
  first | (intro acts; rw [hl _ acts rfl rfl rfl]) | rw [hl _ _ rfl rfl rfl]
  exact Steps.refl _
end New
end Jvm.RoadKit
namespace Jvm.Pilot.@@N@@
open Jvm Jvm.ClassFile Sem Op Lib Jvm.Free Jvm.Stand Jvm.LawKit Jvm.RoadKit Bundle Jvm.Pilot.@@N@@.Jvm.D

theorem own_lt (a b : Int64) : lcmpW a b < 0 ↔ a < b := by rw [lcW]; exact lc_lt a b
theorem own_gt (a b : Int64) : 0 < lcmpW a b ↔ b < a := by rw [lcW]; exact lc_gt a b
theorem own_eq (a b : Int64) : lcmpW a b = 0 ↔ a = b := by rw [lcW]; exact lc_eq a b
def own_r (q mn mx : Int64) : Int32 := if q < mn then 0 else if mx < q then 0 else 1
theorem own_r1 {q mn mx : Int64} (h1 : q < mn) : own_r q mn mx = 0 := by simp [own_r, h1]
theorem own_r2 {q mn mx : Int64} (h1 : ¬ q < mn) (h2 : mx < q) : own_r q mn mx = 0 := by simp [own_r, h1, h2]
theorem own_r3 {q mn mx : Int64} (h1 : ¬ q < mn) (h2 : ¬ mx < q) : own_r q mn mx = 1 := by simp [own_r, h1, h2]
theorem d1_0 : decode prog_284_method_4_code 0 = .ok (.lload_n 1, 1) := by decide +kernel
theorem d1_1 : decode prog_284_method_4_code 1 = .ok (.aload_n 0, 1) := by decide +kernel
theorem d1_2 : decode prog_284_method_4_code 2 = .ok (.getfield 38, 3) := by decide +kernel
theorem d1_5 : decode prog_284_method_4_code 5 = .ok (.lcmp, 1) := by decide +kernel
theorem d1_6 : decode prog_284_method_4_code 6 = .ok (.ifCond .lt 16, 3) := by decide +kernel
theorem d1_22 : decode prog_284_method_4_code 22 = .ok (.iconst 0, 1) := by decide +kernel
theorem d1_23 : decode prog_284_method_4_code 23 = .ok (.ireturn, 1) := by decide +kernel
theorem pn_1 : plainName "com/example/iron_axis/ironaxis/parser/Occurrence" = true := by first | (simp [plainName, overriddenIn]; done) | decide +kernel
theorem ef_1 (m : MethodId) (x0 : Addr) (x1 : Int64) : entryFrame m #[(.ref x0), (.long x1)] 3 = mkF m 0 #[.val (.ref x0), .val (.long x1), .second] [] := by first | (simp [entryFrame, mkF, argsToLocals, Value.category]; done) | rfl
def Q1a (Z : State) (a1 : Addr) (q2 : Int64) (w3 : Int64) (h0 : Heap) (n0 : Nat) (v : Option Value) (h : Heap) (L : List Loc) : Prop := v = some (.int (0 : Int32)) ∧ Fr n0 L ∧ h = h0
set_option maxRecDepth 65536 in
set_option maxHeartbeats 40000000 in
theorem rm1a (l : Launch) (Z : State) (a0 : Array Value) (hw : ∀ d ∈ tables_1, d.before a0 Z = true) (ws : List Jvm.Cond) (a1 : Addr) (q2 : Int64) (w3 : Int64) (h0 : Heap) (n0 : Nat) (Z0 : n0 ≤ h0.size) (F_min_a1 : Fld Z h0 a1 "com/example/iron_axis/ironaxis/parser/Occurrence" "min" "J" (.long w3)) (hc6 : (lcmpW q2 w3) < (0 : Int32)) :
    MetFree l (⟨"com/example/iron_axis/ironaxis/parser/Occurrence", "allows", "(J)Z"⟩ : MethodName) (head1 (Jvm.Cond.code (⟨"com/example/iron_axis/ironaxis/parser/Occurrence", "allows", "(J)Z"⟩ : MethodName) prog_284_method_4_code 3 (some .boolean) :: ws) ({ frames := 0, cells := 0, slots := 0, locals := 0 } : Room)) (fun a U => a = #[(.ref a1), (.long q2)] ∧ Z.Warmed39 U.vm ∧ U.heap = h0) (fun _ _ _ _ _ => True) (fun _ U o U' => ∃ v L, o = .returned v ∧ Q1a Z a1 q2 w3 h0 n0 v U'.heap L ∧ FrameEnd U o U' L ({ frames := 0, cells := 0, slots := 0, locals := 0 } : Room).cells ({ frames := 0, cells := 0, slots := 0, locals := 0 } : Room).slots) := by
  refine MetFree.of_bodySF (plainFor_of_name pn_1) hisR ?_
  intro p e s m args below meth c s₁ Bd hml0 hP hK
  obtain ⟨rfl, hZ, hh⟩ := hP
  have hx := Bd.exec
  have hby := Bd.bytes
  have hml : c.maxLocals = 3 := hml0
  have hown : s.vm.findClass "com/example/iron_axis/ironaxis/parser/Occurrence" = some m.cls := findClass_of_methodNamed Bd.named
  have hnm := (name_of_methodNamed Bd.named Bd.method).1
  have X0 : Stand p l e ({ frames := 0, cells := 0, slots := 0, locals := 0 } : Room) s m #[(.ref a1), (.long q2)] below meth c s₁ [] 0 0 := Stand.of_body Bd
  have e0 : s₁.heap = h0 := by rw [← hh, Bd.state]; rfl
  have N0 := Fr.nil n0
  have pre0 : ∀ t, Steps p.tables e below (s₁.setTop (mkF m 0 #[.val (.ref a1), .val (.long q2), .second] [])) t → Steps p.tables e below (s₁.setTop (entryFrame m #[(.ref a1), (.long q2)] 3)) t := fun t k => castTop (ef_1 m a1 q2) k
  obtain ⟨T4, X4, e4, st4⟩ := getF X0 hx hZ hown (host := "") (Or.inl (hw _ (List.mem_of_getElem? (i := 10) rfl))) Via.refl e0 F_min_a1 (g := (mkF m 2 #[.val (.ref a1), .val (.long q2), .second] [(.ref a1), (.long q2)])) rfl rfl (hb hby d1_2)
  obtain ⟨fs, hr, hrun, hended, hW, hsame⟩ := X4.leave (v := some (.int (0 : Int32))) (fun h => by rw [Bd.returns] at h; cases h)
  refine ⟨_, _, pre0 _ ?_, hrun, hended, _, _, rfl, ?_, ⟨_, rfl⟩, hW, hsame.mono (by decide) (by decide)⟩
  · show Steps p.tables e below (s₁.setTop (mkF m 0 #[.val (.ref a1), .val (.long q2), .second] [])) _
    refine XS.lloadN X0.here hx rfl (hb hby d1_0) rfl ?_
    show Steps p.tables e below (s₁.setTop (mkF m 1 #[.val (.ref a1), .val (.long q2), .second] [(.long q2)])) _
    refine XS.aloadN X0.here hx rfl (hb hby d1_1) rfl rfl ?_
    show Steps p.tables e below (s₁.setTop (mkF m 2 #[.val (.ref a1), .val (.long q2), .second] [(.ref a1), (.long q2)])) _
    refine st4 _ ?_
    show Steps p.tables e below (T4.setTop (mkF m 5 #[.val (.ref a1), .val (.long q2), .second] [(.long w3), (.long q2)])) _
    refine XS.lcmp X4.here hx rfl (hb hby d1_5) rfl ?_
    show Steps p.tables e below (T4.setTop (mkF m 6 #[.val (.ref a1), .val (.long q2), .second] [(.int (lcmpW q2 w3))])) _
    refine XS.ifYes X4.here hx rfl (pc0 := 6) (pc' := 22) rfl (hb hby d1_6) rfl ((if0 _ _).trans (tlt hc6).1) (by decide) (by decide) ?_
    show Steps p.tables e below (T4.setTop (mkF m 22 #[.val (.ref a1), .val (.long q2), .second] [])) _
    refine XS.iconst X4.here hx rfl (hb hby d1_22) ?_
    show Steps p.tables e below (T4.setTop (mkF m 23 #[.val (.ref a1), .val (.long q2), .second] [(.int (0 : Int32))])) _
    exact retN X4 hx (t := .boolean) Bd.returns (by simp) (hb hby d1_23) hr
  · show Q1a Z a1 q2 w3 h0 n0 _ T4.heap _
    rw [e4]
    exact ⟨rfl, N0, rfl⟩
theorem d1_9 : decode prog_284_method_4_code 9 = .ok (.lload_n 1, 1) := by decide +kernel
theorem d1_10 : decode prog_284_method_4_code 10 = .ok (.aload_n 0, 1) := by decide +kernel
theorem d1_11 : decode prog_284_method_4_code 11 = .ok (.getfield 42, 3) := by decide +kernel
theorem d1_14 : decode prog_284_method_4_code 14 = .ok (.lcmp, 1) := by decide +kernel
theorem d1_15 : decode prog_284_method_4_code 15 = .ok (.ifCond .gt 7, 3) := by decide +kernel
def Q1b (Z : State) (a1 : Addr) (q2 : Int64) (w3 : Int64) (w5 : Int64) (h0 : Heap) (n0 : Nat) (v : Option Value) (h : Heap) (L : List Loc) : Prop := v = some (.int (0 : Int32)) ∧ Fr n0 L ∧ h = h0
set_option maxRecDepth 65536 in
set_option maxHeartbeats 40000000 in
theorem rm1b (l : Launch) (Z : State) (a0 : Array Value) (hw : ∀ d ∈ tables_1, d.before a0 Z = true) (ws : List Jvm.Cond) (a1 : Addr) (q2 : Int64) (w3 : Int64) (w5 : Int64) (h0 : Heap) (n0 : Nat) (Z0 : n0 ≤ h0.size) (F_min_a1 : Fld Z h0 a1 "com/example/iron_axis/ironaxis/parser/Occurrence" "min" "J" (.long w3)) (F_max_a1 : Fld Z h0 a1 "com/example/iron_axis/ironaxis/parser/Occurrence" "max" "J" (.long w5)) (hc6 : ¬ ((lcmpW q2 w3) < (0 : Int32))) (hc15 : (0 : Int32) < (lcmpW q2 w5)) :
    MetFree l (⟨"com/example/iron_axis/ironaxis/parser/Occurrence", "allows", "(J)Z"⟩ : MethodName) (head1 (Jvm.Cond.code (⟨"com/example/iron_axis/ironaxis/parser/Occurrence", "allows", "(J)Z"⟩ : MethodName) prog_284_method_4_code 3 (some .boolean) :: ws) ({ frames := 0, cells := 0, slots := 0, locals := 0 } : Room)) (fun a U => a = #[(.ref a1), (.long q2)] ∧ Z.Warmed39 U.vm ∧ U.heap = h0) (fun _ _ _ _ _ => True) (fun _ U o U' => ∃ v L, o = .returned v ∧ Q1b Z a1 q2 w3 w5 h0 n0 v U'.heap L ∧ FrameEnd U o U' L ({ frames := 0, cells := 0, slots := 0, locals := 0 } : Room).cells ({ frames := 0, cells := 0, slots := 0, locals := 0 } : Room).slots) := by
  refine MetFree.of_bodySF (plainFor_of_name pn_1) hisR ?_
  intro p e s m args below meth c s₁ Bd hml0 hP hK
  obtain ⟨rfl, hZ, hh⟩ := hP
  have hx := Bd.exec
  have hby := Bd.bytes
  have hml : c.maxLocals = 3 := hml0
  have hown : s.vm.findClass "com/example/iron_axis/ironaxis/parser/Occurrence" = some m.cls := findClass_of_methodNamed Bd.named
  have hnm := (name_of_methodNamed Bd.named Bd.method).1
  have X0 : Stand p l e ({ frames := 0, cells := 0, slots := 0, locals := 0 } : Room) s m #[(.ref a1), (.long q2)] below meth c s₁ [] 0 0 := Stand.of_body Bd
  have e0 : s₁.heap = h0 := by rw [← hh, Bd.state]; rfl
  have N0 := Fr.nil n0
  have pre0 : ∀ t, Steps p.tables e below (s₁.setTop (mkF m 0 #[.val (.ref a1), .val (.long q2), .second] [])) t → Steps p.tables e below (s₁.setTop (entryFrame m #[(.ref a1), (.long q2)] 3)) t := fun t k => castTop (ef_1 m a1 q2) k
  obtain ⟨T4, X4, e4, st4⟩ := getF X0 hx hZ hown (host := "") (Or.inl (hw _ (List.mem_of_getElem? (i := 10) rfl))) Via.refl e0 F_min_a1 (g := (mkF m 2 #[.val (.ref a1), .val (.long q2), .second] [(.ref a1), (.long q2)])) rfl rfl (hb hby d1_2)
  obtain ⟨T6, X6, e6, st6⟩ := getF X4 hx hZ hown (host := "") (Or.inl (hw _ (List.mem_of_getElem? (i := 12) rfl))) Via.refl e4 F_max_a1 (g := (mkF m 11 #[.val (.ref a1), .val (.long q2), .second] [(.ref a1), (.long q2)])) rfl rfl (hb hby d1_11)
  obtain ⟨fs, hr, hrun, hended, hW, hsame⟩ := X6.leave (v := some (.int (0 : Int32))) (fun h => by rw [Bd.returns] at h; cases h)
  refine ⟨_, _, pre0 _ ?_, hrun, hended, _, _, rfl, ?_, ⟨_, rfl⟩, hW, hsame.mono (by decide) (by decide)⟩
  · show Steps p.tables e below (s₁.setTop (mkF m 0 #[.val (.ref a1), .val (.long q2), .second] [])) _
    refine XS.lloadN X0.here hx rfl (hb hby d1_0) rfl ?_
    show Steps p.tables e below (s₁.setTop (mkF m 1 #[.val (.ref a1), .val (.long q2), .second] [(.long q2)])) _
    refine XS.aloadN X0.here hx rfl (hb hby d1_1) rfl rfl ?_
    show Steps p.tables e below (s₁.setTop (mkF m 2 #[.val (.ref a1), .val (.long q2), .second] [(.ref a1), (.long q2)])) _
    refine st4 _ ?_
    show Steps p.tables e below (T4.setTop (mkF m 5 #[.val (.ref a1), .val (.long q2), .second] [(.long w3), (.long q2)])) _
    refine XS.lcmp X4.here hx rfl (hb hby d1_5) rfl ?_
    show Steps p.tables e below (T4.setTop (mkF m 6 #[.val (.ref a1), .val (.long q2), .second] [(.int (lcmpW q2 w3))])) _
    refine XS.ifNo X4.here hx rfl (hb hby d1_6) rfl ((if0 _ _).trans (flt hc6).1) ?_
    show Steps p.tables e below (T4.setTop (mkF m 9 #[.val (.ref a1), .val (.long q2), .second] [])) _
    refine XS.lloadN X4.here hx rfl (hb hby d1_9) rfl ?_
    show Steps p.tables e below (T4.setTop (mkF m 10 #[.val (.ref a1), .val (.long q2), .second] [(.long q2)])) _
    refine XS.aloadN X4.here hx rfl (hb hby d1_10) rfl rfl ?_
    show Steps p.tables e below (T4.setTop (mkF m 11 #[.val (.ref a1), .val (.long q2), .second] [(.ref a1), (.long q2)])) _
    refine st6 _ ?_
    show Steps p.tables e below (T6.setTop (mkF m 14 #[.val (.ref a1), .val (.long q2), .second] [(.long w5), (.long q2)])) _
    refine XS.lcmp X6.here hx rfl (hb hby d1_14) rfl ?_
    show Steps p.tables e below (T6.setTop (mkF m 15 #[.val (.ref a1), .val (.long q2), .second] [(.int (lcmpW q2 w5))])) _
    refine XS.ifYes X6.here hx rfl (pc0 := 15) (pc' := 22) rfl (hb hby d1_15) rfl ((if0 _ _).trans (tlt hc15).2.2.1) (by decide) (by decide) ?_
    show Steps p.tables e below (T6.setTop (mkF m 22 #[.val (.ref a1), .val (.long q2), .second] [])) _
    refine XS.iconst X6.here hx rfl (hb hby d1_22) ?_
    show Steps p.tables e below (T6.setTop (mkF m 23 #[.val (.ref a1), .val (.long q2), .second] [(.int (0 : Int32))])) _
    exact retN X6 hx (t := .boolean) Bd.returns (by simp) (hb hby d1_23) hr
  · show Q1b Z a1 q2 w3 w5 h0 n0 _ T6.heap _
    rw [e6]
    exact ⟨rfl, N0, rfl⟩
theorem d1_18 : decode prog_284_method_4_code 18 = .ok (.iconst 1, 1) := by decide +kernel
theorem d1_19 : decode prog_284_method_4_code 19 = .ok (.goto 4, 3) := by decide +kernel
def Q1c (Z : State) (a1 : Addr) (q2 : Int64) (w3 : Int64) (w5 : Int64) (h0 : Heap) (n0 : Nat) (v : Option Value) (h : Heap) (L : List Loc) : Prop := v = some (.int (1 : Int32)) ∧ Fr n0 L ∧ h = h0
set_option maxRecDepth 65536 in
set_option maxHeartbeats 40000000 in
theorem rm1c (l : Launch) (Z : State) (a0 : Array Value) (hw : ∀ d ∈ tables_1, d.before a0 Z = true) (ws : List Jvm.Cond) (a1 : Addr) (q2 : Int64) (w3 : Int64) (w5 : Int64) (h0 : Heap) (n0 : Nat) (Z0 : n0 ≤ h0.size) (F_min_a1 : Fld Z h0 a1 "com/example/iron_axis/ironaxis/parser/Occurrence" "min" "J" (.long w3)) (F_max_a1 : Fld Z h0 a1 "com/example/iron_axis/ironaxis/parser/Occurrence" "max" "J" (.long w5)) (hc6 : ¬ ((lcmpW q2 w3) < (0 : Int32))) (hc15 : ¬ ((0 : Int32) < (lcmpW q2 w5))) :
    MetFree l (⟨"com/example/iron_axis/ironaxis/parser/Occurrence", "allows", "(J)Z"⟩ : MethodName) (head1 (Jvm.Cond.code (⟨"com/example/iron_axis/ironaxis/parser/Occurrence", "allows", "(J)Z"⟩ : MethodName) prog_284_method_4_code 3 (some .boolean) :: ws) ({ frames := 0, cells := 0, slots := 0, locals := 0 } : Room)) (fun a U => a = #[(.ref a1), (.long q2)] ∧ Z.Warmed39 U.vm ∧ U.heap = h0) (fun _ _ _ _ _ => True) (fun _ U o U' => ∃ v L, o = .returned v ∧ Q1c Z a1 q2 w3 w5 h0 n0 v U'.heap L ∧ FrameEnd U o U' L ({ frames := 0, cells := 0, slots := 0, locals := 0 } : Room).cells ({ frames := 0, cells := 0, slots := 0, locals := 0 } : Room).slots) := by
  refine MetFree.of_bodySF (plainFor_of_name pn_1) hisR ?_
  intro p e s m args below meth c s₁ Bd hml0 hP hK
  obtain ⟨rfl, hZ, hh⟩ := hP
  have hx := Bd.exec
  have hby := Bd.bytes
  have hml : c.maxLocals = 3 := hml0
  have hown : s.vm.findClass "com/example/iron_axis/ironaxis/parser/Occurrence" = some m.cls := findClass_of_methodNamed Bd.named
  have hnm := (name_of_methodNamed Bd.named Bd.method).1
  have X0 : Stand p l e ({ frames := 0, cells := 0, slots := 0, locals := 0 } : Room) s m #[(.ref a1), (.long q2)] below meth c s₁ [] 0 0 := Stand.of_body Bd
  have e0 : s₁.heap = h0 := by rw [← hh, Bd.state]; rfl
  have N0 := Fr.nil n0
  have pre0 : ∀ t, Steps p.tables e below (s₁.setTop (mkF m 0 #[.val (.ref a1), .val (.long q2), .second] [])) t → Steps p.tables e below (s₁.setTop (entryFrame m #[(.ref a1), (.long q2)] 3)) t := fun t k => castTop (ef_1 m a1 q2) k
  obtain ⟨T4, X4, e4, st4⟩ := getF X0 hx hZ hown (host := "") (Or.inl (hw _ (List.mem_of_getElem? (i := 10) rfl))) Via.refl e0 F_min_a1 (g := (mkF m 2 #[.val (.ref a1), .val (.long q2), .second] [(.ref a1), (.long q2)])) rfl rfl (hb hby d1_2)
  obtain ⟨T6, X6, e6, st6⟩ := getF X4 hx hZ hown (host := "") (Or.inl (hw _ (List.mem_of_getElem? (i := 12) rfl))) Via.refl e4 F_max_a1 (g := (mkF m 11 #[.val (.ref a1), .val (.long q2), .second] [(.ref a1), (.long q2)])) rfl rfl (hb hby d1_11)
  obtain ⟨fs, hr, hrun, hended, hW, hsame⟩ := X6.leave (v := some (.int (1 : Int32))) (fun h => by rw [Bd.returns] at h; cases h)
  refine ⟨_, _, pre0 _ ?_, hrun, hended, _, _, rfl, ?_, ⟨_, rfl⟩, hW, hsame.mono (by decide) (by decide)⟩
  · show Steps p.tables e below (s₁.setTop (mkF m 0 #[.val (.ref a1), .val (.long q2), .second] [])) _
    refine XS.lloadN X0.here hx rfl (hb hby d1_0) rfl ?_
    show Steps p.tables e below (s₁.setTop (mkF m 1 #[.val (.ref a1), .val (.long q2), .second] [(.long q2)])) _
    refine XS.aloadN X0.here hx rfl (hb hby d1_1) rfl rfl ?_
    show Steps p.tables e below (s₁.setTop (mkF m 2 #[.val (.ref a1), .val (.long q2), .second] [(.ref a1), (.long q2)])) _
    refine st4 _ ?_
    show Steps p.tables e below (T4.setTop (mkF m 5 #[.val (.ref a1), .val (.long q2), .second] [(.long w3), (.long q2)])) _
    refine XS.lcmp X4.here hx rfl (hb hby d1_5) rfl ?_
    show Steps p.tables e below (T4.setTop (mkF m 6 #[.val (.ref a1), .val (.long q2), .second] [(.int (lcmpW q2 w3))])) _
    refine XS.ifNo X4.here hx rfl (hb hby d1_6) rfl ((if0 _ _).trans (flt hc6).1) ?_
    show Steps p.tables e below (T4.setTop (mkF m 9 #[.val (.ref a1), .val (.long q2), .second] [])) _
    refine XS.lloadN X4.here hx rfl (hb hby d1_9) rfl ?_
    show Steps p.tables e below (T4.setTop (mkF m 10 #[.val (.ref a1), .val (.long q2), .second] [(.long q2)])) _
    refine XS.aloadN X4.here hx rfl (hb hby d1_10) rfl rfl ?_
    show Steps p.tables e below (T4.setTop (mkF m 11 #[.val (.ref a1), .val (.long q2), .second] [(.ref a1), (.long q2)])) _
    refine st6 _ ?_
    show Steps p.tables e below (T6.setTop (mkF m 14 #[.val (.ref a1), .val (.long q2), .second] [(.long w5), (.long q2)])) _
    refine XS.lcmp X6.here hx rfl (hb hby d1_14) rfl ?_
    show Steps p.tables e below (T6.setTop (mkF m 15 #[.val (.ref a1), .val (.long q2), .second] [(.int (lcmpW q2 w5))])) _
    refine XS.ifNo X6.here hx rfl (hb hby d1_15) rfl ((if0 _ _).trans (flt hc15).2.2.1) ?_
    show Steps p.tables e below (T6.setTop (mkF m 18 #[.val (.ref a1), .val (.long q2), .second] [])) _
    refine XS.iconst X6.here hx rfl (hb hby d1_18) ?_
    show Steps p.tables e below (T6.setTop (mkF m 19 #[.val (.ref a1), .val (.long q2), .second] [(.int (1 : Int32))])) _
    refine XS.goto X6.here hx rfl (pc0 := 19) (pc' := 23) rfl (hb hby d1_19) (by decide) (by decide) ?_
    show Steps p.tables e below (T6.setTop (mkF m 23 #[.val (.ref a1), .val (.long q2), .second] [(.int (1 : Int32))])) _
    exact retN X6 hx (t := .boolean) Bd.returns (by simp) (hb hby d1_23) hr
  · show Q1c Z a1 q2 w3 w5 h0 n0 _ T6.heap _
    rw [e6]
    exact ⟨rfl, N0, rfl⟩

def Q1 (a1 : Addr) (q mn mx : Int64) (h0 : Heap) (n0 : Nat) (v : Option Value) (h : Heap) (L : List Loc) : Prop := v = some (.int (own_r q mn mx)) ∧ Fr n0 L ∧ h = h0
theorem rm1 (l : Launch) (Z : State) (a0 : Array Value) (hw : ∀ d ∈ tables_1, d.before a0 Z = true) (ws : List Jvm.Cond) (a1 : Addr) (q mn mx : Int64) (h0 : Heap) (n0 : Nat) (Z0 : n0 ≤ h0.size) (F1 : Fld Z h0 a1 "com/example/iron_axis/ironaxis/parser/Occurrence" "min" "J" (.long mn)) (F2 : Fld Z h0 a1 "com/example/iron_axis/ironaxis/parser/Occurrence" "max" "J" (.long mx)) :
    MetFree l (⟨"com/example/iron_axis/ironaxis/parser/Occurrence", "allows", "(J)Z"⟩ : MethodName) (head1 (Jvm.Cond.code (⟨"com/example/iron_axis/ironaxis/parser/Occurrence", "allows", "(J)Z"⟩ : MethodName) prog_284_method_4_code 3 (some .boolean) :: ws) ({ frames := 0, cells := 0, slots := 0, locals := 0 } : Room)) (fun a U => a = #[(.ref a1), (.long q)] ∧ Z.Warmed39 U.vm ∧ U.heap = h0) (fun _ _ _ _ _ => True) (fun _ U o U' => ∃ v L, o = .returned v ∧ Q1 a1 q mn mx h0 n0 v U'.heap L ∧ FrameEnd U o U' L ({ frames := 0, cells := 0, slots := 0, locals := 0 } : Room).cells ({ frames := 0, cells := 0, slots := 0, locals := 0 } : Room).slots) := by
  unfold Q1
  by_cases h1 : q < mn
  · rw [own_r1 h1]
    exact rm1a l Z a0 hw ws a1 q mn h0 n0 Z0 F1 ((own_lt q mn).mpr h1)
  by_cases h2 : mx < q
  · rw [own_r2 h1 h2]
    exact rm1b l Z a0 hw ws a1 q mn mx h0 n0 Z0 F1 F2 (fun z => h1 ((own_lt q mn).mp z)) ((own_gt q mx).mpr h2)
  · rw [own_r3 h1 h2]
    exact rm1c l Z a0 hw ws a1 q mn mx h0 n0 Z0 F1 F2 (fun z => h1 ((own_lt q mn).mp z)) (fun z => h2 ((own_gt q mx).mp z))
set_option maxRecDepth 65536 in
set_option maxHeartbeats 40000000 in
theorem tn0_8_27a {p : Program} {l : Launch} {e : Env} {R : Room} {s : State} {m : MethodId} {args : Array Value} {below : List Frame} {meth : Method} {c : Code} {T0 : State} {locs : List Loc} {cells slots : Nat} {Z : State} {a0 : Array Value} {h0 : Heap} (s0 : Slot) (j1 : Int64) (i3 : Int32) (s4 : Slot) (s7 : Slot) (s8 : Slot)
    (X0 : Stand p l e R s m args below meth c T0 locs cells slots) (hx : p.tables.exec = Jvm.exec) (hZ : Z.Warmed39 s.vm) (hw : ∀ d ∈ tables_1, d.before a0 Z = true) (hby : c.code = code) (hml : c.maxLocals = 9) (hown : s.vm.findClass "com/example/iron_axis/ironaxis/parser/OccurrenceAllowsPinLaw" = some m.cls) (e0 : T0.heap = h0) (hc11 : ¬ ((i3 &&& (1 : Int32)) = (0 : Int32))) :
    ∃ (T' : State), Stand p l e R s m args below meth c T' locs cells slots ∧ T'.heap = h0 ∧
      ∀ target, Steps p.tables e below (T'.setTop (mkF m 27 #[s0, .val (.long j1), .second, .val (.int i3), s4, .val (.long ((j1 &&& (3 : Int64)) - (1 : Int64))), .second, s7, s8] [])) target → Steps p.tables e below (T0.setTop (mkF m 8 #[s0, .val (.long j1), .second, .val (.int i3), s4, .unset, .unset, s7, s8] [])) target := by

  refine ⟨T0, X0, e0, fun target kt => ?_⟩
  show Steps p.tables e below (T0.setTop (mkF m 8 #[s0, .val (.long j1), .second, .val (.int i3), s4, .unset, .unset, s7, s8] [])) _
  refine XS.iloadN X0.here hx rfl (hb hby at_8) rfl ?_
  show Steps p.tables e below (T0.setTop (mkF m 9 #[s0, .val (.long j1), .second, .val (.int i3), s4, .unset, .unset, s7, s8] [(.int i3)])) _
  refine XS.iconst X0.here hx rfl (hb hby at_9) ?_
  show Steps p.tables e below (T0.setTop (mkF m 10 #[s0, .val (.long j1), .second, .val (.int i3), s4, .unset, .unset, s7, s8] [(.int (1 : Int32)), (.int i3)])) _
  refine XS.iand X0.here hx rfl (hb hby at_10) rfl ?_
  show Steps p.tables e below (T0.setTop (mkF m 11 #[s0, .val (.long j1), .second, .val (.int i3), s4, .unset, .unset, s7, s8] [(.int (i3 &&& (1 : Int32)))])) _
  refine XS.ifNo X0.here hx rfl (hb hby at_11) rfl ((if0 _ _).trans (feq hc11).1) ?_
  show Steps p.tables e below (T0.setTop (mkF m 14 #[s0, .val (.long j1), .second, .val (.int i3), s4, .unset, .unset, s7, s8] [])) _
  refine XS.lloadN X0.here hx rfl (hb hby at_14) rfl ?_
  show Steps p.tables e below (T0.setTop (mkF m 15 #[s0, .val (.long j1), .second, .val (.int i3), s4, .unset, .unset, s7, s8] [(.long j1)])) _
  refine X0.ldc2Long hx hown (mvT hZ (hw _ (List.mem_of_getElem? (i := 1) rfl))) (g := (mkF m 15 #[s0, .val (.long j1), .second, .val (.int i3), s4, .unset, .unset, s7, s8] [(.long j1)])) rfl (hb hby at_15) _ ?_
  show Steps p.tables e below (T0.setTop (mkF m 18 #[s0, .val (.long j1), .second, .val (.int i3), s4, .unset, .unset, s7, s8] [(.long (3 : Int64)), (.long j1)])) _
  refine XS.land X0.here hx rfl (hb hby at_18) rfl ?_
  show Steps p.tables e below (T0.setTop (mkF m 19 #[s0, .val (.long j1), .second, .val (.int i3), s4, .unset, .unset, s7, s8] [(.long (j1 &&& (3 : Int64)))])) _
  refine XS.lconst X0.here hx rfl (hb hby at_19) ?_
  show Steps p.tables e below (T0.setTop (mkF m 20 #[s0, .val (.long j1), .second, .val (.int i3), s4, .unset, .unset, s7, s8] [(.long (1 : Int64)), (.long (j1 &&& (3 : Int64)))])) _
  refine XS.lsub X0.here hx rfl (hb hby at_20) rfl ?_
  show Steps p.tables e below (T0.setTop (mkF m 21 #[s0, .val (.long j1), .second, .val (.int i3), s4, .unset, .unset, s7, s8] [(.long ((j1 &&& (3 : Int64)) - (1 : Int64)))])) _
  refine XS.goto X0.here hx rfl (pc0 := 21) (pc' := 25) rfl (hb hby at_21) (by decide) (by decide) ?_
  show Steps p.tables e below (T0.setTop (mkF m 25 #[s0, .val (.long j1), .second, .val (.int i3), s4, .unset, .unset, s7, s8] [(.long ((j1 &&& (3 : Int64)) - (1 : Int64)))])) _
  refine XS.lstore X0.here hx rfl (hb hby at_25) rfl (l' := #[s0, .val (.long j1), .second, .val (.int i3), s4, .val (.long ((j1 &&& (3 : Int64)) - (1 : Int64))), .second, s7, s8]) rfl ?_
  exact kt
set_option maxRecDepth 65536 in
set_option maxHeartbeats 40000000 in
theorem tn0_8_27b {p : Program} {l : Launch} {e : Env} {R : Room} {s : State} {m : MethodId} {args : Array Value} {below : List Frame} {meth : Method} {c : Code} {T0 : State} {locs : List Loc} {cells slots : Nat} {Z : State} {a0 : Array Value} {h0 : Heap} (s0 : Slot) (j1 : Int64) (i3 : Int32) (s4 : Slot) (s7 : Slot) (s8 : Slot)
    (X0 : Stand p l e R s m args below meth c T0 locs cells slots) (hx : p.tables.exec = Jvm.exec) (hZ : Z.Warmed39 s.vm) (hw : ∀ d ∈ tables_1, d.before a0 Z = true) (hby : c.code = code) (hml : c.maxLocals = 9) (hown : s.vm.findClass "com/example/iron_axis/ironaxis/parser/OccurrenceAllowsPinLaw" = some m.cls) (e0 : T0.heap = h0) (hc11 : (i3 &&& (1 : Int32)) = (0 : Int32)) :
    ∃ (T' : State), Stand p l e R s m args below meth c T' locs cells slots ∧ T'.heap = h0 ∧
      ∀ target, Steps p.tables e below (T'.setTop (mkF m 27 #[s0, .val (.long j1), .second, .val (.int i3), s4, .val (.long j1), .second, s7, s8] [])) target → Steps p.tables e below (T0.setTop (mkF m 8 #[s0, .val (.long j1), .second, .val (.int i3), s4, .unset, .unset, s7, s8] [])) target := by

  refine ⟨T0, X0, e0, fun target kt => ?_⟩
  show Steps p.tables e below (T0.setTop (mkF m 8 #[s0, .val (.long j1), .second, .val (.int i3), s4, .unset, .unset, s7, s8] [])) _
  refine XS.iloadN X0.here hx rfl (hb hby at_8) rfl ?_
  show Steps p.tables e below (T0.setTop (mkF m 9 #[s0, .val (.long j1), .second, .val (.int i3), s4, .unset, .unset, s7, s8] [(.int i3)])) _
  refine XS.iconst X0.here hx rfl (hb hby at_9) ?_
  show Steps p.tables e below (T0.setTop (mkF m 10 #[s0, .val (.long j1), .second, .val (.int i3), s4, .unset, .unset, s7, s8] [(.int (1 : Int32)), (.int i3)])) _
  refine XS.iand X0.here hx rfl (hb hby at_10) rfl ?_
  show Steps p.tables e below (T0.setTop (mkF m 11 #[s0, .val (.long j1), .second, .val (.int i3), s4, .unset, .unset, s7, s8] [(.int (i3 &&& (1 : Int32)))])) _
  refine XS.ifYes X0.here hx rfl (pc0 := 11) (pc' := 24) rfl (hb hby at_11) rfl ((if0 _ _).trans (teq hc11).1) (by decide) (by decide) ?_
  show Steps p.tables e below (T0.setTop (mkF m 24 #[s0, .val (.long j1), .second, .val (.int i3), s4, .unset, .unset, s7, s8] [])) _
  refine XS.lloadN X0.here hx rfl (hb hby at_24) rfl ?_
  show Steps p.tables e below (T0.setTop (mkF m 25 #[s0, .val (.long j1), .second, .val (.int i3), s4, .unset, .unset, s7, s8] [(.long j1)])) _
  refine XS.lstore X0.here hx rfl (hb hby at_25) rfl (l' := #[s0, .val (.long j1), .second, .val (.int i3), s4, .val (.long j1), .second, s7, s8]) rfl ?_
  exact kt
theorem os0_35 {s0 : Slot} {s1 : Slot} {s2 : Slot} {s3 : Slot} {z4 : Value} {z5 : Value} {s7 : Slot} {s8 : Slot} {v : Addr} (h : One s7) : storeLocals #[s0, s1, s2, s3, .val z4, .val z5, .second, s7, s8] 7 (.ref v) = some #[s0, s1, s2, s3, .val z4, .val z5, .second, .val (.ref v), s8] := by
  rcases h with rfl | ⟨w, rfl, hw⟩
  · rfl
  · cases w <;> first | rfl | (simp [Value.category] at hw)
theorem os0_49 {s0 : Slot} {s1 : Slot} {s2 : Slot} {s3 : Slot} {z4 : Value} {z5 : Value} {z7 : Value} {s8 : Slot} {v : Int32} (h : One s8) : storeLocals #[s0, s1, s2, s3, .val z4, .val z5, .second, .val z7, s8] 8 (.int v) = some #[s0, s1, s2, s3, .val z4, .val z5, .second, .val z7, .val (.int v)] := by
  rcases h with rfl | ⟨w, rfl, hw⟩
  · rfl
  · cases w <;> first | rfl | (simp [Value.category] at hw)
set_option maxRecDepth 65536 in
set_option maxHeartbeats 40000000 in
theorem tn0_27_164_NONE0 {p : Program} {l : Launch} {e : Env} {R : Room} {s : State} {m : MethodId} {args : Array Value} {below : List Frame} {meth : Method} {c : Code} {T0 : State} {locs : List Loc} {cells slots : Nat} {Z : State} {a0 : Array Value} {h0 : Heap} (s0 : Slot) (s1 : Slot) (s2 : Slot) (s3 : Slot) (i4 : Int32) (j5 : Int64) (s7 : Slot) (s8 : Slot) (w4 : Addr)
    (X0 : Stand p l e R s m args below meth c T0 locs cells slots) (hx : p.tables.exec = Jvm.exec) (hZ : Z.Warmed39 s.vm) (hw : ∀ d ∈ tables_1, d.before a0 Z = true) (hby : c.code = code) (hml : c.maxLocals = 9) (hown : s.vm.findClass "com/example/iron_axis/ironaxis/parser/OccurrenceAllowsPinLaw" = some m.cls) (e0 : T0.heap = h0) (S_NONE : Sta Z h0 "com/example/iron_axis/ironaxis/parser/Occurrence" "NONE" "Lcom/example/iron_axis/ironaxis/parser/Occurrence;" (.ref w4)) (hs7 : One s7) (hs8 : One s8) (hc29 : i4 = (0 : Int32)) (hc41 : (lcmpW j5 (0 : Int64)) = (0 : Int32)) :
    ∃ (T' : State), Stand p l e R s m args below meth c T' locs cells slots ∧ T'.heap = h0 ∧
      ∀ target, Steps p.tables e below (T'.setTop (mkF m 164 #[s0, s1, s2, s3, .val (.int i4), .val (.long j5), .second, .val (.ref w4), .val (.int (1 : Int32))] [])) target → Steps p.tables e below (T0.setTop (mkF m 27 #[s0, s1, s2, s3, .val (.int i4), .val (.long j5), .second, s7, s8] [])) target := by
  obtain ⟨T5, X5, e5, st5⟩ := getS2 X0 hx hZ hown (host := "") (Or.inl (hw _ (List.mem_of_getElem? (i := 2) rfl))) Via.refl e0 S_NONE (g := (mkF m 32 #[s0, s1, s2, s3, .val (.int i4), .val (.long j5), .second, s7, s8] [])) rfl (hb hby at_32)
  refine ⟨T5, X5, e5, fun target kt => ?_⟩
  show Steps p.tables e below (T0.setTop (mkF m 27 #[s0, s1, s2, s3, .val (.int i4), .val (.long j5), .second, s7, s8] [])) _
  refine XS.iload X0.here hx rfl (hb hby at_27) rfl ?_
  show Steps p.tables e below (T0.setTop (mkF m 29 #[s0, s1, s2, s3, .val (.int i4), .val (.long j5), .second, s7, s8] [(.int i4)])) _
  refine XS.ifNo X0.here hx rfl (hb hby at_29) rfl ((if0 _ _).trans (teq hc29).2) ?_
  show Steps p.tables e below (T0.setTop (mkF m 32 #[s0, s1, s2, s3, .val (.int i4), .val (.long j5), .second, s7, s8] [])) _
  refine st5 _ ?_
  show Steps p.tables e below (T5.setTop (mkF m 35 #[s0, s1, s2, s3, .val (.int i4), .val (.long j5), .second, s7, s8] [(.ref w4)])) _
  refine XS.astore X5.here hx rfl (hb hby at_35) rfl rfl (l' := #[s0, s1, s2, s3, .val (.int i4), .val (.long j5), .second, .val (.ref w4), s8]) (os0_35 hs7) ?_
  show Steps p.tables e below (T5.setTop (mkF m 37 #[s0, s1, s2, s3, .val (.int i4), .val (.long j5), .second, .val (.ref w4), s8] [])) _
  refine XS.lload X5.here hx rfl (hb hby at_37) rfl ?_
  show Steps p.tables e below (T5.setTop (mkF m 39 #[s0, s1, s2, s3, .val (.int i4), .val (.long j5), .second, .val (.ref w4), s8] [(.long j5)])) _
  refine XS.lconst X5.here hx rfl (hb hby at_39) ?_
  show Steps p.tables e below (T5.setTop (mkF m 40 #[s0, s1, s2, s3, .val (.int i4), .val (.long j5), .second, .val (.ref w4), s8] [(.long (0 : Int64)), (.long j5)])) _
  refine XS.lcmp X5.here hx rfl (hb hby at_40) rfl ?_
  show Steps p.tables e below (T5.setTop (mkF m 41 #[s0, s1, s2, s3, .val (.int i4), .val (.long j5), .second, .val (.ref w4), s8] [(.int (lcmpW j5 (0 : Int64)))])) _
  refine XS.ifNo X5.here hx rfl (hb hby at_41) rfl ((if0 _ _).trans (teq hc41).2) ?_
  show Steps p.tables e below (T5.setTop (mkF m 44 #[s0, s1, s2, s3, .val (.int i4), .val (.long j5), .second, .val (.ref w4), s8] [])) _
  refine XS.iconst X5.here hx rfl (hb hby at_44) ?_
  show Steps p.tables e below (T5.setTop (mkF m 45 #[s0, s1, s2, s3, .val (.int i4), .val (.long j5), .second, .val (.ref w4), s8] [(.int (1 : Int32))])) _
  refine XS.goto X5.here hx rfl (pc0 := 45) (pc' := 49) rfl (hb hby at_45) (by decide) (by decide) ?_
  show Steps p.tables e below (T5.setTop (mkF m 49 #[s0, s1, s2, s3, .val (.int i4), .val (.long j5), .second, .val (.ref w4), s8] [(.int (1 : Int32))])) _
  refine XS.istore X5.here hx rfl (hb hby at_49) rfl (l' := #[s0, s1, s2, s3, .val (.int i4), .val (.long j5), .second, .val (.ref w4), .val (.int (1 : Int32))]) (os0_49 hs8) ?_
  show Steps p.tables e below (T5.setTop (mkF m 51 #[s0, s1, s2, s3, .val (.int i4), .val (.long j5), .second, .val (.ref w4), .val (.int (1 : Int32))] [])) _
  refine XS.goto X5.here hx rfl (pc0 := 51) (pc' := 164) rfl (hb hby at_51) (by decide) (by decide) ?_
  exact kt
set_option maxRecDepth 65536 in
set_option maxHeartbeats 40000000 in
theorem tn0_27_164_NONE1 {p : Program} {l : Launch} {e : Env} {R : Room} {s : State} {m : MethodId} {args : Array Value} {below : List Frame} {meth : Method} {c : Code} {T0 : State} {locs : List Loc} {cells slots : Nat} {Z : State} {a0 : Array Value} {h0 : Heap} (s0 : Slot) (s1 : Slot) (s2 : Slot) (s3 : Slot) (i4 : Int32) (j5 : Int64) (s7 : Slot) (s8 : Slot) (w4 : Addr)
    (X0 : Stand p l e R s m args below meth c T0 locs cells slots) (hx : p.tables.exec = Jvm.exec) (hZ : Z.Warmed39 s.vm) (hw : ∀ d ∈ tables_1, d.before a0 Z = true) (hby : c.code = code) (hml : c.maxLocals = 9) (hown : s.vm.findClass "com/example/iron_axis/ironaxis/parser/OccurrenceAllowsPinLaw" = some m.cls) (e0 : T0.heap = h0) (S_NONE : Sta Z h0 "com/example/iron_axis/ironaxis/parser/Occurrence" "NONE" "Lcom/example/iron_axis/ironaxis/parser/Occurrence;" (.ref w4)) (hs7 : One s7) (hs8 : One s8) (hc29 : i4 = (0 : Int32)) (hc41 : ¬ ((lcmpW j5 (0 : Int64)) = (0 : Int32))) :
    ∃ (T' : State), Stand p l e R s m args below meth c T' locs cells slots ∧ T'.heap = h0 ∧
      ∀ target, Steps p.tables e below (T'.setTop (mkF m 164 #[s0, s1, s2, s3, .val (.int i4), .val (.long j5), .second, .val (.ref w4), .val (.int (0 : Int32))] [])) target → Steps p.tables e below (T0.setTop (mkF m 27 #[s0, s1, s2, s3, .val (.int i4), .val (.long j5), .second, s7, s8] [])) target := by
  obtain ⟨T5, X5, e5, st5⟩ := getS2 X0 hx hZ hown (host := "") (Or.inl (hw _ (List.mem_of_getElem? (i := 2) rfl))) Via.refl e0 S_NONE (g := (mkF m 32 #[s0, s1, s2, s3, .val (.int i4), .val (.long j5), .second, s7, s8] [])) rfl (hb hby at_32)
  refine ⟨T5, X5, e5, fun target kt => ?_⟩
  show Steps p.tables e below (T0.setTop (mkF m 27 #[s0, s1, s2, s3, .val (.int i4), .val (.long j5), .second, s7, s8] [])) _
  refine XS.iload X0.here hx rfl (hb hby at_27) rfl ?_
  show Steps p.tables e below (T0.setTop (mkF m 29 #[s0, s1, s2, s3, .val (.int i4), .val (.long j5), .second, s7, s8] [(.int i4)])) _
  refine XS.ifNo X0.here hx rfl (hb hby at_29) rfl ((if0 _ _).trans (teq hc29).2) ?_
  show Steps p.tables e below (T0.setTop (mkF m 32 #[s0, s1, s2, s3, .val (.int i4), .val (.long j5), .second, s7, s8] [])) _
  refine st5 _ ?_
  show Steps p.tables e below (T5.setTop (mkF m 35 #[s0, s1, s2, s3, .val (.int i4), .val (.long j5), .second, s7, s8] [(.ref w4)])) _
  refine XS.astore X5.here hx rfl (hb hby at_35) rfl rfl (l' := #[s0, s1, s2, s3, .val (.int i4), .val (.long j5), .second, .val (.ref w4), s8]) (os0_35 hs7) ?_
  show Steps p.tables e below (T5.setTop (mkF m 37 #[s0, s1, s2, s3, .val (.int i4), .val (.long j5), .second, .val (.ref w4), s8] [])) _
  refine XS.lload X5.here hx rfl (hb hby at_37) rfl ?_
  show Steps p.tables e below (T5.setTop (mkF m 39 #[s0, s1, s2, s3, .val (.int i4), .val (.long j5), .second, .val (.ref w4), s8] [(.long j5)])) _
  refine XS.lconst X5.here hx rfl (hb hby at_39) ?_
  show Steps p.tables e below (T5.setTop (mkF m 40 #[s0, s1, s2, s3, .val (.int i4), .val (.long j5), .second, .val (.ref w4), s8] [(.long (0 : Int64)), (.long j5)])) _
  refine XS.lcmp X5.here hx rfl (hb hby at_40) rfl ?_
  show Steps p.tables e below (T5.setTop (mkF m 41 #[s0, s1, s2, s3, .val (.int i4), .val (.long j5), .second, .val (.ref w4), s8] [(.int (lcmpW j5 (0 : Int64)))])) _
  refine XS.ifYes X5.here hx rfl (pc0 := 41) (pc' := 48) rfl (hb hby at_41) rfl ((if0 _ _).trans (feq hc41).2) (by decide) (by decide) ?_
  show Steps p.tables e below (T5.setTop (mkF m 48 #[s0, s1, s2, s3, .val (.int i4), .val (.long j5), .second, .val (.ref w4), s8] [])) _
  refine XS.iconst X5.here hx rfl (hb hby at_48) ?_
  show Steps p.tables e below (T5.setTop (mkF m 49 #[s0, s1, s2, s3, .val (.int i4), .val (.long j5), .second, .val (.ref w4), s8] [(.int (0 : Int32))])) _
  refine XS.istore X5.here hx rfl (hb hby at_49) rfl (l' := #[s0, s1, s2, s3, .val (.int i4), .val (.long j5), .second, .val (.ref w4), .val (.int (0 : Int32))]) (os0_49 hs8) ?_
  show Steps p.tables e below (T5.setTop (mkF m 51 #[s0, s1, s2, s3, .val (.int i4), .val (.long j5), .second, .val (.ref w4), .val (.int (0 : Int32))] [])) _
  refine XS.goto X5.here hx rfl (pc0 := 51) (pc' := 164) rfl (hb hby at_51) (by decide) (by decide) ?_
  exact kt
theorem os0_63 {s0 : Slot} {s1 : Slot} {s2 : Slot} {s3 : Slot} {z4 : Value} {z5 : Value} {s7 : Slot} {s8 : Slot} {v : Addr} (h : One s7) : storeLocals #[s0, s1, s2, s3, .val z4, .val z5, .second, s7, s8] 7 (.ref v) = some #[s0, s1, s2, s3, .val z4, .val z5, .second, .val (.ref v), s8] := by
  rcases h with rfl | ⟨w, rfl, hw⟩
  · rfl
  · cases w <;> first | rfl | (simp [Value.category] at hw)
theorem os0_77 {s0 : Slot} {s1 : Slot} {s2 : Slot} {s3 : Slot} {z4 : Value} {z5 : Value} {z7 : Value} {s8 : Slot} {v : Int32} (h : One s8) : storeLocals #[s0, s1, s2, s3, .val z4, .val z5, .second, .val z7, s8] 8 (.int v) = some #[s0, s1, s2, s3, .val z4, .val z5, .second, .val z7, .val (.int v)] := by
  rcases h with rfl | ⟨w, rfl, hw⟩
  · rfl
  · cases w <;> first | rfl | (simp [Value.category] at hw)
set_option maxRecDepth 65536 in
set_option maxHeartbeats 40000000 in
theorem tn0_27_164_EXACTLY_ONE0 {p : Program} {l : Launch} {e : Env} {R : Room} {s : State} {m : MethodId} {args : Array Value} {below : List Frame} {meth : Method} {c : Code} {T0 : State} {locs : List Loc} {cells slots : Nat} {Z : State} {a0 : Array Value} {h0 : Heap} (s0 : Slot) (s1 : Slot) (s2 : Slot) (s3 : Slot) (i4 : Int32) (j5 : Int64) (s7 : Slot) (s8 : Slot) (w4 : Addr)
    (X0 : Stand p l e R s m args below meth c T0 locs cells slots) (hx : p.tables.exec = Jvm.exec) (hZ : Z.Warmed39 s.vm) (hw : ∀ d ∈ tables_1, d.before a0 Z = true) (hby : c.code = code) (hml : c.maxLocals = 9) (hown : s.vm.findClass "com/example/iron_axis/ironaxis/parser/OccurrenceAllowsPinLaw" = some m.cls) (e0 : T0.heap = h0) (S_EXACTLY_ONE : Sta Z h0 "com/example/iron_axis/ironaxis/parser/Occurrence" "EXACTLY_ONE" "Lcom/example/iron_axis/ironaxis/parser/Occurrence;" (.ref w4)) (hs7 : One s7) (hs8 : One s8) (hc29 : ¬ (i4 = (0 : Int32))) (hc57 : i4 = (1 : Int32)) (hc69 : (lcmpW j5 (1 : Int64)) = (0 : Int32)) :
    ∃ (T' : State), Stand p l e R s m args below meth c T' locs cells slots ∧ T'.heap = h0 ∧
      ∀ target, Steps p.tables e below (T'.setTop (mkF m 164 #[s0, s1, s2, s3, .val (.int i4), .val (.long j5), .second, .val (.ref w4), .val (.int (1 : Int32))] [])) target → Steps p.tables e below (T0.setTop (mkF m 27 #[s0, s1, s2, s3, .val (.int i4), .val (.long j5), .second, s7, s8] [])) target := by
  obtain ⟨T5, X5, e5, st5⟩ := getS2 X0 hx hZ hown (host := "") (Or.inl (hw _ (List.mem_of_getElem? (i := 18) rfl))) Via.refl e0 S_EXACTLY_ONE (g := (mkF m 60 #[s0, s1, s2, s3, .val (.int i4), .val (.long j5), .second, s7, s8] [])) rfl (hb hby at_60)
  refine ⟨T5, X5, e5, fun target kt => ?_⟩
  show Steps p.tables e below (T0.setTop (mkF m 27 #[s0, s1, s2, s3, .val (.int i4), .val (.long j5), .second, s7, s8] [])) _
  refine XS.iload X0.here hx rfl (hb hby at_27) rfl ?_
  show Steps p.tables e below (T0.setTop (mkF m 29 #[s0, s1, s2, s3, .val (.int i4), .val (.long j5), .second, s7, s8] [(.int i4)])) _
  refine XS.ifYes X0.here hx rfl (pc0 := 29) (pc' := 54) rfl (hb hby at_29) rfl ((if0 _ _).trans (feq hc29).2) (by decide) (by decide) ?_
  show Steps p.tables e below (T0.setTop (mkF m 54 #[s0, s1, s2, s3, .val (.int i4), .val (.long j5), .second, s7, s8] [])) _
  refine XS.iload X0.here hx rfl (hb hby at_54) rfl ?_
  show Steps p.tables e below (T0.setTop (mkF m 56 #[s0, s1, s2, s3, .val (.int i4), .val (.long j5), .second, s7, s8] [(.int i4)])) _
  refine XS.iconst X0.here hx rfl (hb hby at_56) ?_
  show Steps p.tables e below (T0.setTop (mkF m 57 #[s0, s1, s2, s3, .val (.int i4), .val (.long j5), .second, s7, s8] [(.int (1 : Int32)), (.int i4)])) _
  refine XS.icmpNo X0.here hx rfl (hb hby at_57) rfl (teq hc57).2 ?_
  show Steps p.tables e below (T0.setTop (mkF m 60 #[s0, s1, s2, s3, .val (.int i4), .val (.long j5), .second, s7, s8] [])) _
  refine st5 _ ?_
  show Steps p.tables e below (T5.setTop (mkF m 63 #[s0, s1, s2, s3, .val (.int i4), .val (.long j5), .second, s7, s8] [(.ref w4)])) _
  refine XS.astore X5.here hx rfl (hb hby at_63) rfl rfl (l' := #[s0, s1, s2, s3, .val (.int i4), .val (.long j5), .second, .val (.ref w4), s8]) (os0_63 hs7) ?_
  show Steps p.tables e below (T5.setTop (mkF m 65 #[s0, s1, s2, s3, .val (.int i4), .val (.long j5), .second, .val (.ref w4), s8] [])) _
  refine XS.lload X5.here hx rfl (hb hby at_65) rfl ?_
  show Steps p.tables e below (T5.setTop (mkF m 67 #[s0, s1, s2, s3, .val (.int i4), .val (.long j5), .second, .val (.ref w4), s8] [(.long j5)])) _
  refine XS.lconst X5.here hx rfl (hb hby at_67) ?_
  show Steps p.tables e below (T5.setTop (mkF m 68 #[s0, s1, s2, s3, .val (.int i4), .val (.long j5), .second, .val (.ref w4), s8] [(.long (1 : Int64)), (.long j5)])) _
  refine XS.lcmp X5.here hx rfl (hb hby at_68) rfl ?_
  show Steps p.tables e below (T5.setTop (mkF m 69 #[s0, s1, s2, s3, .val (.int i4), .val (.long j5), .second, .val (.ref w4), s8] [(.int (lcmpW j5 (1 : Int64)))])) _
  refine XS.ifNo X5.here hx rfl (hb hby at_69) rfl ((if0 _ _).trans (teq hc69).2) ?_
  show Steps p.tables e below (T5.setTop (mkF m 72 #[s0, s1, s2, s3, .val (.int i4), .val (.long j5), .second, .val (.ref w4), s8] [])) _
  refine XS.iconst X5.here hx rfl (hb hby at_72) ?_
  show Steps p.tables e below (T5.setTop (mkF m 73 #[s0, s1, s2, s3, .val (.int i4), .val (.long j5), .second, .val (.ref w4), s8] [(.int (1 : Int32))])) _
  refine XS.goto X5.here hx rfl (pc0 := 73) (pc' := 77) rfl (hb hby at_73) (by decide) (by decide) ?_
  show Steps p.tables e below (T5.setTop (mkF m 77 #[s0, s1, s2, s3, .val (.int i4), .val (.long j5), .second, .val (.ref w4), s8] [(.int (1 : Int32))])) _
  refine XS.istore X5.here hx rfl (hb hby at_77) rfl (l' := #[s0, s1, s2, s3, .val (.int i4), .val (.long j5), .second, .val (.ref w4), .val (.int (1 : Int32))]) (os0_77 hs8) ?_
  show Steps p.tables e below (T5.setTop (mkF m 79 #[s0, s1, s2, s3, .val (.int i4), .val (.long j5), .second, .val (.ref w4), .val (.int (1 : Int32))] [])) _
  refine XS.goto X5.here hx rfl (pc0 := 79) (pc' := 164) rfl (hb hby at_79) (by decide) (by decide) ?_
  exact kt
set_option maxRecDepth 65536 in
set_option maxHeartbeats 40000000 in
theorem tn0_27_164_EXACTLY_ONE1 {p : Program} {l : Launch} {e : Env} {R : Room} {s : State} {m : MethodId} {args : Array Value} {below : List Frame} {meth : Method} {c : Code} {T0 : State} {locs : List Loc} {cells slots : Nat} {Z : State} {a0 : Array Value} {h0 : Heap} (s0 : Slot) (s1 : Slot) (s2 : Slot) (s3 : Slot) (i4 : Int32) (j5 : Int64) (s7 : Slot) (s8 : Slot) (w4 : Addr)
    (X0 : Stand p l e R s m args below meth c T0 locs cells slots) (hx : p.tables.exec = Jvm.exec) (hZ : Z.Warmed39 s.vm) (hw : ∀ d ∈ tables_1, d.before a0 Z = true) (hby : c.code = code) (hml : c.maxLocals = 9) (hown : s.vm.findClass "com/example/iron_axis/ironaxis/parser/OccurrenceAllowsPinLaw" = some m.cls) (e0 : T0.heap = h0) (S_EXACTLY_ONE : Sta Z h0 "com/example/iron_axis/ironaxis/parser/Occurrence" "EXACTLY_ONE" "Lcom/example/iron_axis/ironaxis/parser/Occurrence;" (.ref w4)) (hs7 : One s7) (hs8 : One s8) (hc29 : ¬ (i4 = (0 : Int32))) (hc57 : i4 = (1 : Int32)) (hc69 : ¬ ((lcmpW j5 (1 : Int64)) = (0 : Int32))) :
    ∃ (T' : State), Stand p l e R s m args below meth c T' locs cells slots ∧ T'.heap = h0 ∧
      ∀ target, Steps p.tables e below (T'.setTop (mkF m 164 #[s0, s1, s2, s3, .val (.int i4), .val (.long j5), .second, .val (.ref w4), .val (.int (0 : Int32))] [])) target → Steps p.tables e below (T0.setTop (mkF m 27 #[s0, s1, s2, s3, .val (.int i4), .val (.long j5), .second, s7, s8] [])) target := by
  obtain ⟨T5, X5, e5, st5⟩ := getS2 X0 hx hZ hown (host := "") (Or.inl (hw _ (List.mem_of_getElem? (i := 18) rfl))) Via.refl e0 S_EXACTLY_ONE (g := (mkF m 60 #[s0, s1, s2, s3, .val (.int i4), .val (.long j5), .second, s7, s8] [])) rfl (hb hby at_60)
  refine ⟨T5, X5, e5, fun target kt => ?_⟩
  show Steps p.tables e below (T0.setTop (mkF m 27 #[s0, s1, s2, s3, .val (.int i4), .val (.long j5), .second, s7, s8] [])) _
  refine XS.iload X0.here hx rfl (hb hby at_27) rfl ?_
  show Steps p.tables e below (T0.setTop (mkF m 29 #[s0, s1, s2, s3, .val (.int i4), .val (.long j5), .second, s7, s8] [(.int i4)])) _
  refine XS.ifYes X0.here hx rfl (pc0 := 29) (pc' := 54) rfl (hb hby at_29) rfl ((if0 _ _).trans (feq hc29).2) (by decide) (by decide) ?_
  show Steps p.tables e below (T0.setTop (mkF m 54 #[s0, s1, s2, s3, .val (.int i4), .val (.long j5), .second, s7, s8] [])) _
  refine XS.iload X0.here hx rfl (hb hby at_54) rfl ?_
  show Steps p.tables e below (T0.setTop (mkF m 56 #[s0, s1, s2, s3, .val (.int i4), .val (.long j5), .second, s7, s8] [(.int i4)])) _
  refine XS.iconst X0.here hx rfl (hb hby at_56) ?_
  show Steps p.tables e below (T0.setTop (mkF m 57 #[s0, s1, s2, s3, .val (.int i4), .val (.long j5), .second, s7, s8] [(.int (1 : Int32)), (.int i4)])) _
  refine XS.icmpNo X0.here hx rfl (hb hby at_57) rfl (teq hc57).2 ?_
  show Steps p.tables e below (T0.setTop (mkF m 60 #[s0, s1, s2, s3, .val (.int i4), .val (.long j5), .second, s7, s8] [])) _
  refine st5 _ ?_
  show Steps p.tables e below (T5.setTop (mkF m 63 #[s0, s1, s2, s3, .val (.int i4), .val (.long j5), .second, s7, s8] [(.ref w4)])) _
  refine XS.astore X5.here hx rfl (hb hby at_63) rfl rfl (l' := #[s0, s1, s2, s3, .val (.int i4), .val (.long j5), .second, .val (.ref w4), s8]) (os0_63 hs7) ?_
  show Steps p.tables e below (T5.setTop (mkF m 65 #[s0, s1, s2, s3, .val (.int i4), .val (.long j5), .second, .val (.ref w4), s8] [])) _
  refine XS.lload X5.here hx rfl (hb hby at_65) rfl ?_
  show Steps p.tables e below (T5.setTop (mkF m 67 #[s0, s1, s2, s3, .val (.int i4), .val (.long j5), .second, .val (.ref w4), s8] [(.long j5)])) _
  refine XS.lconst X5.here hx rfl (hb hby at_67) ?_
  show Steps p.tables e below (T5.setTop (mkF m 68 #[s0, s1, s2, s3, .val (.int i4), .val (.long j5), .second, .val (.ref w4), s8] [(.long (1 : Int64)), (.long j5)])) _
  refine XS.lcmp X5.here hx rfl (hb hby at_68) rfl ?_
  show Steps p.tables e below (T5.setTop (mkF m 69 #[s0, s1, s2, s3, .val (.int i4), .val (.long j5), .second, .val (.ref w4), s8] [(.int (lcmpW j5 (1 : Int64)))])) _
  refine XS.ifYes X5.here hx rfl (pc0 := 69) (pc' := 76) rfl (hb hby at_69) rfl ((if0 _ _).trans (feq hc69).2) (by decide) (by decide) ?_
  show Steps p.tables e below (T5.setTop (mkF m 76 #[s0, s1, s2, s3, .val (.int i4), .val (.long j5), .second, .val (.ref w4), s8] [])) _
  refine XS.iconst X5.here hx rfl (hb hby at_76) ?_
  show Steps p.tables e below (T5.setTop (mkF m 77 #[s0, s1, s2, s3, .val (.int i4), .val (.long j5), .second, .val (.ref w4), s8] [(.int (0 : Int32))])) _
  refine XS.istore X5.here hx rfl (hb hby at_77) rfl (l' := #[s0, s1, s2, s3, .val (.int i4), .val (.long j5), .second, .val (.ref w4), .val (.int (0 : Int32))]) (os0_77 hs8) ?_
  show Steps p.tables e below (T5.setTop (mkF m 79 #[s0, s1, s2, s3, .val (.int i4), .val (.long j5), .second, .val (.ref w4), .val (.int (0 : Int32))] [])) _
  refine XS.goto X5.here hx rfl (pc0 := 79) (pc' := 164) rfl (hb hby at_79) (by decide) (by decide) ?_
  exact kt
theorem os0_91 {s0 : Slot} {s1 : Slot} {s2 : Slot} {s3 : Slot} {z4 : Value} {z5 : Value} {s7 : Slot} {s8 : Slot} {v : Addr} (h : One s7) : storeLocals #[s0, s1, s2, s3, .val z4, .val z5, .second, s7, s8] 7 (.ref v) = some #[s0, s1, s2, s3, .val z4, .val z5, .second, .val (.ref v), s8] := by
  rcases h with rfl | ⟨w, rfl, hw⟩
  · rfl
  · cases w <;> first | rfl | (simp [Value.category] at hw)
theorem os0_112 {s0 : Slot} {s1 : Slot} {s2 : Slot} {s3 : Slot} {z4 : Value} {z5 : Value} {z7 : Value} {s8 : Slot} {v : Int32} (h : One s8) : storeLocals #[s0, s1, s2, s3, .val z4, .val z5, .second, .val z7, s8] 8 (.int v) = some #[s0, s1, s2, s3, .val z4, .val z5, .second, .val z7, .val (.int v)] := by
  rcases h with rfl | ⟨w, rfl, hw⟩
  · rfl
  · cases w <;> first | rfl | (simp [Value.category] at hw)
set_option maxRecDepth 65536 in
set_option maxHeartbeats 40000000 in
theorem tn0_27_164_ZERO_OR_ONE0 {p : Program} {l : Launch} {e : Env} {R : Room} {s : State} {m : MethodId} {args : Array Value} {below : List Frame} {meth : Method} {c : Code} {T0 : State} {locs : List Loc} {cells slots : Nat} {Z : State} {a0 : Array Value} {h0 : Heap} (s0 : Slot) (s1 : Slot) (s2 : Slot) (s3 : Slot) (i4 : Int32) (j5 : Int64) (s7 : Slot) (s8 : Slot) (w4 : Addr)
    (X0 : Stand p l e R s m args below meth c T0 locs cells slots) (hx : p.tables.exec = Jvm.exec) (hZ : Z.Warmed39 s.vm) (hw : ∀ d ∈ tables_1, d.before a0 Z = true) (hby : c.code = code) (hml : c.maxLocals = 9) (hown : s.vm.findClass "com/example/iron_axis/ironaxis/parser/OccurrenceAllowsPinLaw" = some m.cls) (e0 : T0.heap = h0) (S_ZERO_OR_ONE : Sta Z h0 "com/example/iron_axis/ironaxis/parser/Occurrence" "ZERO_OR_ONE" "Lcom/example/iron_axis/ironaxis/parser/Occurrence;" (.ref w4)) (hs7 : One s7) (hs8 : One s8) (hc29 : ¬ (i4 = (0 : Int32))) (hc57 : ¬ (i4 = (1 : Int32))) (hc85 : i4 = (2 : Int32)) (hc97 : (lcmpW j5 (0 : Int64)) = (0 : Int32)) :
    ∃ (T' : State), Stand p l e R s m args below meth c T' locs cells slots ∧ T'.heap = h0 ∧
      ∀ target, Steps p.tables e below (T'.setTop (mkF m 164 #[s0, s1, s2, s3, .val (.int i4), .val (.long j5), .second, .val (.ref w4), .val (.int (1 : Int32))] [])) target → Steps p.tables e below (T0.setTop (mkF m 27 #[s0, s1, s2, s3, .val (.int i4), .val (.long j5), .second, s7, s8] [])) target := by
  obtain ⟨T5, X5, e5, st5⟩ := getS2 X0 hx hZ hown (host := "") (Or.inl (hw _ (List.mem_of_getElem? (i := 14) rfl))) Via.refl e0 S_ZERO_OR_ONE (g := (mkF m 88 #[s0, s1, s2, s3, .val (.int i4), .val (.long j5), .second, s7, s8] [])) rfl (hb hby at_88)
  refine ⟨T5, X5, e5, fun target kt => ?_⟩
  show Steps p.tables e below (T0.setTop (mkF m 27 #[s0, s1, s2, s3, .val (.int i4), .val (.long j5), .second, s7, s8] [])) _
  refine XS.iload X0.here hx rfl (hb hby at_27) rfl ?_
  show Steps p.tables e below (T0.setTop (mkF m 29 #[s0, s1, s2, s3, .val (.int i4), .val (.long j5), .second, s7, s8] [(.int i4)])) _
  refine XS.ifYes X0.here hx rfl (pc0 := 29) (pc' := 54) rfl (hb hby at_29) rfl ((if0 _ _).trans (feq hc29).2) (by decide) (by decide) ?_
  show Steps p.tables e below (T0.setTop (mkF m 54 #[s0, s1, s2, s3, .val (.int i4), .val (.long j5), .second, s7, s8] [])) _
  refine XS.iload X0.here hx rfl (hb hby at_54) rfl ?_
  show Steps p.tables e below (T0.setTop (mkF m 56 #[s0, s1, s2, s3, .val (.int i4), .val (.long j5), .second, s7, s8] [(.int i4)])) _
  refine XS.iconst X0.here hx rfl (hb hby at_56) ?_
  show Steps p.tables e below (T0.setTop (mkF m 57 #[s0, s1, s2, s3, .val (.int i4), .val (.long j5), .second, s7, s8] [(.int (1 : Int32)), (.int i4)])) _
  refine XS.icmpYes X0.here hx rfl (pc0 := 57) (pc' := 82) rfl (hb hby at_57) rfl (feq hc57).2 (by decide) (by decide) ?_
  show Steps p.tables e below (T0.setTop (mkF m 82 #[s0, s1, s2, s3, .val (.int i4), .val (.long j5), .second, s7, s8] [])) _
  refine XS.iload X0.here hx rfl (hb hby at_82) rfl ?_
  show Steps p.tables e below (T0.setTop (mkF m 84 #[s0, s1, s2, s3, .val (.int i4), .val (.long j5), .second, s7, s8] [(.int i4)])) _
  refine XS.iconst X0.here hx rfl (hb hby at_84) ?_
  show Steps p.tables e below (T0.setTop (mkF m 85 #[s0, s1, s2, s3, .val (.int i4), .val (.long j5), .second, s7, s8] [(.int (2 : Int32)), (.int i4)])) _
  refine XS.icmpNo X0.here hx rfl (hb hby at_85) rfl (teq hc85).2 ?_
  show Steps p.tables e below (T0.setTop (mkF m 88 #[s0, s1, s2, s3, .val (.int i4), .val (.long j5), .second, s7, s8] [])) _
  refine st5 _ ?_
  show Steps p.tables e below (T5.setTop (mkF m 91 #[s0, s1, s2, s3, .val (.int i4), .val (.long j5), .second, s7, s8] [(.ref w4)])) _
  refine XS.astore X5.here hx rfl (hb hby at_91) rfl rfl (l' := #[s0, s1, s2, s3, .val (.int i4), .val (.long j5), .second, .val (.ref w4), s8]) (os0_91 hs7) ?_
  show Steps p.tables e below (T5.setTop (mkF m 93 #[s0, s1, s2, s3, .val (.int i4), .val (.long j5), .second, .val (.ref w4), s8] [])) _
  refine XS.lload X5.here hx rfl (hb hby at_93) rfl ?_
  show Steps p.tables e below (T5.setTop (mkF m 95 #[s0, s1, s2, s3, .val (.int i4), .val (.long j5), .second, .val (.ref w4), s8] [(.long j5)])) _
  refine XS.lconst X5.here hx rfl (hb hby at_95) ?_
  show Steps p.tables e below (T5.setTop (mkF m 96 #[s0, s1, s2, s3, .val (.int i4), .val (.long j5), .second, .val (.ref w4), s8] [(.long (0 : Int64)), (.long j5)])) _
  refine XS.lcmp X5.here hx rfl (hb hby at_96) rfl ?_
  show Steps p.tables e below (T5.setTop (mkF m 97 #[s0, s1, s2, s3, .val (.int i4), .val (.long j5), .second, .val (.ref w4), s8] [(.int (lcmpW j5 (0 : Int64)))])) _
  refine XS.ifYes X5.here hx rfl (pc0 := 97) (pc' := 107) rfl (hb hby at_97) rfl ((if0 _ _).trans (teq hc97).1) (by decide) (by decide) ?_
  show Steps p.tables e below (T5.setTop (mkF m 107 #[s0, s1, s2, s3, .val (.int i4), .val (.long j5), .second, .val (.ref w4), s8] [])) _
  refine XS.iconst X5.here hx rfl (hb hby at_107) ?_
  show Steps p.tables e below (T5.setTop (mkF m 108 #[s0, s1, s2, s3, .val (.int i4), .val (.long j5), .second, .val (.ref w4), s8] [(.int (1 : Int32))])) _
  refine XS.goto X5.here hx rfl (pc0 := 108) (pc' := 112) rfl (hb hby at_108) (by decide) (by decide) ?_
  show Steps p.tables e below (T5.setTop (mkF m 112 #[s0, s1, s2, s3, .val (.int i4), .val (.long j5), .second, .val (.ref w4), s8] [(.int (1 : Int32))])) _
  refine XS.istore X5.here hx rfl (hb hby at_112) rfl (l' := #[s0, s1, s2, s3, .val (.int i4), .val (.long j5), .second, .val (.ref w4), .val (.int (1 : Int32))]) (os0_112 hs8) ?_
  show Steps p.tables e below (T5.setTop (mkF m 114 #[s0, s1, s2, s3, .val (.int i4), .val (.long j5), .second, .val (.ref w4), .val (.int (1 : Int32))] [])) _
  refine XS.goto X5.here hx rfl (pc0 := 114) (pc' := 164) rfl (hb hby at_114) (by decide) (by decide) ?_
  exact kt
set_option maxRecDepth 65536 in
set_option maxHeartbeats 40000000 in
theorem tn0_27_164_ZERO_OR_ONE1 {p : Program} {l : Launch} {e : Env} {R : Room} {s : State} {m : MethodId} {args : Array Value} {below : List Frame} {meth : Method} {c : Code} {T0 : State} {locs : List Loc} {cells slots : Nat} {Z : State} {a0 : Array Value} {h0 : Heap} (s0 : Slot) (s1 : Slot) (s2 : Slot) (s3 : Slot) (i4 : Int32) (j5 : Int64) (s7 : Slot) (s8 : Slot) (w4 : Addr)
    (X0 : Stand p l e R s m args below meth c T0 locs cells slots) (hx : p.tables.exec = Jvm.exec) (hZ : Z.Warmed39 s.vm) (hw : ∀ d ∈ tables_1, d.before a0 Z = true) (hby : c.code = code) (hml : c.maxLocals = 9) (hown : s.vm.findClass "com/example/iron_axis/ironaxis/parser/OccurrenceAllowsPinLaw" = some m.cls) (e0 : T0.heap = h0) (S_ZERO_OR_ONE : Sta Z h0 "com/example/iron_axis/ironaxis/parser/Occurrence" "ZERO_OR_ONE" "Lcom/example/iron_axis/ironaxis/parser/Occurrence;" (.ref w4)) (hs7 : One s7) (hs8 : One s8) (hc29 : ¬ (i4 = (0 : Int32))) (hc57 : ¬ (i4 = (1 : Int32))) (hc85 : i4 = (2 : Int32)) (hc97 : ¬ ((lcmpW j5 (0 : Int64)) = (0 : Int32))) (hc104 : (lcmpW j5 (1 : Int64)) = (0 : Int32)) :
    ∃ (T' : State), Stand p l e R s m args below meth c T' locs cells slots ∧ T'.heap = h0 ∧
      ∀ target, Steps p.tables e below (T'.setTop (mkF m 164 #[s0, s1, s2, s3, .val (.int i4), .val (.long j5), .second, .val (.ref w4), .val (.int (1 : Int32))] [])) target → Steps p.tables e below (T0.setTop (mkF m 27 #[s0, s1, s2, s3, .val (.int i4), .val (.long j5), .second, s7, s8] [])) target := by
  obtain ⟨T5, X5, e5, st5⟩ := getS2 X0 hx hZ hown (host := "") (Or.inl (hw _ (List.mem_of_getElem? (i := 14) rfl))) Via.refl e0 S_ZERO_OR_ONE (g := (mkF m 88 #[s0, s1, s2, s3, .val (.int i4), .val (.long j5), .second, s7, s8] [])) rfl (hb hby at_88)
  refine ⟨T5, X5, e5, fun target kt => ?_⟩
  show Steps p.tables e below (T0.setTop (mkF m 27 #[s0, s1, s2, s3, .val (.int i4), .val (.long j5), .second, s7, s8] [])) _
  refine XS.iload X0.here hx rfl (hb hby at_27) rfl ?_
  show Steps p.tables e below (T0.setTop (mkF m 29 #[s0, s1, s2, s3, .val (.int i4), .val (.long j5), .second, s7, s8] [(.int i4)])) _
  refine XS.ifYes X0.here hx rfl (pc0 := 29) (pc' := 54) rfl (hb hby at_29) rfl ((if0 _ _).trans (feq hc29).2) (by decide) (by decide) ?_
  show Steps p.tables e below (T0.setTop (mkF m 54 #[s0, s1, s2, s3, .val (.int i4), .val (.long j5), .second, s7, s8] [])) _
  refine XS.iload X0.here hx rfl (hb hby at_54) rfl ?_
  show Steps p.tables e below (T0.setTop (mkF m 56 #[s0, s1, s2, s3, .val (.int i4), .val (.long j5), .second, s7, s8] [(.int i4)])) _
  refine XS.iconst X0.here hx rfl (hb hby at_56) ?_
  show Steps p.tables e below (T0.setTop (mkF m 57 #[s0, s1, s2, s3, .val (.int i4), .val (.long j5), .second, s7, s8] [(.int (1 : Int32)), (.int i4)])) _
  refine XS.icmpYes X0.here hx rfl (pc0 := 57) (pc' := 82) rfl (hb hby at_57) rfl (feq hc57).2 (by decide) (by decide) ?_
  show Steps p.tables e below (T0.setTop (mkF m 82 #[s0, s1, s2, s3, .val (.int i4), .val (.long j5), .second, s7, s8] [])) _
  refine XS.iload X0.here hx rfl (hb hby at_82) rfl ?_
  show Steps p.tables e below (T0.setTop (mkF m 84 #[s0, s1, s2, s3, .val (.int i4), .val (.long j5), .second, s7, s8] [(.int i4)])) _
  refine XS.iconst X0.here hx rfl (hb hby at_84) ?_
  show Steps p.tables e below (T0.setTop (mkF m 85 #[s0, s1, s2, s3, .val (.int i4), .val (.long j5), .second, s7, s8] [(.int (2 : Int32)), (.int i4)])) _
  refine XS.icmpNo X0.here hx rfl (hb hby at_85) rfl (teq hc85).2 ?_
  show Steps p.tables e below (T0.setTop (mkF m 88 #[s0, s1, s2, s3, .val (.int i4), .val (.long j5), .second, s7, s8] [])) _
  refine st5 _ ?_
  show Steps p.tables e below (T5.setTop (mkF m 91 #[s0, s1, s2, s3, .val (.int i4), .val (.long j5), .second, s7, s8] [(.ref w4)])) _
  refine XS.astore X5.here hx rfl (hb hby at_91) rfl rfl (l' := #[s0, s1, s2, s3, .val (.int i4), .val (.long j5), .second, .val (.ref w4), s8]) (os0_91 hs7) ?_
  show Steps p.tables e below (T5.setTop (mkF m 93 #[s0, s1, s2, s3, .val (.int i4), .val (.long j5), .second, .val (.ref w4), s8] [])) _
  refine XS.lload X5.here hx rfl (hb hby at_93) rfl ?_
  show Steps p.tables e below (T5.setTop (mkF m 95 #[s0, s1, s2, s3, .val (.int i4), .val (.long j5), .second, .val (.ref w4), s8] [(.long j5)])) _
  refine XS.lconst X5.here hx rfl (hb hby at_95) ?_
  show Steps p.tables e below (T5.setTop (mkF m 96 #[s0, s1, s2, s3, .val (.int i4), .val (.long j5), .second, .val (.ref w4), s8] [(.long (0 : Int64)), (.long j5)])) _
  refine XS.lcmp X5.here hx rfl (hb hby at_96) rfl ?_
  show Steps p.tables e below (T5.setTop (mkF m 97 #[s0, s1, s2, s3, .val (.int i4), .val (.long j5), .second, .val (.ref w4), s8] [(.int (lcmpW j5 (0 : Int64)))])) _
  refine XS.ifNo X5.here hx rfl (hb hby at_97) rfl ((if0 _ _).trans (feq hc97).1) ?_
  show Steps p.tables e below (T5.setTop (mkF m 100 #[s0, s1, s2, s3, .val (.int i4), .val (.long j5), .second, .val (.ref w4), s8] [])) _
  refine XS.lload X5.here hx rfl (hb hby at_100) rfl ?_
  show Steps p.tables e below (T5.setTop (mkF m 102 #[s0, s1, s2, s3, .val (.int i4), .val (.long j5), .second, .val (.ref w4), s8] [(.long j5)])) _
  refine XS.lconst X5.here hx rfl (hb hby at_102) ?_
  show Steps p.tables e below (T5.setTop (mkF m 103 #[s0, s1, s2, s3, .val (.int i4), .val (.long j5), .second, .val (.ref w4), s8] [(.long (1 : Int64)), (.long j5)])) _
  refine XS.lcmp X5.here hx rfl (hb hby at_103) rfl ?_
  show Steps p.tables e below (T5.setTop (mkF m 104 #[s0, s1, s2, s3, .val (.int i4), .val (.long j5), .second, .val (.ref w4), s8] [(.int (lcmpW j5 (1 : Int64)))])) _
  refine XS.ifNo X5.here hx rfl (hb hby at_104) rfl ((if0 _ _).trans (teq hc104).2) ?_
  show Steps p.tables e below (T5.setTop (mkF m 107 #[s0, s1, s2, s3, .val (.int i4), .val (.long j5), .second, .val (.ref w4), s8] [])) _
  refine XS.iconst X5.here hx rfl (hb hby at_107) ?_
  show Steps p.tables e below (T5.setTop (mkF m 108 #[s0, s1, s2, s3, .val (.int i4), .val (.long j5), .second, .val (.ref w4), s8] [(.int (1 : Int32))])) _
  refine XS.goto X5.here hx rfl (pc0 := 108) (pc' := 112) rfl (hb hby at_108) (by decide) (by decide) ?_
  show Steps p.tables e below (T5.setTop (mkF m 112 #[s0, s1, s2, s3, .val (.int i4), .val (.long j5), .second, .val (.ref w4), s8] [(.int (1 : Int32))])) _
  refine XS.istore X5.here hx rfl (hb hby at_112) rfl (l' := #[s0, s1, s2, s3, .val (.int i4), .val (.long j5), .second, .val (.ref w4), .val (.int (1 : Int32))]) (os0_112 hs8) ?_
  show Steps p.tables e below (T5.setTop (mkF m 114 #[s0, s1, s2, s3, .val (.int i4), .val (.long j5), .second, .val (.ref w4), .val (.int (1 : Int32))] [])) _
  refine XS.goto X5.here hx rfl (pc0 := 114) (pc' := 164) rfl (hb hby at_114) (by decide) (by decide) ?_
  exact kt
set_option maxRecDepth 65536 in
set_option maxHeartbeats 40000000 in
theorem tn0_27_164_ZERO_OR_ONE2 {p : Program} {l : Launch} {e : Env} {R : Room} {s : State} {m : MethodId} {args : Array Value} {below : List Frame} {meth : Method} {c : Code} {T0 : State} {locs : List Loc} {cells slots : Nat} {Z : State} {a0 : Array Value} {h0 : Heap} (s0 : Slot) (s1 : Slot) (s2 : Slot) (s3 : Slot) (i4 : Int32) (j5 : Int64) (s7 : Slot) (s8 : Slot) (w4 : Addr)
    (X0 : Stand p l e R s m args below meth c T0 locs cells slots) (hx : p.tables.exec = Jvm.exec) (hZ : Z.Warmed39 s.vm) (hw : ∀ d ∈ tables_1, d.before a0 Z = true) (hby : c.code = code) (hml : c.maxLocals = 9) (hown : s.vm.findClass "com/example/iron_axis/ironaxis/parser/OccurrenceAllowsPinLaw" = some m.cls) (e0 : T0.heap = h0) (S_ZERO_OR_ONE : Sta Z h0 "com/example/iron_axis/ironaxis/parser/Occurrence" "ZERO_OR_ONE" "Lcom/example/iron_axis/ironaxis/parser/Occurrence;" (.ref w4)) (hs7 : One s7) (hs8 : One s8) (hc29 : ¬ (i4 = (0 : Int32))) (hc57 : ¬ (i4 = (1 : Int32))) (hc85 : i4 = (2 : Int32)) (hc97 : ¬ ((lcmpW j5 (0 : Int64)) = (0 : Int32))) (hc104 : ¬ ((lcmpW j5 (1 : Int64)) = (0 : Int32))) :
    ∃ (T' : State), Stand p l e R s m args below meth c T' locs cells slots ∧ T'.heap = h0 ∧
      ∀ target, Steps p.tables e below (T'.setTop (mkF m 164 #[s0, s1, s2, s3, .val (.int i4), .val (.long j5), .second, .val (.ref w4), .val (.int (0 : Int32))] [])) target → Steps p.tables e below (T0.setTop (mkF m 27 #[s0, s1, s2, s3, .val (.int i4), .val (.long j5), .second, s7, s8] [])) target := by
  obtain ⟨T5, X5, e5, st5⟩ := getS2 X0 hx hZ hown (host := "") (Or.inl (hw _ (List.mem_of_getElem? (i := 14) rfl))) Via.refl e0 S_ZERO_OR_ONE (g := (mkF m 88 #[s0, s1, s2, s3, .val (.int i4), .val (.long j5), .second, s7, s8] [])) rfl (hb hby at_88)
  refine ⟨T5, X5, e5, fun target kt => ?_⟩
  show Steps p.tables e below (T0.setTop (mkF m 27 #[s0, s1, s2, s3, .val (.int i4), .val (.long j5), .second, s7, s8] [])) _
  refine XS.iload X0.here hx rfl (hb hby at_27) rfl ?_
  show Steps p.tables e below (T0.setTop (mkF m 29 #[s0, s1, s2, s3, .val (.int i4), .val (.long j5), .second, s7, s8] [(.int i4)])) _
  refine XS.ifYes X0.here hx rfl (pc0 := 29) (pc' := 54) rfl (hb hby at_29) rfl ((if0 _ _).trans (feq hc29).2) (by decide) (by decide) ?_
  show Steps p.tables e below (T0.setTop (mkF m 54 #[s0, s1, s2, s3, .val (.int i4), .val (.long j5), .second, s7, s8] [])) _
  refine XS.iload X0.here hx rfl (hb hby at_54) rfl ?_
  show Steps p.tables e below (T0.setTop (mkF m 56 #[s0, s1, s2, s3, .val (.int i4), .val (.long j5), .second, s7, s8] [(.int i4)])) _
  refine XS.iconst X0.here hx rfl (hb hby at_56) ?_
  show Steps p.tables e below (T0.setTop (mkF m 57 #[s0, s1, s2, s3, .val (.int i4), .val (.long j5), .second, s7, s8] [(.int (1 : Int32)), (.int i4)])) _
  refine XS.icmpYes X0.here hx rfl (pc0 := 57) (pc' := 82) rfl (hb hby at_57) rfl (feq hc57).2 (by decide) (by decide) ?_
  show Steps p.tables e below (T0.setTop (mkF m 82 #[s0, s1, s2, s3, .val (.int i4), .val (.long j5), .second, s7, s8] [])) _
  refine XS.iload X0.here hx rfl (hb hby at_82) rfl ?_
  show Steps p.tables e below (T0.setTop (mkF m 84 #[s0, s1, s2, s3, .val (.int i4), .val (.long j5), .second, s7, s8] [(.int i4)])) _
  refine XS.iconst X0.here hx rfl (hb hby at_84) ?_
  show Steps p.tables e below (T0.setTop (mkF m 85 #[s0, s1, s2, s3, .val (.int i4), .val (.long j5), .second, s7, s8] [(.int (2 : Int32)), (.int i4)])) _
  refine XS.icmpNo X0.here hx rfl (hb hby at_85) rfl (teq hc85).2 ?_
  show Steps p.tables e below (T0.setTop (mkF m 88 #[s0, s1, s2, s3, .val (.int i4), .val (.long j5), .second, s7, s8] [])) _
  refine st5 _ ?_
  show Steps p.tables e below (T5.setTop (mkF m 91 #[s0, s1, s2, s3, .val (.int i4), .val (.long j5), .second, s7, s8] [(.ref w4)])) _
  refine XS.astore X5.here hx rfl (hb hby at_91) rfl rfl (l' := #[s0, s1, s2, s3, .val (.int i4), .val (.long j5), .second, .val (.ref w4), s8]) (os0_91 hs7) ?_
  show Steps p.tables e below (T5.setTop (mkF m 93 #[s0, s1, s2, s3, .val (.int i4), .val (.long j5), .second, .val (.ref w4), s8] [])) _
  refine XS.lload X5.here hx rfl (hb hby at_93) rfl ?_
  show Steps p.tables e below (T5.setTop (mkF m 95 #[s0, s1, s2, s3, .val (.int i4), .val (.long j5), .second, .val (.ref w4), s8] [(.long j5)])) _
  refine XS.lconst X5.here hx rfl (hb hby at_95) ?_
  show Steps p.tables e below (T5.setTop (mkF m 96 #[s0, s1, s2, s3, .val (.int i4), .val (.long j5), .second, .val (.ref w4), s8] [(.long (0 : Int64)), (.long j5)])) _
  refine XS.lcmp X5.here hx rfl (hb hby at_96) rfl ?_
  show Steps p.tables e below (T5.setTop (mkF m 97 #[s0, s1, s2, s3, .val (.int i4), .val (.long j5), .second, .val (.ref w4), s8] [(.int (lcmpW j5 (0 : Int64)))])) _
  refine XS.ifNo X5.here hx rfl (hb hby at_97) rfl ((if0 _ _).trans (feq hc97).1) ?_
  show Steps p.tables e below (T5.setTop (mkF m 100 #[s0, s1, s2, s3, .val (.int i4), .val (.long j5), .second, .val (.ref w4), s8] [])) _
  refine XS.lload X5.here hx rfl (hb hby at_100) rfl ?_
  show Steps p.tables e below (T5.setTop (mkF m 102 #[s0, s1, s2, s3, .val (.int i4), .val (.long j5), .second, .val (.ref w4), s8] [(.long j5)])) _
  refine XS.lconst X5.here hx rfl (hb hby at_102) ?_
  show Steps p.tables e below (T5.setTop (mkF m 103 #[s0, s1, s2, s3, .val (.int i4), .val (.long j5), .second, .val (.ref w4), s8] [(.long (1 : Int64)), (.long j5)])) _
  refine XS.lcmp X5.here hx rfl (hb hby at_103) rfl ?_
  show Steps p.tables e below (T5.setTop (mkF m 104 #[s0, s1, s2, s3, .val (.int i4), .val (.long j5), .second, .val (.ref w4), s8] [(.int (lcmpW j5 (1 : Int64)))])) _
  refine XS.ifYes X5.here hx rfl (pc0 := 104) (pc' := 111) rfl (hb hby at_104) rfl ((if0 _ _).trans (feq hc104).2) (by decide) (by decide) ?_
  show Steps p.tables e below (T5.setTop (mkF m 111 #[s0, s1, s2, s3, .val (.int i4), .val (.long j5), .second, .val (.ref w4), s8] [])) _
  refine XS.iconst X5.here hx rfl (hb hby at_111) ?_
  show Steps p.tables e below (T5.setTop (mkF m 112 #[s0, s1, s2, s3, .val (.int i4), .val (.long j5), .second, .val (.ref w4), s8] [(.int (0 : Int32))])) _
  refine XS.istore X5.here hx rfl (hb hby at_112) rfl (l' := #[s0, s1, s2, s3, .val (.int i4), .val (.long j5), .second, .val (.ref w4), .val (.int (0 : Int32))]) (os0_112 hs8) ?_
  show Steps p.tables e below (T5.setTop (mkF m 114 #[s0, s1, s2, s3, .val (.int i4), .val (.long j5), .second, .val (.ref w4), .val (.int (0 : Int32))] [])) _
  refine XS.goto X5.here hx rfl (pc0 := 114) (pc' := 164) rfl (hb hby at_114) (by decide) (by decide) ?_
  exact kt
theorem os0_126 {s0 : Slot} {s1 : Slot} {s2 : Slot} {s3 : Slot} {z4 : Value} {z5 : Value} {s7 : Slot} {s8 : Slot} {v : Addr} (h : One s7) : storeLocals #[s0, s1, s2, s3, .val z4, .val z5, .second, s7, s8] 7 (.ref v) = some #[s0, s1, s2, s3, .val z4, .val z5, .second, .val (.ref v), s8] := by
  rcases h with rfl | ⟨w, rfl, hw⟩
  · rfl
  · cases w <;> first | rfl | (simp [Value.category] at hw)
theorem os0_140 {s0 : Slot} {s1 : Slot} {s2 : Slot} {s3 : Slot} {z4 : Value} {z5 : Value} {z7 : Value} {s8 : Slot} {v : Int32} (h : One s8) : storeLocals #[s0, s1, s2, s3, .val z4, .val z5, .second, .val z7, s8] 8 (.int v) = some #[s0, s1, s2, s3, .val z4, .val z5, .second, .val z7, .val (.int v)] := by
  rcases h with rfl | ⟨w, rfl, hw⟩
  · rfl
  · cases w <;> first | rfl | (simp [Value.category] at hw)
set_option maxRecDepth 65536 in
set_option maxHeartbeats 40000000 in
theorem tn0_27_164_ZERO_OR_MORE0 {p : Program} {l : Launch} {e : Env} {R : Room} {s : State} {m : MethodId} {args : Array Value} {below : List Frame} {meth : Method} {c : Code} {T0 : State} {locs : List Loc} {cells slots : Nat} {Z : State} {a0 : Array Value} {h0 : Heap} (s0 : Slot) (s1 : Slot) (s2 : Slot) (s3 : Slot) (i4 : Int32) (j5 : Int64) (s7 : Slot) (s8 : Slot) (w4 : Addr)
    (X0 : Stand p l e R s m args below meth c T0 locs cells slots) (hx : p.tables.exec = Jvm.exec) (hZ : Z.Warmed39 s.vm) (hw : ∀ d ∈ tables_1, d.before a0 Z = true) (hby : c.code = code) (hml : c.maxLocals = 9) (hown : s.vm.findClass "com/example/iron_axis/ironaxis/parser/OccurrenceAllowsPinLaw" = some m.cls) (e0 : T0.heap = h0) (S_ZERO_OR_MORE : Sta Z h0 "com/example/iron_axis/ironaxis/parser/Occurrence" "ZERO_OR_MORE" "Lcom/example/iron_axis/ironaxis/parser/Occurrence;" (.ref w4)) (hs7 : One s7) (hs8 : One s8) (hc29 : ¬ (i4 = (0 : Int32))) (hc57 : ¬ (i4 = (1 : Int32))) (hc85 : ¬ (i4 = (2 : Int32))) (hc120 : i4 = (3 : Int32)) (hc132 : ¬ ((lcmpW j5 (0 : Int64)) < (0 : Int32))) :
    ∃ (T' : State), Stand p l e R s m args below meth c T' locs cells slots ∧ T'.heap = h0 ∧
      ∀ target, Steps p.tables e below (T'.setTop (mkF m 164 #[s0, s1, s2, s3, .val (.int i4), .val (.long j5), .second, .val (.ref w4), .val (.int (1 : Int32))] [])) target → Steps p.tables e below (T0.setTop (mkF m 27 #[s0, s1, s2, s3, .val (.int i4), .val (.long j5), .second, s7, s8] [])) target := by
  obtain ⟨T5, X5, e5, st5⟩ := getS2 X0 hx hZ hown (host := "") (Or.inl (hw _ (List.mem_of_getElem? (i := 20) rfl))) Via.refl e0 S_ZERO_OR_MORE (g := (mkF m 123 #[s0, s1, s2, s3, .val (.int i4), .val (.long j5), .second, s7, s8] [])) rfl (hb hby at_123)
  refine ⟨T5, X5, e5, fun target kt => ?_⟩
  show Steps p.tables e below (T0.setTop (mkF m 27 #[s0, s1, s2, s3, .val (.int i4), .val (.long j5), .second, s7, s8] [])) _
  refine XS.iload X0.here hx rfl (hb hby at_27) rfl ?_
  show Steps p.tables e below (T0.setTop (mkF m 29 #[s0, s1, s2, s3, .val (.int i4), .val (.long j5), .second, s7, s8] [(.int i4)])) _
  refine XS.ifYes X0.here hx rfl (pc0 := 29) (pc' := 54) rfl (hb hby at_29) rfl ((if0 _ _).trans (feq hc29).2) (by decide) (by decide) ?_
  show Steps p.tables e below (T0.setTop (mkF m 54 #[s0, s1, s2, s3, .val (.int i4), .val (.long j5), .second, s7, s8] [])) _
  refine XS.iload X0.here hx rfl (hb hby at_54) rfl ?_
  show Steps p.tables e below (T0.setTop (mkF m 56 #[s0, s1, s2, s3, .val (.int i4), .val (.long j5), .second, s7, s8] [(.int i4)])) _
  refine XS.iconst X0.here hx rfl (hb hby at_56) ?_
  show Steps p.tables e below (T0.setTop (mkF m 57 #[s0, s1, s2, s3, .val (.int i4), .val (.long j5), .second, s7, s8] [(.int (1 : Int32)), (.int i4)])) _
  refine XS.icmpYes X0.here hx rfl (pc0 := 57) (pc' := 82) rfl (hb hby at_57) rfl (feq hc57).2 (by decide) (by decide) ?_
  show Steps p.tables e below (T0.setTop (mkF m 82 #[s0, s1, s2, s3, .val (.int i4), .val (.long j5), .second, s7, s8] [])) _
  refine XS.iload X0.here hx rfl (hb hby at_82) rfl ?_
  show Steps p.tables e below (T0.setTop (mkF m 84 #[s0, s1, s2, s3, .val (.int i4), .val (.long j5), .second, s7, s8] [(.int i4)])) _
  refine XS.iconst X0.here hx rfl (hb hby at_84) ?_
  show Steps p.tables e below (T0.setTop (mkF m 85 #[s0, s1, s2, s3, .val (.int i4), .val (.long j5), .second, s7, s8] [(.int (2 : Int32)), (.int i4)])) _
  refine XS.icmpYes X0.here hx rfl (pc0 := 85) (pc' := 117) rfl (hb hby at_85) rfl (feq hc85).2 (by decide) (by decide) ?_
  show Steps p.tables e below (T0.setTop (mkF m 117 #[s0, s1, s2, s3, .val (.int i4), .val (.long j5), .second, s7, s8] [])) _
  refine XS.iload X0.here hx rfl (hb hby at_117) rfl ?_
  show Steps p.tables e below (T0.setTop (mkF m 119 #[s0, s1, s2, s3, .val (.int i4), .val (.long j5), .second, s7, s8] [(.int i4)])) _
  refine XS.iconst X0.here hx rfl (hb hby at_119) ?_
  show Steps p.tables e below (T0.setTop (mkF m 120 #[s0, s1, s2, s3, .val (.int i4), .val (.long j5), .second, s7, s8] [(.int (3 : Int32)), (.int i4)])) _
  refine XS.icmpNo X0.here hx rfl (hb hby at_120) rfl (teq hc120).2 ?_
  show Steps p.tables e below (T0.setTop (mkF m 123 #[s0, s1, s2, s3, .val (.int i4), .val (.long j5), .second, s7, s8] [])) _
  refine st5 _ ?_
  show Steps p.tables e below (T5.setTop (mkF m 126 #[s0, s1, s2, s3, .val (.int i4), .val (.long j5), .second, s7, s8] [(.ref w4)])) _
  refine XS.astore X5.here hx rfl (hb hby at_126) rfl rfl (l' := #[s0, s1, s2, s3, .val (.int i4), .val (.long j5), .second, .val (.ref w4), s8]) (os0_126 hs7) ?_
  show Steps p.tables e below (T5.setTop (mkF m 128 #[s0, s1, s2, s3, .val (.int i4), .val (.long j5), .second, .val (.ref w4), s8] [])) _
  refine XS.lload X5.here hx rfl (hb hby at_128) rfl ?_
  show Steps p.tables e below (T5.setTop (mkF m 130 #[s0, s1, s2, s3, .val (.int i4), .val (.long j5), .second, .val (.ref w4), s8] [(.long j5)])) _
  refine XS.lconst X5.here hx rfl (hb hby at_130) ?_
  show Steps p.tables e below (T5.setTop (mkF m 131 #[s0, s1, s2, s3, .val (.int i4), .val (.long j5), .second, .val (.ref w4), s8] [(.long (0 : Int64)), (.long j5)])) _
  refine XS.lcmp X5.here hx rfl (hb hby at_131) rfl ?_
  show Steps p.tables e below (T5.setTop (mkF m 132 #[s0, s1, s2, s3, .val (.int i4), .val (.long j5), .second, .val (.ref w4), s8] [(.int (lcmpW j5 (0 : Int64)))])) _
  refine XS.ifNo X5.here hx rfl (hb hby at_132) rfl ((if0 _ _).trans (flt hc132).1) ?_
  show Steps p.tables e below (T5.setTop (mkF m 135 #[s0, s1, s2, s3, .val (.int i4), .val (.long j5), .second, .val (.ref w4), s8] [])) _
  refine XS.iconst X5.here hx rfl (hb hby at_135) ?_
  show Steps p.tables e below (T5.setTop (mkF m 136 #[s0, s1, s2, s3, .val (.int i4), .val (.long j5), .second, .val (.ref w4), s8] [(.int (1 : Int32))])) _
  refine XS.goto X5.here hx rfl (pc0 := 136) (pc' := 140) rfl (hb hby at_136) (by decide) (by decide) ?_
  show Steps p.tables e below (T5.setTop (mkF m 140 #[s0, s1, s2, s3, .val (.int i4), .val (.long j5), .second, .val (.ref w4), s8] [(.int (1 : Int32))])) _
  refine XS.istore X5.here hx rfl (hb hby at_140) rfl (l' := #[s0, s1, s2, s3, .val (.int i4), .val (.long j5), .second, .val (.ref w4), .val (.int (1 : Int32))]) (os0_140 hs8) ?_
  show Steps p.tables e below (T5.setTop (mkF m 142 #[s0, s1, s2, s3, .val (.int i4), .val (.long j5), .second, .val (.ref w4), .val (.int (1 : Int32))] [])) _
  refine XS.goto X5.here hx rfl (pc0 := 142) (pc' := 164) rfl (hb hby at_142) (by decide) (by decide) ?_
  exact kt
set_option maxRecDepth 65536 in
set_option maxHeartbeats 40000000 in
theorem tn0_27_164_ZERO_OR_MORE1 {p : Program} {l : Launch} {e : Env} {R : Room} {s : State} {m : MethodId} {args : Array Value} {below : List Frame} {meth : Method} {c : Code} {T0 : State} {locs : List Loc} {cells slots : Nat} {Z : State} {a0 : Array Value} {h0 : Heap} (s0 : Slot) (s1 : Slot) (s2 : Slot) (s3 : Slot) (i4 : Int32) (j5 : Int64) (s7 : Slot) (s8 : Slot) (w4 : Addr)
    (X0 : Stand p l e R s m args below meth c T0 locs cells slots) (hx : p.tables.exec = Jvm.exec) (hZ : Z.Warmed39 s.vm) (hw : ∀ d ∈ tables_1, d.before a0 Z = true) (hby : c.code = code) (hml : c.maxLocals = 9) (hown : s.vm.findClass "com/example/iron_axis/ironaxis/parser/OccurrenceAllowsPinLaw" = some m.cls) (e0 : T0.heap = h0) (S_ZERO_OR_MORE : Sta Z h0 "com/example/iron_axis/ironaxis/parser/Occurrence" "ZERO_OR_MORE" "Lcom/example/iron_axis/ironaxis/parser/Occurrence;" (.ref w4)) (hs7 : One s7) (hs8 : One s8) (hc29 : ¬ (i4 = (0 : Int32))) (hc57 : ¬ (i4 = (1 : Int32))) (hc85 : ¬ (i4 = (2 : Int32))) (hc120 : i4 = (3 : Int32)) (hc132 : (lcmpW j5 (0 : Int64)) < (0 : Int32)) :
    ∃ (T' : State), Stand p l e R s m args below meth c T' locs cells slots ∧ T'.heap = h0 ∧
      ∀ target, Steps p.tables e below (T'.setTop (mkF m 164 #[s0, s1, s2, s3, .val (.int i4), .val (.long j5), .second, .val (.ref w4), .val (.int (0 : Int32))] [])) target → Steps p.tables e below (T0.setTop (mkF m 27 #[s0, s1, s2, s3, .val (.int i4), .val (.long j5), .second, s7, s8] [])) target := by
  obtain ⟨T5, X5, e5, st5⟩ := getS2 X0 hx hZ hown (host := "") (Or.inl (hw _ (List.mem_of_getElem? (i := 20) rfl))) Via.refl e0 S_ZERO_OR_MORE (g := (mkF m 123 #[s0, s1, s2, s3, .val (.int i4), .val (.long j5), .second, s7, s8] [])) rfl (hb hby at_123)
  refine ⟨T5, X5, e5, fun target kt => ?_⟩
  show Steps p.tables e below (T0.setTop (mkF m 27 #[s0, s1, s2, s3, .val (.int i4), .val (.long j5), .second, s7, s8] [])) _
  refine XS.iload X0.here hx rfl (hb hby at_27) rfl ?_
  show Steps p.tables e below (T0.setTop (mkF m 29 #[s0, s1, s2, s3, .val (.int i4), .val (.long j5), .second, s7, s8] [(.int i4)])) _
  refine XS.ifYes X0.here hx rfl (pc0 := 29) (pc' := 54) rfl (hb hby at_29) rfl ((if0 _ _).trans (feq hc29).2) (by decide) (by decide) ?_
  show Steps p.tables e below (T0.setTop (mkF m 54 #[s0, s1, s2, s3, .val (.int i4), .val (.long j5), .second, s7, s8] [])) _
  refine XS.iload X0.here hx rfl (hb hby at_54) rfl ?_
  show Steps p.tables e below (T0.setTop (mkF m 56 #[s0, s1, s2, s3, .val (.int i4), .val (.long j5), .second, s7, s8] [(.int i4)])) _
  refine XS.iconst X0.here hx rfl (hb hby at_56) ?_
  show Steps p.tables e below (T0.setTop (mkF m 57 #[s0, s1, s2, s3, .val (.int i4), .val (.long j5), .second, s7, s8] [(.int (1 : Int32)), (.int i4)])) _
  refine XS.icmpYes X0.here hx rfl (pc0 := 57) (pc' := 82) rfl (hb hby at_57) rfl (feq hc57).2 (by decide) (by decide) ?_
  show Steps p.tables e below (T0.setTop (mkF m 82 #[s0, s1, s2, s3, .val (.int i4), .val (.long j5), .second, s7, s8] [])) _
  refine XS.iload X0.here hx rfl (hb hby at_82) rfl ?_
  show Steps p.tables e below (T0.setTop (mkF m 84 #[s0, s1, s2, s3, .val (.int i4), .val (.long j5), .second, s7, s8] [(.int i4)])) _
  refine XS.iconst X0.here hx rfl (hb hby at_84) ?_
  show Steps p.tables e below (T0.setTop (mkF m 85 #[s0, s1, s2, s3, .val (.int i4), .val (.long j5), .second, s7, s8] [(.int (2 : Int32)), (.int i4)])) _
  refine XS.icmpYes X0.here hx rfl (pc0 := 85) (pc' := 117) rfl (hb hby at_85) rfl (feq hc85).2 (by decide) (by decide) ?_
  show Steps p.tables e below (T0.setTop (mkF m 117 #[s0, s1, s2, s3, .val (.int i4), .val (.long j5), .second, s7, s8] [])) _
  refine XS.iload X0.here hx rfl (hb hby at_117) rfl ?_
  show Steps p.tables e below (T0.setTop (mkF m 119 #[s0, s1, s2, s3, .val (.int i4), .val (.long j5), .second, s7, s8] [(.int i4)])) _
  refine XS.iconst X0.here hx rfl (hb hby at_119) ?_
  show Steps p.tables e below (T0.setTop (mkF m 120 #[s0, s1, s2, s3, .val (.int i4), .val (.long j5), .second, s7, s8] [(.int (3 : Int32)), (.int i4)])) _
  refine XS.icmpNo X0.here hx rfl (hb hby at_120) rfl (teq hc120).2 ?_
  show Steps p.tables e below (T0.setTop (mkF m 123 #[s0, s1, s2, s3, .val (.int i4), .val (.long j5), .second, s7, s8] [])) _
  refine st5 _ ?_
  show Steps p.tables e below (T5.setTop (mkF m 126 #[s0, s1, s2, s3, .val (.int i4), .val (.long j5), .second, s7, s8] [(.ref w4)])) _
  refine XS.astore X5.here hx rfl (hb hby at_126) rfl rfl (l' := #[s0, s1, s2, s3, .val (.int i4), .val (.long j5), .second, .val (.ref w4), s8]) (os0_126 hs7) ?_
  show Steps p.tables e below (T5.setTop (mkF m 128 #[s0, s1, s2, s3, .val (.int i4), .val (.long j5), .second, .val (.ref w4), s8] [])) _
  refine XS.lload X5.here hx rfl (hb hby at_128) rfl ?_
  show Steps p.tables e below (T5.setTop (mkF m 130 #[s0, s1, s2, s3, .val (.int i4), .val (.long j5), .second, .val (.ref w4), s8] [(.long j5)])) _
  refine XS.lconst X5.here hx rfl (hb hby at_130) ?_
  show Steps p.tables e below (T5.setTop (mkF m 131 #[s0, s1, s2, s3, .val (.int i4), .val (.long j5), .second, .val (.ref w4), s8] [(.long (0 : Int64)), (.long j5)])) _
  refine XS.lcmp X5.here hx rfl (hb hby at_131) rfl ?_
  show Steps p.tables e below (T5.setTop (mkF m 132 #[s0, s1, s2, s3, .val (.int i4), .val (.long j5), .second, .val (.ref w4), s8] [(.int (lcmpW j5 (0 : Int64)))])) _
  refine XS.ifYes X5.here hx rfl (pc0 := 132) (pc' := 139) rfl (hb hby at_132) rfl ((if0 _ _).trans (tlt hc132).1) (by decide) (by decide) ?_
  show Steps p.tables e below (T5.setTop (mkF m 139 #[s0, s1, s2, s3, .val (.int i4), .val (.long j5), .second, .val (.ref w4), s8] [])) _
  refine XS.iconst X5.here hx rfl (hb hby at_139) ?_
  show Steps p.tables e below (T5.setTop (mkF m 140 #[s0, s1, s2, s3, .val (.int i4), .val (.long j5), .second, .val (.ref w4), s8] [(.int (0 : Int32))])) _
  refine XS.istore X5.here hx rfl (hb hby at_140) rfl (l' := #[s0, s1, s2, s3, .val (.int i4), .val (.long j5), .second, .val (.ref w4), .val (.int (0 : Int32))]) (os0_140 hs8) ?_
  show Steps p.tables e below (T5.setTop (mkF m 142 #[s0, s1, s2, s3, .val (.int i4), .val (.long j5), .second, .val (.ref w4), .val (.int (0 : Int32))] [])) _
  refine XS.goto X5.here hx rfl (pc0 := 142) (pc' := 164) rfl (hb hby at_142) (by decide) (by decide) ?_
  exact kt
theorem os0_148 {s0 : Slot} {s1 : Slot} {s2 : Slot} {s3 : Slot} {z4 : Value} {z5 : Value} {s7 : Slot} {s8 : Slot} {v : Addr} (h : One s7) : storeLocals #[s0, s1, s2, s3, .val z4, .val z5, .second, s7, s8] 7 (.ref v) = some #[s0, s1, s2, s3, .val z4, .val z5, .second, .val (.ref v), s8] := by
  rcases h with rfl | ⟨w, rfl, hw⟩
  · rfl
  · cases w <;> first | rfl | (simp [Value.category] at hw)
theorem os0_162 {s0 : Slot} {s1 : Slot} {s2 : Slot} {s3 : Slot} {z4 : Value} {z5 : Value} {z7 : Value} {s8 : Slot} {v : Int32} (h : One s8) : storeLocals #[s0, s1, s2, s3, .val z4, .val z5, .second, .val z7, s8] 8 (.int v) = some #[s0, s1, s2, s3, .val z4, .val z5, .second, .val z7, .val (.int v)] := by
  rcases h with rfl | ⟨w, rfl, hw⟩
  · rfl
  · cases w <;> first | rfl | (simp [Value.category] at hw)
set_option maxRecDepth 65536 in
set_option maxHeartbeats 40000000 in
theorem tn0_27_164_ONE_OR_MORE0 {p : Program} {l : Launch} {e : Env} {R : Room} {s : State} {m : MethodId} {args : Array Value} {below : List Frame} {meth : Method} {c : Code} {T0 : State} {locs : List Loc} {cells slots : Nat} {Z : State} {a0 : Array Value} {h0 : Heap} (s0 : Slot) (s1 : Slot) (s2 : Slot) (s3 : Slot) (i4 : Int32) (j5 : Int64) (s7 : Slot) (s8 : Slot) (w4 : Addr)
    (X0 : Stand p l e R s m args below meth c T0 locs cells slots) (hx : p.tables.exec = Jvm.exec) (hZ : Z.Warmed39 s.vm) (hw : ∀ d ∈ tables_1, d.before a0 Z = true) (hby : c.code = code) (hml : c.maxLocals = 9) (hown : s.vm.findClass "com/example/iron_axis/ironaxis/parser/OccurrenceAllowsPinLaw" = some m.cls) (e0 : T0.heap = h0) (S_ONE_OR_MORE : Sta Z h0 "com/example/iron_axis/ironaxis/parser/Occurrence" "ONE_OR_MORE" "Lcom/example/iron_axis/ironaxis/parser/Occurrence;" (.ref w4)) (hs7 : One s7) (hs8 : One s8) (hc29 : ¬ (i4 = (0 : Int32))) (hc57 : ¬ (i4 = (1 : Int32))) (hc85 : ¬ (i4 = (2 : Int32))) (hc120 : ¬ (i4 = (3 : Int32))) (hc154 : ¬ ((lcmpW j5 (1 : Int64)) < (0 : Int32))) :
    ∃ (T' : State), Stand p l e R s m args below meth c T' locs cells slots ∧ T'.heap = h0 ∧
      ∀ target, Steps p.tables e below (T'.setTop (mkF m 164 #[s0, s1, s2, s3, .val (.int i4), .val (.long j5), .second, .val (.ref w4), .val (.int (1 : Int32))] [])) target → Steps p.tables e below (T0.setTop (mkF m 27 #[s0, s1, s2, s3, .val (.int i4), .val (.long j5), .second, s7, s8] [])) target := by
  obtain ⟨T5, X5, e5, st5⟩ := getS2 X0 hx hZ hown (host := "") (Or.inl (hw _ (List.mem_of_getElem? (i := 16) rfl))) Via.refl e0 S_ONE_OR_MORE (g := (mkF m 145 #[s0, s1, s2, s3, .val (.int i4), .val (.long j5), .second, s7, s8] [])) rfl (hb hby at_145)
  refine ⟨T5, X5, e5, fun target kt => ?_⟩
  show Steps p.tables e below (T0.setTop (mkF m 27 #[s0, s1, s2, s3, .val (.int i4), .val (.long j5), .second, s7, s8] [])) _
  refine XS.iload X0.here hx rfl (hb hby at_27) rfl ?_
  show Steps p.tables e below (T0.setTop (mkF m 29 #[s0, s1, s2, s3, .val (.int i4), .val (.long j5), .second, s7, s8] [(.int i4)])) _
  refine XS.ifYes X0.here hx rfl (pc0 := 29) (pc' := 54) rfl (hb hby at_29) rfl ((if0 _ _).trans (feq hc29).2) (by decide) (by decide) ?_
  show Steps p.tables e below (T0.setTop (mkF m 54 #[s0, s1, s2, s3, .val (.int i4), .val (.long j5), .second, s7, s8] [])) _
  refine XS.iload X0.here hx rfl (hb hby at_54) rfl ?_
  show Steps p.tables e below (T0.setTop (mkF m 56 #[s0, s1, s2, s3, .val (.int i4), .val (.long j5), .second, s7, s8] [(.int i4)])) _
  refine XS.iconst X0.here hx rfl (hb hby at_56) ?_
  show Steps p.tables e below (T0.setTop (mkF m 57 #[s0, s1, s2, s3, .val (.int i4), .val (.long j5), .second, s7, s8] [(.int (1 : Int32)), (.int i4)])) _
  refine XS.icmpYes X0.here hx rfl (pc0 := 57) (pc' := 82) rfl (hb hby at_57) rfl (feq hc57).2 (by decide) (by decide) ?_
  show Steps p.tables e below (T0.setTop (mkF m 82 #[s0, s1, s2, s3, .val (.int i4), .val (.long j5), .second, s7, s8] [])) _
  refine XS.iload X0.here hx rfl (hb hby at_82) rfl ?_
  show Steps p.tables e below (T0.setTop (mkF m 84 #[s0, s1, s2, s3, .val (.int i4), .val (.long j5), .second, s7, s8] [(.int i4)])) _
  refine XS.iconst X0.here hx rfl (hb hby at_84) ?_
  show Steps p.tables e below (T0.setTop (mkF m 85 #[s0, s1, s2, s3, .val (.int i4), .val (.long j5), .second, s7, s8] [(.int (2 : Int32)), (.int i4)])) _
  refine XS.icmpYes X0.here hx rfl (pc0 := 85) (pc' := 117) rfl (hb hby at_85) rfl (feq hc85).2 (by decide) (by decide) ?_
  show Steps p.tables e below (T0.setTop (mkF m 117 #[s0, s1, s2, s3, .val (.int i4), .val (.long j5), .second, s7, s8] [])) _
  refine XS.iload X0.here hx rfl (hb hby at_117) rfl ?_
  show Steps p.tables e below (T0.setTop (mkF m 119 #[s0, s1, s2, s3, .val (.int i4), .val (.long j5), .second, s7, s8] [(.int i4)])) _
  refine XS.iconst X0.here hx rfl (hb hby at_119) ?_
  show Steps p.tables e below (T0.setTop (mkF m 120 #[s0, s1, s2, s3, .val (.int i4), .val (.long j5), .second, s7, s8] [(.int (3 : Int32)), (.int i4)])) _
  refine XS.icmpYes X0.here hx rfl (pc0 := 120) (pc' := 145) rfl (hb hby at_120) rfl (feq hc120).2 (by decide) (by decide) ?_
  show Steps p.tables e below (T0.setTop (mkF m 145 #[s0, s1, s2, s3, .val (.int i4), .val (.long j5), .second, s7, s8] [])) _
  refine st5 _ ?_
  show Steps p.tables e below (T5.setTop (mkF m 148 #[s0, s1, s2, s3, .val (.int i4), .val (.long j5), .second, s7, s8] [(.ref w4)])) _
  refine XS.astore X5.here hx rfl (hb hby at_148) rfl rfl (l' := #[s0, s1, s2, s3, .val (.int i4), .val (.long j5), .second, .val (.ref w4), s8]) (os0_148 hs7) ?_
  show Steps p.tables e below (T5.setTop (mkF m 150 #[s0, s1, s2, s3, .val (.int i4), .val (.long j5), .second, .val (.ref w4), s8] [])) _
  refine XS.lload X5.here hx rfl (hb hby at_150) rfl ?_
  show Steps p.tables e below (T5.setTop (mkF m 152 #[s0, s1, s2, s3, .val (.int i4), .val (.long j5), .second, .val (.ref w4), s8] [(.long j5)])) _
  refine XS.lconst X5.here hx rfl (hb hby at_152) ?_
  show Steps p.tables e below (T5.setTop (mkF m 153 #[s0, s1, s2, s3, .val (.int i4), .val (.long j5), .second, .val (.ref w4), s8] [(.long (1 : Int64)), (.long j5)])) _
  refine XS.lcmp X5.here hx rfl (hb hby at_153) rfl ?_
  show Steps p.tables e below (T5.setTop (mkF m 154 #[s0, s1, s2, s3, .val (.int i4), .val (.long j5), .second, .val (.ref w4), s8] [(.int (lcmpW j5 (1 : Int64)))])) _
  refine XS.ifNo X5.here hx rfl (hb hby at_154) rfl ((if0 _ _).trans (flt hc154).1) ?_
  show Steps p.tables e below (T5.setTop (mkF m 157 #[s0, s1, s2, s3, .val (.int i4), .val (.long j5), .second, .val (.ref w4), s8] [])) _
  refine XS.iconst X5.here hx rfl (hb hby at_157) ?_
  show Steps p.tables e below (T5.setTop (mkF m 158 #[s0, s1, s2, s3, .val (.int i4), .val (.long j5), .second, .val (.ref w4), s8] [(.int (1 : Int32))])) _
  refine XS.goto X5.here hx rfl (pc0 := 158) (pc' := 162) rfl (hb hby at_158) (by decide) (by decide) ?_
  show Steps p.tables e below (T5.setTop (mkF m 162 #[s0, s1, s2, s3, .val (.int i4), .val (.long j5), .second, .val (.ref w4), s8] [(.int (1 : Int32))])) _
  refine XS.istore X5.here hx rfl (hb hby at_162) rfl (l' := #[s0, s1, s2, s3, .val (.int i4), .val (.long j5), .second, .val (.ref w4), .val (.int (1 : Int32))]) (os0_162 hs8) ?_
  exact kt
set_option maxRecDepth 65536 in
set_option maxHeartbeats 40000000 in
theorem tn0_27_164_ONE_OR_MORE1 {p : Program} {l : Launch} {e : Env} {R : Room} {s : State} {m : MethodId} {args : Array Value} {below : List Frame} {meth : Method} {c : Code} {T0 : State} {locs : List Loc} {cells slots : Nat} {Z : State} {a0 : Array Value} {h0 : Heap} (s0 : Slot) (s1 : Slot) (s2 : Slot) (s3 : Slot) (i4 : Int32) (j5 : Int64) (s7 : Slot) (s8 : Slot) (w4 : Addr)
    (X0 : Stand p l e R s m args below meth c T0 locs cells slots) (hx : p.tables.exec = Jvm.exec) (hZ : Z.Warmed39 s.vm) (hw : ∀ d ∈ tables_1, d.before a0 Z = true) (hby : c.code = code) (hml : c.maxLocals = 9) (hown : s.vm.findClass "com/example/iron_axis/ironaxis/parser/OccurrenceAllowsPinLaw" = some m.cls) (e0 : T0.heap = h0) (S_ONE_OR_MORE : Sta Z h0 "com/example/iron_axis/ironaxis/parser/Occurrence" "ONE_OR_MORE" "Lcom/example/iron_axis/ironaxis/parser/Occurrence;" (.ref w4)) (hs7 : One s7) (hs8 : One s8) (hc29 : ¬ (i4 = (0 : Int32))) (hc57 : ¬ (i4 = (1 : Int32))) (hc85 : ¬ (i4 = (2 : Int32))) (hc120 : ¬ (i4 = (3 : Int32))) (hc154 : (lcmpW j5 (1 : Int64)) < (0 : Int32)) :
    ∃ (T' : State), Stand p l e R s m args below meth c T' locs cells slots ∧ T'.heap = h0 ∧
      ∀ target, Steps p.tables e below (T'.setTop (mkF m 164 #[s0, s1, s2, s3, .val (.int i4), .val (.long j5), .second, .val (.ref w4), .val (.int (0 : Int32))] [])) target → Steps p.tables e below (T0.setTop (mkF m 27 #[s0, s1, s2, s3, .val (.int i4), .val (.long j5), .second, s7, s8] [])) target := by
  obtain ⟨T5, X5, e5, st5⟩ := getS2 X0 hx hZ hown (host := "") (Or.inl (hw _ (List.mem_of_getElem? (i := 16) rfl))) Via.refl e0 S_ONE_OR_MORE (g := (mkF m 145 #[s0, s1, s2, s3, .val (.int i4), .val (.long j5), .second, s7, s8] [])) rfl (hb hby at_145)
  refine ⟨T5, X5, e5, fun target kt => ?_⟩
  show Steps p.tables e below (T0.setTop (mkF m 27 #[s0, s1, s2, s3, .val (.int i4), .val (.long j5), .second, s7, s8] [])) _
  refine XS.iload X0.here hx rfl (hb hby at_27) rfl ?_
  show Steps p.tables e below (T0.setTop (mkF m 29 #[s0, s1, s2, s3, .val (.int i4), .val (.long j5), .second, s7, s8] [(.int i4)])) _
  refine XS.ifYes X0.here hx rfl (pc0 := 29) (pc' := 54) rfl (hb hby at_29) rfl ((if0 _ _).trans (feq hc29).2) (by decide) (by decide) ?_
  show Steps p.tables e below (T0.setTop (mkF m 54 #[s0, s1, s2, s3, .val (.int i4), .val (.long j5), .second, s7, s8] [])) _
  refine XS.iload X0.here hx rfl (hb hby at_54) rfl ?_
  show Steps p.tables e below (T0.setTop (mkF m 56 #[s0, s1, s2, s3, .val (.int i4), .val (.long j5), .second, s7, s8] [(.int i4)])) _
  refine XS.iconst X0.here hx rfl (hb hby at_56) ?_
  show Steps p.tables e below (T0.setTop (mkF m 57 #[s0, s1, s2, s3, .val (.int i4), .val (.long j5), .second, s7, s8] [(.int (1 : Int32)), (.int i4)])) _
  refine XS.icmpYes X0.here hx rfl (pc0 := 57) (pc' := 82) rfl (hb hby at_57) rfl (feq hc57).2 (by decide) (by decide) ?_
  show Steps p.tables e below (T0.setTop (mkF m 82 #[s0, s1, s2, s3, .val (.int i4), .val (.long j5), .second, s7, s8] [])) _
  refine XS.iload X0.here hx rfl (hb hby at_82) rfl ?_
  show Steps p.tables e below (T0.setTop (mkF m 84 #[s0, s1, s2, s3, .val (.int i4), .val (.long j5), .second, s7, s8] [(.int i4)])) _
  refine XS.iconst X0.here hx rfl (hb hby at_84) ?_
  show Steps p.tables e below (T0.setTop (mkF m 85 #[s0, s1, s2, s3, .val (.int i4), .val (.long j5), .second, s7, s8] [(.int (2 : Int32)), (.int i4)])) _
  refine XS.icmpYes X0.here hx rfl (pc0 := 85) (pc' := 117) rfl (hb hby at_85) rfl (feq hc85).2 (by decide) (by decide) ?_
  show Steps p.tables e below (T0.setTop (mkF m 117 #[s0, s1, s2, s3, .val (.int i4), .val (.long j5), .second, s7, s8] [])) _
  refine XS.iload X0.here hx rfl (hb hby at_117) rfl ?_
  show Steps p.tables e below (T0.setTop (mkF m 119 #[s0, s1, s2, s3, .val (.int i4), .val (.long j5), .second, s7, s8] [(.int i4)])) _
  refine XS.iconst X0.here hx rfl (hb hby at_119) ?_
  show Steps p.tables e below (T0.setTop (mkF m 120 #[s0, s1, s2, s3, .val (.int i4), .val (.long j5), .second, s7, s8] [(.int (3 : Int32)), (.int i4)])) _
  refine XS.icmpYes X0.here hx rfl (pc0 := 120) (pc' := 145) rfl (hb hby at_120) rfl (feq hc120).2 (by decide) (by decide) ?_
  show Steps p.tables e below (T0.setTop (mkF m 145 #[s0, s1, s2, s3, .val (.int i4), .val (.long j5), .second, s7, s8] [])) _
  refine st5 _ ?_
  show Steps p.tables e below (T5.setTop (mkF m 148 #[s0, s1, s2, s3, .val (.int i4), .val (.long j5), .second, s7, s8] [(.ref w4)])) _
  refine XS.astore X5.here hx rfl (hb hby at_148) rfl rfl (l' := #[s0, s1, s2, s3, .val (.int i4), .val (.long j5), .second, .val (.ref w4), s8]) (os0_148 hs7) ?_
  show Steps p.tables e below (T5.setTop (mkF m 150 #[s0, s1, s2, s3, .val (.int i4), .val (.long j5), .second, .val (.ref w4), s8] [])) _
  refine XS.lload X5.here hx rfl (hb hby at_150) rfl ?_
  show Steps p.tables e below (T5.setTop (mkF m 152 #[s0, s1, s2, s3, .val (.int i4), .val (.long j5), .second, .val (.ref w4), s8] [(.long j5)])) _
  refine XS.lconst X5.here hx rfl (hb hby at_152) ?_
  show Steps p.tables e below (T5.setTop (mkF m 153 #[s0, s1, s2, s3, .val (.int i4), .val (.long j5), .second, .val (.ref w4), s8] [(.long (1 : Int64)), (.long j5)])) _
  refine XS.lcmp X5.here hx rfl (hb hby at_153) rfl ?_
  show Steps p.tables e below (T5.setTop (mkF m 154 #[s0, s1, s2, s3, .val (.int i4), .val (.long j5), .second, .val (.ref w4), s8] [(.int (lcmpW j5 (1 : Int64)))])) _
  refine XS.ifYes X5.here hx rfl (pc0 := 154) (pc' := 161) rfl (hb hby at_154) rfl ((if0 _ _).trans (tlt hc154).1) (by decide) (by decide) ?_
  show Steps p.tables e below (T5.setTop (mkF m 161 #[s0, s1, s2, s3, .val (.int i4), .val (.long j5), .second, .val (.ref w4), s8] [])) _
  refine XS.iconst X5.here hx rfl (hb hby at_161) ?_
  show Steps p.tables e below (T5.setTop (mkF m 162 #[s0, s1, s2, s3, .val (.int i4), .val (.long j5), .second, .val (.ref w4), s8] [(.int (0 : Int32))])) _
  refine XS.istore X5.here hx rfl (hb hby at_162) rfl (l' := #[s0, s1, s2, s3, .val (.int i4), .val (.long j5), .second, .val (.ref w4), .val (.int (0 : Int32))]) (os0_162 hs8) ?_
  exact kt

def own_P (Z : State) (h0 : Heap) (a : Addr) (mn mx : Int64) : Prop := Exa Z h0 a "com/example/iron_axis/ironaxis/parser/Occurrence" ∧ Fld Z h0 a "com/example/iron_axis/ironaxis/parser/Occurrence" "min" "J" (.long mn) ∧ Fld Z h0 a "com/example/iron_axis/ironaxis/parser/Occurrence" "max" "J" (.long mx)

theorem own_n0 (j : Int64) : (j = 0 → own_r j 0 0 = 1) ∧ (¬ j = 0 → own_r j 0 0 = 0) := by
  have z0 : (0 : Int64).toInt = 0 := rfl
  simp only [own_r, Int64.lt_iff_toInt_lt, ← Int64.toInt_inj, z0]
  constructor <;> intro h <;> (repeat' split) <;> first | rfl | omega
theorem own_n1 (j : Int64) : (j = 1 → own_r j 1 1 = 1) ∧ (¬ j = 1 → own_r j 1 1 = 0) := by
  have z1 : (1 : Int64).toInt = 1 := rfl
  simp only [own_r, Int64.lt_iff_toInt_lt, ← Int64.toInt_inj, z1]
  constructor <;> intro h <;> (repeat' split) <;> first | rfl | omega
theorem own_n2 (j : Int64) : (j = 0 → own_r j 0 1 = 1) ∧ (¬ j = 0 → j = 1 → own_r j 0 1 = 1) ∧ (¬ j = 0 → ¬ j = 1 → own_r j 0 1 = 0) := by
  have z0 : (0 : Int64).toInt = 0 := rfl
  have z1 : (1 : Int64).toInt = 1 := rfl
  simp only [own_r, Int64.lt_iff_toInt_lt, ← Int64.toInt_inj, z0, z1]
  refine ⟨?_, ?_, ?_⟩ <;> intros <;> (repeat' split) <;> first | rfl | omega
theorem own_n3 (j : Int64) : (¬ j < 0 → own_r j 0 9223372036854775807 = 1) ∧ (j < 0 → own_r j 0 9223372036854775807 = 0) := by
  have zm : (9223372036854775807 : Int64).toInt = 9223372036854775807 := rfl
  have hl := j.toInt_lt
  have hq : ¬ (9223372036854775807 : Int64) < j := by rw [Int64.lt_iff_toInt_lt, zm]; omega
  exact ⟨fun h => own_r3 h hq, fun h => own_r1 h⟩
theorem own_n4 (j : Int64) : (¬ j < 1 → own_r j 1 9223372036854775807 = 1) ∧ (j < 1 → own_r j 1 9223372036854775807 = 0) := by
  have zm : (9223372036854775807 : Int64).toInt = 9223372036854775807 := rfl
  have hl := j.toInt_lt
  have hq : ¬ (9223372036854775807 : Int64) < j := by rw [Int64.lt_iff_toInt_lt, zm]; omega
  exact ⟨fun h => own_r3 h hq, fun h => own_r1 h⟩
theorem own_27_164 {p : Program} {l : Launch} {e : Env} {R : Room} {s : State} {m : MethodId} {args : Array Value} {below : List Frame} {meth : Method} {c : Code} {T0 : State} {locs : List Loc} {cells slots : Nat} {Z : State} {a0 : Array Value} {h0 : Heap} (s0 : Slot) (s1 : Slot) (s2 : Slot) (s3 : Slot) (i4 : Int32) (j5 : Int64) (s7 : Slot) (s8 : Slot) (u0 u1 u2 u3 u4 : Addr)
    (X0 : Stand p l e R s m args below meth c T0 locs cells slots) (hx : p.tables.exec = Jvm.exec) (hZ : Z.Warmed39 s.vm) (hw : ∀ d ∈ tables_1, d.before a0 Z = true) (hby : c.code = code) (hml : c.maxLocals = 9) (hown : s.vm.findClass "com/example/iron_axis/ironaxis/parser/OccurrenceAllowsPinLaw" = some m.cls) (e0 : T0.heap = h0) (hs7 : One s7) (hs8 : One s8) (S0 : Sta Z h0 "com/example/iron_axis/ironaxis/parser/Occurrence" "NONE" "Lcom/example/iron_axis/ironaxis/parser/Occurrence;" (.ref u0)) (P0 : own_P Z h0 u0 0 0) (S1 : Sta Z h0 "com/example/iron_axis/ironaxis/parser/Occurrence" "EXACTLY_ONE" "Lcom/example/iron_axis/ironaxis/parser/Occurrence;" (.ref u1)) (P1 : own_P Z h0 u1 1 1) (S2 : Sta Z h0 "com/example/iron_axis/ironaxis/parser/Occurrence" "ZERO_OR_ONE" "Lcom/example/iron_axis/ironaxis/parser/Occurrence;" (.ref u2)) (P2 : own_P Z h0 u2 0 1) (S3 : Sta Z h0 "com/example/iron_axis/ironaxis/parser/Occurrence" "ZERO_OR_MORE" "Lcom/example/iron_axis/ironaxis/parser/Occurrence;" (.ref u3)) (P3 : own_P Z h0 u3 0 9223372036854775807) (S4 : Sta Z h0 "com/example/iron_axis/ironaxis/parser/Occurrence" "ONE_OR_MORE" "Lcom/example/iron_axis/ironaxis/parser/Occurrence;" (.ref u4)) (P4 : own_P Z h0 u4 1 9223372036854775807) :
    ∃ (T' : State) (a : Addr) (mn mx : Int64), Stand p l e R s m args below meth c T' locs cells slots ∧ T'.heap = h0 ∧ own_P Z h0 a mn mx ∧
      ∀ target, Steps p.tables e below (T'.setTop (mkF m 164 #[s0, s1, s2, s3, .val (.int i4), .val (.long j5), .second, .val (.ref a), .val (.int (own_r j5 mn mx))] [])) target → Steps p.tables e below (T0.setTop (mkF m 27 #[s0, s1, s2, s3, .val (.int i4), .val (.long j5), .second, s7, s8] [])) target := by
  by_cases k0 : i4 = 0
  · by_cases q : j5 = 0
    · obtain ⟨T', X', e', k⟩ := tn0_27_164_NONE0 s0 s1 s2 s3 i4 j5 s7 s8 u0 X0 hx hZ hw hby hml hown e0 S0 hs7 hs8 k0 ((own_eq _ _).mpr q)
      exact ⟨T', u0, 0, 0, X', e', P0, by rw [(own_n0 j5).1 q]; exact k⟩
    · obtain ⟨T', X', e', k⟩ := tn0_27_164_NONE1 s0 s1 s2 s3 i4 j5 s7 s8 u0 X0 hx hZ hw hby hml hown e0 S0 hs7 hs8 k0 (fun z => q ((own_eq _ _).mp z))
      exact ⟨T', u0, 0, 0, X', e', P0, by rw [(own_n0 j5).2 q]; exact k⟩
  by_cases k1 : i4 = 1
  · by_cases q : j5 = 1
    · obtain ⟨T', X', e', k⟩ := tn0_27_164_EXACTLY_ONE0 s0 s1 s2 s3 i4 j5 s7 s8 u1 X0 hx hZ hw hby hml hown e0 S1 hs7 hs8 k0 k1 ((own_eq _ _).mpr q)
      exact ⟨T', u1, 1, 1, X', e', P1, by rw [(own_n1 j5).1 q]; exact k⟩
    · obtain ⟨T', X', e', k⟩ := tn0_27_164_EXACTLY_ONE1 s0 s1 s2 s3 i4 j5 s7 s8 u1 X0 hx hZ hw hby hml hown e0 S1 hs7 hs8 k0 k1 (fun z => q ((own_eq _ _).mp z))
      exact ⟨T', u1, 1, 1, X', e', P1, by rw [(own_n1 j5).2 q]; exact k⟩
  by_cases k2 : i4 = 2
  · by_cases q : j5 = 0
    · obtain ⟨T', X', e', k⟩ := tn0_27_164_ZERO_OR_ONE0 s0 s1 s2 s3 i4 j5 s7 s8 u2 X0 hx hZ hw hby hml hown e0 S2 hs7 hs8 k0 k1 k2 ((own_eq _ _).mpr q)
      exact ⟨T', u2, 0, 1, X', e', P2, by rw [(own_n2 j5).1 q]; exact k⟩
    by_cases q' : j5 = 1
    · obtain ⟨T', X', e', k⟩ := tn0_27_164_ZERO_OR_ONE1 s0 s1 s2 s3 i4 j5 s7 s8 u2 X0 hx hZ hw hby hml hown e0 S2 hs7 hs8 k0 k1 k2 (fun z => q ((own_eq _ _).mp z)) ((own_eq _ _).mpr q')
      exact ⟨T', u2, 0, 1, X', e', P2, by rw [(own_n2 j5).2.1 q q']; exact k⟩
    · obtain ⟨T', X', e', k⟩ := tn0_27_164_ZERO_OR_ONE2 s0 s1 s2 s3 i4 j5 s7 s8 u2 X0 hx hZ hw hby hml hown e0 S2 hs7 hs8 k0 k1 k2 (fun z => q ((own_eq _ _).mp z)) (fun z => q' ((own_eq _ _).mp z))
      exact ⟨T', u2, 0, 1, X', e', P2, by rw [(own_n2 j5).2.2 q q']; exact k⟩
  by_cases k3 : i4 = 3
  · by_cases q : j5 < 0
    · obtain ⟨T', X', e', k⟩ := tn0_27_164_ZERO_OR_MORE1 s0 s1 s2 s3 i4 j5 s7 s8 u3 X0 hx hZ hw hby hml hown e0 S3 hs7 hs8 k0 k1 k2 k3 ((own_lt _ _).mpr q)
      exact ⟨T', u3, 0, 9223372036854775807, X', e', P3, by rw [(own_n3 j5).2 q]; exact k⟩
    · obtain ⟨T', X', e', k⟩ := tn0_27_164_ZERO_OR_MORE0 s0 s1 s2 s3 i4 j5 s7 s8 u3 X0 hx hZ hw hby hml hown e0 S3 hs7 hs8 k0 k1 k2 k3 (fun z => q ((own_lt _ _).mp z))
      exact ⟨T', u3, 0, 9223372036854775807, X', e', P3, by rw [(own_n3 j5).1 q]; exact k⟩
  · by_cases q : j5 < 1
    · obtain ⟨T', X', e', k⟩ := tn0_27_164_ONE_OR_MORE1 s0 s1 s2 s3 i4 j5 s7 s8 u4 X0 hx hZ hw hby hml hown e0 S4 hs7 hs8 k0 k1 k2 k3 ((own_lt _ _).mpr q)
      exact ⟨T', u4, 1, 9223372036854775807, X', e', P4, by rw [(own_n4 j5).2 q]; exact k⟩
    · obtain ⟨T', X', e', k⟩ := tn0_27_164_ONE_OR_MORE0 s0 s1 s2 s3 i4 j5 s7 s8 u4 X0 hx hZ hw hby hml hown e0 S4 hs7 hs8 k0 k1 k2 k3 (fun z => q ((own_lt _ _).mp z))
      exact ⟨T', u4, 1, 9223372036854775807, X', e', P4, by rw [(own_n4 j5).1 q]; exact k⟩
theorem pd_0_0 : parseMethodDescriptor "(J)Z" = some ⟨[.long], some .boolean⟩ := by decide +kernel
set_option maxRecDepth 65536 in
set_option maxHeartbeats 40000000 in
theorem own_164_181 {p : Program} {l : Launch} {e : Env} {s : State} {m : MethodId} {args : Array Value} {below : List Frame} {meth : Method} {c : Code} {T0 : State} {Z : State} {a0 : Array Value} {h0 : Heap} (s0 : Slot) (s1 : Slot) (s2 : Slot) (s3 : Slot) (s4 : Slot) (j5 : Int64) (o7 : Addr) (mn mx : Int64)
    (X0 : Stand p l e room_1 s m args below meth c T0 [] 0 0) (hx : p.tables.exec = Jvm.exec) (hZ : Z.Warmed39 s.vm) (hw : ∀ d ∈ tables_1, d.before a0 Z = true) (hby : c.code = code) (hml : c.maxLocals = 9) (hown : s.vm.findClass "com/example/iron_axis/ironaxis/parser/OccurrenceAllowsPinLaw" = some m.cls) (e0 : T0.heap = h0) (P : own_P Z h0 o7 mn mx) (n0 : Nat) (Z0 : n0 ≤ h0.size) :
    ∃ (T' : State) (L : List Loc), Stand p l e room_1 s m args below meth c T' L 0 0 ∧ T'.heap = h0 ∧ Fr n0 L ∧
      ∀ target, Steps p.tables e below (T'.setTop (mkF m 181 #[s0, s1, s2, s3, s4, .val (.long j5), .second, .val (.ref o7), .val (.int (own_r j5 mn mx))] [(.int (1 : Int32))])) target → Steps p.tables e below (T0.setTop (mkF m 164 #[s0, s1, s2, s3, s4, .val (.long j5), .second, .val (.ref o7), .val (.int (own_r j5 mn mx))] [])) target := by
  obtain ⟨cq4, kq4, q4a, q4b, q4c⟩ := isOf hZ e0 P.1
  obtain ⟨_, _, ⟨T4, L4, k4, n4⟩, -, X4, ⟨Lc4, hQ4, l4, y4, z4⟩, st4⟩ := X0.virtualBack hx (y := (⟨"com/example/iron_axis/ironaxis/parser/Occurrence", "allows", "(J)Z"⟩ : MethodName)) (z := (⟨"com/example/iron_axis/ironaxis/parser/Occurrence", "allows", "(J)Z"⟩ : MethodName)) hown (mvT hZ (hw _ (List.mem_of_getElem? (i := 5) rfl))) (mvT hZ (hw _ (List.mem_of_getElem? (i := 6) rfl))) (notFace_of_selects (args := #[]) (mvT hZ (hw _ (List.mem_of_getElem? (i := 8) rfl)))) (mvT hZ (hw _ (List.mem_of_getElem? (i := 8) rfl))) (mvT hZ (hw _ (List.mem_of_getElem? (i := 7) rfl))) (by decide) (backOf (W := 0) (rm1 l Z a0 hw [] o7 j5 mn mx h0 n0 Z0 P.2.1 P.2.2) hZ (hw _ (List.mem_of_getElem? (i := 9) rfl)) (hw _ (List.mem_of_getElem? (i := 3) rfl)) (by decide) (by decide)) q4a q4c (g := (mkF m 168 #[s0, s1, s2, s3, s4, .val (.long j5), .second, .val (.ref o7), .val (.int (own_r j5 mn mx))] [(.long j5), (.ref o7)])) rfl (by rw [hml]; rfl) (Steps.refl _) (argsL := [(.long j5)]) (rest := []) (lenOf pd_0_0 rfl) rfl (by show 2 * 0 + _ ≤ _; exact Nat.le_of_eq rfl) (hb hby at_168) (fun _ _ => ⟨rfl, e0, (by decide : 0 + 0 ≤ _), (by decide : 0 + 0 ≤ _)⟩)
  dsimp only [Pt.U, Pt.locs, Pt.cells, Pt.slots] at X4 l4 y4 z4 st4 hQ4
  subst l4 y4 z4
  obtain ⟨rfl, N4q, e4⟩ := hQ4
  refine ⟨T4, _, X4, e4, Fr.app (Fr.nil n0) N4q, fun target kt => ?_⟩
  show Steps p.tables e below (T0.setTop (mkF m 164 #[s0, s1, s2, s3, s4, .val (.long j5), .second, .val (.ref o7), .val (.int (own_r j5 mn mx))] [])) _
  refine XS.aload X0.here hx rfl (hb hby at_164) rfl rfl ?_
  show Steps p.tables e below (T0.setTop (mkF m 166 #[s0, s1, s2, s3, s4, .val (.long j5), .second, .val (.ref o7), .val (.int (own_r j5 mn mx))] [(.ref o7)])) _
  refine XS.lload X0.here hx rfl (hb hby at_166) rfl ?_
  show Steps p.tables e below (T0.setTop (mkF m 168 #[s0, s1, s2, s3, s4, .val (.long j5), .second, .val (.ref o7), .val (.int (own_r j5 mn mx))] [(.long j5), (.ref o7)])) _
  refine st4.trans ?_
  show Steps p.tables e below (T4.setTop (mkF m 171 #[s0, s1, s2, s3, s4, .val (.long j5), .second, .val (.ref o7), .val (.int (own_r j5 mn mx))] [(.int (own_r j5 mn mx))])) _
  refine XS.iload X4.here hx rfl (hb hby at_171) rfl ?_
  show Steps p.tables e below (T4.setTop (mkF m 173 #[s0, s1, s2, s3, s4, .val (.long j5), .second, .val (.ref o7), .val (.int (own_r j5 mn mx))] [(.int (own_r j5 mn mx)), (.int (own_r j5 mn mx))])) _
  refine XS.icmpNo X4.here hx rfl (hb hby at_173) rfl (teq (rfl : (own_r j5 mn mx) = own_r j5 mn mx)).2 ?_
  show Steps p.tables e below (T4.setTop (mkF m 176 #[s0, s1, s2, s3, s4, .val (.long j5), .second, .val (.ref o7), .val (.int (own_r j5 mn mx))] [])) _
  refine XS.iconst X4.here hx rfl (hb hby at_176) ?_
  show Steps p.tables e below (T4.setTop (mkF m 177 #[s0, s1, s2, s3, s4, .val (.long j5), .second, .val (.ref o7), .val (.int (own_r j5 mn mx))] [(.int (1 : Int32))])) _
  refine XS.goto X4.here hx rfl (pc0 := 177) (pc' := 181) rfl (hb hby at_177) (by decide) (by decide) ?_
  exact kt

theorem pn_0 : plainName "com/example/iron_axis/ironaxis/parser/OccurrenceAllowsPinLaw" = true := by first | (simp [plainName, overriddenIn]; done) | decide +kernel
theorem ef_0 (m : MethodId) (x0 : Int32) (x1 : Int64) (x2 : Int32) : entryFrame m #[(.int x0), (.long x1), (.int x2)] maxLocals = mkF m 0 #[.val (.int x0), .val (.long x1), .second, .val (.int x2), .unset, .unset, .unset, .unset, .unset] [] := by first | (simp [entryFrame, mkF, argsToLocals, Value.category, maxLocals]; done) | rfl
def Q0 (n0 : Nat) (v : Option Value) (L : List Loc) : Prop := v = some (.int (1 : Int32)) ∧ Fr n0 L
set_option maxRecDepth 65536 in
set_option maxHeartbeats 40000000 in
theorem rm0 (l : Launch) (Z : State) (a0 : Array Value) (hw : ∀ d ∈ tables_1, d.before a0 Z = true) (ws : List Jvm.Cond) (p1 : Int32) (p2 : Int64) (p3 : Int32) (u0 u1 u2 u3 u4 : Addr) (h0 : Heap) (n0 : Nat) (Z0 : n0 ≤ h0.size) (S0 : Sta Z h0 "com/example/iron_axis/ironaxis/parser/Occurrence" "NONE" "Lcom/example/iron_axis/ironaxis/parser/Occurrence;" (.ref u0)) (P0 : own_P Z h0 u0 0 0) (S1 : Sta Z h0 "com/example/iron_axis/ironaxis/parser/Occurrence" "EXACTLY_ONE" "Lcom/example/iron_axis/ironaxis/parser/Occurrence;" (.ref u1)) (P1 : own_P Z h0 u1 1 1) (S2 : Sta Z h0 "com/example/iron_axis/ironaxis/parser/Occurrence" "ZERO_OR_ONE" "Lcom/example/iron_axis/ironaxis/parser/Occurrence;" (.ref u2)) (P2 : own_P Z h0 u2 0 1) (S3 : Sta Z h0 "com/example/iron_axis/ironaxis/parser/Occurrence" "ZERO_OR_MORE" "Lcom/example/iron_axis/ironaxis/parser/Occurrence;" (.ref u3)) (P3 : own_P Z h0 u3 0 9223372036854775807) (S4 : Sta Z h0 "com/example/iron_axis/ironaxis/parser/Occurrence" "ONE_OR_MORE" "Lcom/example/iron_axis/ironaxis/parser/Occurrence;" (.ref u4)) (P4 : own_P Z h0 u4 1 9223372036854775807) :
    MetFree l x (head1 (Jvm.Cond.code x code maxLocals ret :: ws) room_1) (fun a U => a = #[(.int p1), (.long p2), (.int p3)] ∧ Z.Warmed39 U.vm ∧ U.heap = h0) (fun _ _ _ _ _ => True) (fun _ U o U' => ∃ v L, o = .returned v ∧ Q0 n0 v L ∧ FrameEnd U o U' L room_1.cells room_1.slots) := by
  refine MetFree.of_bodySF (plainFor_of_name pn_0) hisR ?_
  intro p e s m args below meth c s₁ Bd hml0 hP hK
  obtain ⟨rfl, hZ, hh⟩ := hP
  have hx := Bd.exec
  have hby := Bd.bytes
  have hml : c.maxLocals = 9 := hml0
  have hown : s.vm.findClass "com/example/iron_axis/ironaxis/parser/OccurrenceAllowsPinLaw" = some m.cls := findClass_of_methodNamed Bd.named
  have X0 : Stand p l e room_1 s m #[(.int p1), (.long p2), (.int p3)] below meth c s₁ [] 0 0 := Stand.of_body Bd
  have e0 : s₁.heap = h0 := by rw [← hh, Bd.state]; rfl
  have pre0 : ∀ t, Steps p.tables e below (s₁.setTop (mkF m 0 #[.val (.int p1), .val (.long p2), .second, .val (.int p3), .unset, .unset, .unset, .unset, .unset] [])) t → Steps p.tables e below (s₁.setTop (entryFrame m #[(.int p1), (.long p2), (.int p3)] maxLocals)) t := fun t k => castTop (ef_0 m p1 p2 p3) k
  obtain ⟨T1, ct, X1, e1, st1⟩ : ∃ (T1 : State) (ct : Int64), Stand p l e room_1 s m #[(.int p1), (.long p2), (.int p3)] below meth c T1 [] 0 0 ∧ T1.heap = h0 ∧
      ∀ target, Steps p.tables e below (T1.setTop (mkF m 27 #[.val (.int p1), .val (.long p2), .second, .val (.int p3), .val (.int ((p1 &&& (2147483647 : Int32)) % (5 : Int32))), .val (.long ct), .second, .unset, .unset] [])) target → Steps p.tables e below (s₁.setTop (mkF m 8 #[.val (.int p1), .val (.long p2), .second, .val (.int p3), .val (.int ((p1 &&& (2147483647 : Int32)) % (5 : Int32))), .unset, .unset, .unset, .unset] [])) target := by
    by_cases q : (p3 &&& (1 : Int32)) = 0
    · obtain ⟨T1, X1, e1, st1⟩ := tn0_8_27b (.val (.int p1)) p2 p3 (.val (.int ((p1 &&& (2147483647 : Int32)) % (5 : Int32)))) .unset .unset X0 hx hZ hw hby hml hown e0 q
      exact ⟨T1, _, X1, e1, st1⟩
    · obtain ⟨T1, X1, e1, st1⟩ := tn0_8_27a (.val (.int p1)) p2 p3 (.val (.int ((p1 &&& (2147483647 : Int32)) % (5 : Int32)))) .unset .unset X0 hx hZ hw hby hml hown e0 q
      exact ⟨T1, _, X1, e1, st1⟩
  obtain ⟨T2, a, mn, mx, X2, e2, P, st2⟩ := own_27_164 (.val (.int p1)) (.val (.long p2)) .second (.val (.int p3)) ((p1 &&& (2147483647 : Int32)) % (5 : Int32)) ct .unset .unset u0 u1 u2 u3 u4 X1 hx hZ hw hby hml hown e1 One.u One.u S0 P0 S1 P1 S2 P2 S3 P3 S4 P4
  obtain ⟨T3, L3, X3, e3, N3, st3⟩ := own_164_181 (.val (.int p1)) (.val (.long p2)) .second (.val (.int p3)) (.val (.int ((p1 &&& (2147483647 : Int32)) % (5 : Int32)))) ct a mn mx X2 hx hZ hw hby hml hown e2 P n0 Z0
  obtain ⟨fs, hr, hrun, hended, hW, hsame⟩ := X3.leave (v := some (.int (1 : Int32))) (fun h => by rw [Bd.returns] at h; cases h)
  refine ⟨_, _, pre0 _ ?_, hrun, hended, _, _, rfl, ⟨rfl, N3⟩, ⟨_, rfl⟩, hW, hsame.mono (by decide) (by decide)⟩
  show Steps p.tables e below (s₁.setTop (mkF m 0 #[.val (.int p1), .val (.long p2), .second, .val (.int p3), .unset, .unset, .unset, .unset, .unset] [])) _
  refine XS.iloadN X0.here hx rfl (hb hby at_0) rfl ?_
  show Steps p.tables e below (s₁.setTop (mkF m 1 #[.val (.int p1), .val (.long p2), .second, .val (.int p3), .unset, .unset, .unset, .unset, .unset] [(.int p1)])) _
  refine X0.ldcInt hx hown (mvT hZ (hw _ (List.mem_of_getElem? (i := 0) rfl))) (g := (mkF m 1 #[.val (.int p1), .val (.long p2), .second, .val (.int p3), .unset, .unset, .unset, .unset, .unset] [(.int p1)])) rfl (hb hby at_1) _ ?_
  show Steps p.tables e below (s₁.setTop (mkF m 3 #[.val (.int p1), .val (.long p2), .second, .val (.int p3), .unset, .unset, .unset, .unset, .unset] [(.int (2147483647 : Int32)), (.int p1)])) _
  refine XS.iand X0.here hx rfl (hb hby at_3) rfl ?_
  show Steps p.tables e below (s₁.setTop (mkF m 4 #[.val (.int p1), .val (.long p2), .second, .val (.int p3), .unset, .unset, .unset, .unset, .unset] [(.int (p1 &&& (2147483647 : Int32)))])) _
  refine XS.iconst X0.here hx rfl (hb hby at_4) ?_
  show Steps p.tables e below (s₁.setTop (mkF m 5 #[.val (.int p1), .val (.long p2), .second, .val (.int p3), .unset, .unset, .unset, .unset, .unset] [(.int (5 : Int32)), (.int (p1 &&& (2147483647 : Int32)))])) _
  refine iremM X0 hx rfl (hb hby at_5) rfl (by decide) ?_
  show Steps p.tables e below (s₁.setTop (mkF m 6 #[.val (.int p1), .val (.long p2), .second, .val (.int p3), .unset, .unset, .unset, .unset, .unset] [(.int ((p1 &&& (2147483647 : Int32)) % (5 : Int32)))])) _
  refine XS.istore X0.here hx rfl (hb hby at_6) rfl (l' := #[.val (.int p1), .val (.long p2), .second, .val (.int p3), .val (.int ((p1 &&& (2147483647 : Int32)) % (5 : Int32))), .unset, .unset, .unset, .unset]) rfl ?_
  show Steps p.tables e below (s₁.setTop (mkF m 8 #[.val (.int p1), .val (.long p2), .second, .val (.int p3), .val (.int ((p1 &&& (2147483647 : Int32)) % (5 : Int32))), .unset, .unset, .unset, .unset] [])) _
  refine st1 _ ?_
  refine st2 _ ?_
  refine st3 _ ?_
  exact retN X3 hx (t := .boolean) Bd.returns (by simp) (hb hby at_181) hr

theorem own_exa {args : Array Value} {s : State} {t : Term} {C : String} (h : (Jvm.Cond.exactly t C).value args s none s [] = some true) : ∃ a, t.eval args s none [] s = some (.ref a) ∧ Exa s s.heap a C := by
  obtain ⟨a, ev⟩ := exa_v h
  exact ⟨a, ev, Exa.start ev h⟩
theorem own_fld {args : Array Value} {s : State} {t : Term} {a : Addr} {C n : String} {k : Int64} (ev : t.eval args s none [] s = some (.ref a)) (h : (Jvm.Cond.eq (Term.field t C n "J") (Term.long k)).value args s none s [] = some true) : Fld s s.heap a C n "J" (.long k) := by
  obtain ⟨x, y, hx, hy, k1, k2⟩ := cmp_v (Or.inl h)
  obtain rfl : Value.long k = y := Option.some.inj hy
  obtain ⟨z, rfl⟩ := k2
  have e : z = k := gotT (eq_L hx hy) h
  subst e
  exact Fld.start ((fld_at ev).symm.trans hx)
set_option maxRecDepth 65536 in
set_option maxHeartbeats 40000000 in
theorem comes_1 {Post : Tables → Env → Array Value → State → Outcome → State → Prop} (hpost : ∀ tb e args s v u, (limb_1_1.after args s (.returned v) u = true ∧ limb_1_2.after args s (.returned v) u = true ∧ True) → FrameEnd s (.returned v) u (Jvm.fieldLocs frame_1_writes args s ++ Jvm.arrayLocs frame_1_arrays args s ++ Jvm.staticLocs frame_1_statics s) 0 0 → Post tb e args s (.returned v) u) :
    ArmFor flags0 classFile x code maxLocals ret World_1 tables_1 room_1 Calls_1 rest_1 Pre_1 Post := by
  intro l hfl _ _ p e ha hc hk s m args below hf hA hF happ hP
  obtain ⟨hcalls, hrest, hpre⟩ := hP
  obtain ⟨-, -, -, hnamed, -, -, -, hat⟩ := (Spec.applies_iff hf).mp happ
  obtain ⟨hg, hn⟩ := and_e (Cond.before_iff.mp (show (Jvm.Cond.and given_1 narrow_1).before args s = true from hpre))
  obtain ⟨g12, g13⟩ := and_e hg
  obtain ⟨g14, g15⟩ := and_e g13
  obtain ⟨g16, g17⟩ := and_e g15
  obtain ⟨c0, d0⟩ := and_e hn
  obtain ⟨c1, d1⟩ := and_e d0
  obtain ⟨c2, d2⟩ := and_e d1
  obtain ⟨c3, d3⟩ := and_e d2
  obtain ⟨c4, d4⟩ := and_e d3
  obtain ⟨c5, d5⟩ := and_e d4
  obtain ⟨c6, d6⟩ := and_e d5
  obtain ⟨c7, d7⟩ := and_e d6
  obtain ⟨c8, d8⟩ := and_e d7
  obtain ⟨c9, d9⟩ := and_e d8
  obtain ⟨c10, d10⟩ := and_e d9
  obtain ⟨c11, d11⟩ := and_e d10
  obtain ⟨c12, d12⟩ := and_e d11
  obtain ⟨c13, d13⟩ := and_e d12
  obtain ⟨w0, w1, w2, rfl⟩ : ∃ w0 w1 w2 : Value, args = #[w0, w1, w2] := by
    have hs : args.size = 3 := by simpa [Cond.value, given_1] using g12
    obtain ⟨L⟩ := args
    match L, hs with
    | [w0, w1, w2], _ => exact ⟨w0, w1, w2, rfl⟩
  have hw := fun d (hd : d ∈ tables_1) => atoms_spec (ws := Jvm.Cond.code x code maxLocals ret :: tables_1) hat d (List.mem_cons_of_mem _ hd)
  obtain ⟨i0, ei0⟩ := is_v g14
  obtain rfl : w0 = (.int i0) := Option.some.inj ei0
  obtain ⟨i1, ei1⟩ := isL_v g16
  obtain rfl : w1 = (.long i1) := Option.some.inj ei1
  obtain ⟨i2, ei2⟩ := is_v g17
  obtain rfl : w2 = (.int i2) := Option.some.inj ei2
  obtain ⟨a0, v0, E0⟩ := own_exa c0
  have F0 := own_fld v0 c1
  have G0 := own_fld v0 c2
  have S0 := Sta.start v0 (Or.inr ⟨hw _ (List.mem_of_getElem? (i := 3) rfl), hw _ (List.mem_of_getElem? (i := 4) rfl)⟩)
  obtain ⟨a2, v2, E2⟩ := own_exa c3
  have F2 := own_fld v2 c4
  have G2 := own_fld v2 c5
  have S2 := Sta.start v2 (Or.inr ⟨hw _ (List.mem_of_getElem? (i := 3) rfl), hw _ (List.mem_of_getElem? (i := 15) rfl)⟩)
  obtain ⟨a4, v4, E4⟩ := own_exa c6
  have F4 := own_fld v4 c7
  have G4 := own_fld v4 c8
  have S4 := Sta.start v4 (Or.inr ⟨hw _ (List.mem_of_getElem? (i := 3) rfl), hw _ (List.mem_of_getElem? (i := 17) rfl)⟩)
  obtain ⟨a1, v1, E1⟩ := own_exa c9
  have F1 := own_fld v1 c10
  have G1 := own_fld v1 c11
  have S1 := Sta.start v1 (Or.inr ⟨hw _ (List.mem_of_getElem? (i := 3) rfl), hw _ (List.mem_of_getElem? (i := 19) rfl)⟩)
  obtain ⟨a3, v3, E3⟩ := own_exa c12
  have F3 := own_fld v3 c13
  have G3 := own_fld v3 d13
  have S3 := Sta.start v3 (Or.inr ⟨hw _ (List.mem_of_getElem? (i := 3) rfl), hw _ (List.mem_of_getElem? (i := 21) rfl)⟩)
  obtain ⟨n, o, h1, h2, h3, _, L, rfl, ⟨rfl, N⟩, hq⟩ := rm0 l s _ hw tables_1 i0 i1 i2 a0 a1 a2 a3 a4 s.heap s.heap.size (Nat.le_refl _) S0 ⟨E0, F0, G0⟩ S1 ⟨E1, F1, G1⟩ S2 ⟨E2, F2, G2⟩ S3 ⟨E3, F3, G3⟩ S4 ⟨E4, F4, G4⟩ p e ha hc hk s m _ below hf ((Spec.applies_iff_loose hf).mp happ).1 ⟨rfl, State.Warmed39.refl s, rfl⟩ trivial
  refine ⟨n, _, h1, h2, h3, hpost _ _ _ _ _ _ ⟨Cond.after_iff.mpr rfl, Cond.after_iff.mpr (eq_i res_at (Term.int_eval (1)) rfl), trivial⟩ ⟨hq.1, hq.2.1, (hq.2.2.sift fun y hy => Or.inr (N y hy)).mono (by decide) (by decide)⟩⟩
theorem main_1_1 : Claimed_1_1 := comes_1 fun _ _ _ _ _ _ h hF => ⟨h.1, hF⟩
theorem main_1_2 : Claimed_1_2 := comes_1 fun _ _ _ _ _ _ h hF => ⟨h.2.1, hF⟩
end Jvm.Pilot.@@N@@
namespace Jvm.Pilot.@@N@@
open Jvm Jvm.ClassFile Sem Op Lib Jvm.Free Jvm.Stand Jvm.Pilot.@@N@@.Jvm.D
/-! MADE BY PROGRAM (witnessworld.py) out of the Statement's table words and the real class files: 10 classes; the members and pool entries that the words name. The judged class is class 1, her method 1. -/
namespace start1
open Jvm.ClassFile
def u (s : String) : CpInfo := .utf8 (stringToUtf16 s)
/-- a pool by its gaps: so many unusable entries, then the entry; so many at the end -/
def gap : Nat → List CpInfo → List CpInfo
  | 0, r => r
  | n + 1, r => .unusable :: gap n r
def poolList (es : List (Nat × CpInfo)) (last : Nat) : List CpInfo := es.foldr (fun e r => gap e.1 (e.2 :: r)) (gap last [])
def pool (es : List (Nat × CpInfo)) (last : Nat) : Array CpInfo := ⟨poolList es last⟩
def fileOf (pool : Array CpInfo) (this : Nat) (attrs : Array Attribute := #[]) (ms : Array MethodInfo := #[]) (fl : Nat := 33) (sup : Nat := 0) (ifs : Array Nat := #[]) (fds : Array FieldInfo := #[]) : ClassFile where
  minorVersion := 0
  majorVersion := 65
  constantPool := pool
  accessFlags := fl
  thisClass := this
  superClass := sup
  interfaces := ifs
  fields := fds
  methods := ms
  attributes := attrs
def plain (name : String) (sup : Option ClassId) : Class where
  name := name
  kind := .ordinary
  loader := none
  accessFlags := 33
  super := sup
  interfaces := #[]
  cf := none
  fields := #[]
  methods := #[]
  instanceTypes := #[]
  staticTypes := #[]
  resolved := #[]
  callSites := []
  init := .initialized
  statics := none
  mirror := none

def pool0 : Array CpInfo := pool [(5, u "<init>"), (0, u "()V"), (1, .class_ 10), (1, u "java/lang/Object")] 113

def k0m0 : Method := { name := "<init>", desc := "()V", sig := { parameters := [], returnType := none }, accessFlags := 1, code := none }
/-- java/lang/Object -/
def k0 : Class := { plain "java/lang/Object" none with
  accessFlags := 33
  interfaces := #[]
  cf := some (fileOf pool0 8 #[] #[{ accessFlags := 1, nameIndex := 5, descriptorIndex := 6, attributes := #[] }] 33 0 #[] #[])
  fields := #[]
  methods := #[k0m0]
  instanceTypes := #[]
  staticTypes := #[]
  resolved := Array.replicate 124 none
  statics := none }

def pool1 : Array CpInfo := pool [(2, .class_ 4), (1, u "java/lang/Object"), (0, u "<init>"), (0, u "()V"), (0, .integer 2147483647), (0, .long 3), (1, .fieldref 11 12), (0, .class_ 13), (0, .nameAndType 14 15), (0, u "com/example/iron_axis/ironaxis/parser/Occurrence"), (0, u "NONE"), (0, u "Lcom/example/iron_axis/ironaxis/parser/Occurrence;"), (0, .fieldref 11 17), (0, .nameAndType 18 15), (0, u "EXACTLY_ONE"), (0, .fieldref 11 20), (0, .nameAndType 21 15), (0, u "ZERO_OR_ONE"), (0, .fieldref 11 23), (0, .nameAndType 24 15), (0, u "ZERO_OR_MORE"), (0, .fieldref 11 26), (0, .nameAndType 27 15), (0, u "ONE_OR_MORE"), (0, .methodref 11 29), (0, .nameAndType 30 31), (0, u "allows"), (0, u "(J)Z"), (0, .class_ 33), (0, u "com/example/iron_axis/ironaxis/parser/OccurrenceAllowsPinLaw"), (2, u "law"), (0, u "(IJI)Z")] 3

def k1m0 : Method := { name := "<init>", desc := "()V", sig := { parameters := [], returnType := none }, accessFlags := 1, code := none }
def k1c1 : Code := { maxStack := 4, maxLocals := 9, code := code, exceptionTable := #[], attributes := #[] }
def k1m1 : Method := { name := "law", desc := "(IJI)Z", sig := { parameters := [.int, .long, .int], returnType := some .boolean }, accessFlags := 9, code := some k1c1 }
/-- com/example/iron_axis/ironaxis/parser/OccurrenceAllowsPinLaw -/
def k1 : Class := { plain "com/example/iron_axis/ironaxis/parser/OccurrenceAllowsPinLaw" (some 0) with
  accessFlags := 49
  interfaces := #[]
  cf := some (fileOf pool1 32 #[] #[{ accessFlags := 1, nameIndex := 5, descriptorIndex := 6, attributes := #[] }, { accessFlags := 9, nameIndex := 36, descriptorIndex := 37, attributes := #[] }] 49 2 #[] #[])
  fields := #[]
  methods := #[k1m0, k1m1]
  instanceTypes := #[]
  staticTypes := #[]
  resolved := Array.replicate 41 none
  statics := none }

def pool2 : Array CpInfo := pool [(1, .class_ 2), (0, u "java/lang/constant/Constable"), (0, .class_ 4), (0, u "java/lang/Object")] 6

/-- java/lang/constant/Constable -/
def k2 : Class := { plain "java/lang/constant/Constable" (some 0) with
  accessFlags := 1537
  interfaces := #[]
  cf := some (fileOf pool2 1 #[] #[] 1537 3 #[] #[])
  fields := #[]
  methods := #[]
  instanceTypes := #[]
  staticTypes := #[]
  resolved := Array.replicate 11 none
  statics := none }

def pool3 : Array CpInfo := pool [(1, .class_ 2), (0, u "java/lang/Comparable"), (0, .class_ 4), (0, u "java/lang/Object")] 7

/-- java/lang/Comparable -/
def k3 : Class := { plain "java/lang/Comparable" (some 0) with
  accessFlags := 1537
  interfaces := #[]
  cf := some (fileOf pool3 1 #[] #[] 1537 3 #[] #[])
  fields := #[]
  methods := #[]
  instanceTypes := #[]
  staticTypes := #[]
  resolved := Array.replicate 12 none
  statics := none }

def pool4 : Array CpInfo := pool [(1, .class_ 2), (0, u "java/io/Serializable"), (0, .class_ 4), (0, u "java/lang/Object")] 2

/-- java/io/Serializable -/
def k4 : Class := { plain "java/io/Serializable" (some 0) with
  accessFlags := 1537
  interfaces := #[]
  cf := some (fileOf pool4 1 #[] #[] 1537 3 #[] #[])
  fields := #[]
  methods := #[]
  instanceTypes := #[]
  staticTypes := #[]
  resolved := Array.replicate 7 none
  statics := none }

def pool5 : Array CpInfo := pool [(2, .class_ 4), (1, u "java/lang/Enum"), (0, u "name"), (0, u "Ljava/lang/String;"), (2, u "ordinal"), (0, u "I"), (1, .class_ 14), (1, u "java/lang/Object"), (4, u "hash"), (86, .class_ 108), (1, u "java/lang/Enum$EnumDesc"), (2, .class_ 112), (0, u "java/lang/constant/Constable"), (0, .class_ 114), (0, u "java/lang/Comparable"), (0, .class_ 116), (0, u "java/io/Serializable")] 87

/-- java/lang/Enum -/
def k5 : Class := { plain "java/lang/Enum" (some 0) with
  accessFlags := 1057
  interfaces := #[2, 3, 4]
  cf := some (fileOf pool5 2 #[.nestMembers #[106]] #[] 1057 12 #[111, 113, 115] #[{ accessFlags := 18, nameIndex := 5, descriptorIndex := 6, attributes := #[] }, { accessFlags := 18, nameIndex := 9, descriptorIndex := 10, attributes := #[] }, { accessFlags := 2, nameIndex := 19, descriptorIndex := 10, attributes := #[] }])
  fields := #[{ name := "name", type := (.object "java/lang/String"), accessFlags := 18, slot := 0, constantValue := 0 }, { name := "ordinal", type := .int, accessFlags := 18, slot := 1, constantValue := 0 }, { name := "hash", type := .int, accessFlags := 2, slot := 2, constantValue := 0 }]
  methods := #[]
  instanceTypes := #[(.object "java/lang/String"), .int, .int]
  staticTypes := #[]
  resolved := Array.replicate 204 none
  statics := none }

def pool6 : Array CpInfo := pool [(1, .class_ 2), (0, u "com/example/iron_axis/ironaxis/parser/Occurrence"), (2, u "NONE"), (0, u "Lcom/example/iron_axis/ironaxis/parser/Occurrence;"), (2, u "EXACTLY_ONE"), (2, u "ZERO_OR_ONE"), (2, u "ZERO_OR_MORE"), (2, u "ONE_OR_MORE"), (2, u "$VALUES"), (0, u "[Lcom/example/iron_axis/ironaxis/parser/Occurrence;"), (6, .class_ 31), (1, u "java/lang/Enum"), (6, .fieldref 1 39), (0, .nameAndType 40 41), (0, u "min"), (0, u "J"), (0, .fieldref 1 43), (0, .nameAndType 44 41), (0, u "max"), (23, u "allows"), (0, u "(J)Z")] 7

def k6c0 : Code := { maxStack := 4, maxLocals := 3, code := prog_284_method_4_code, exceptionTable := #[], attributes := #[] }
def k6m0 : Method := { name := "allows", desc := "(J)Z", sig := { parameters := [.long], returnType := some .boolean }, accessFlags := 1, code := some k6c0 }
/-- com/example/iron_axis/ironaxis/parser/Occurrence -/
def k6 : Class := { plain "com/example/iron_axis/ironaxis/parser/Occurrence" (some 5) with
  accessFlags := 16433
  interfaces := #[]
  cf := some (fileOf pool6 1 #[] #[{ accessFlags := 1, nameIndex := 68, descriptorIndex := 69, attributes := #[] }] 16433 29 #[] #[{ accessFlags := 16409, nameIndex := 5, descriptorIndex := 6, attributes := #[] }, { accessFlags := 16409, nameIndex := 9, descriptorIndex := 6, attributes := #[] }, { accessFlags := 16409, nameIndex := 12, descriptorIndex := 6, attributes := #[] }, { accessFlags := 16409, nameIndex := 15, descriptorIndex := 6, attributes := #[] }, { accessFlags := 16409, nameIndex := 18, descriptorIndex := 6, attributes := #[] }, { accessFlags := 18, nameIndex := 40, descriptorIndex := 41, attributes := #[] }, { accessFlags := 18, nameIndex := 44, descriptorIndex := 41, attributes := #[] }, { accessFlags := 4122, nameIndex := 21, descriptorIndex := 22, attributes := #[] }])
  fields := #[{ name := "NONE", type := (.object "com/example/iron_axis/ironaxis/parser/Occurrence"), accessFlags := 16409, slot := 0, constantValue := 0 }, { name := "EXACTLY_ONE", type := (.object "com/example/iron_axis/ironaxis/parser/Occurrence"), accessFlags := 16409, slot := 1, constantValue := 0 }, { name := "ZERO_OR_ONE", type := (.object "com/example/iron_axis/ironaxis/parser/Occurrence"), accessFlags := 16409, slot := 2, constantValue := 0 }, { name := "ZERO_OR_MORE", type := (.object "com/example/iron_axis/ironaxis/parser/Occurrence"), accessFlags := 16409, slot := 3, constantValue := 0 }, { name := "ONE_OR_MORE", type := (.object "com/example/iron_axis/ironaxis/parser/Occurrence"), accessFlags := 16409, slot := 4, constantValue := 0 }, { name := "min", type := .long, accessFlags := 18, slot := 3, constantValue := 0 }, { name := "max", type := .long, accessFlags := 18, slot := 4, constantValue := 0 }, { name := "$VALUES", type := (.array (.object "com/example/iron_axis/ironaxis/parser/Occurrence")), accessFlags := 4122, slot := 5, constantValue := 0 }]
  methods := #[k6m0]
  instanceTypes := #[(.object "java/lang/String"), .int, .int, .long, .long]
  staticTypes := #[(.object "com/example/iron_axis/ironaxis/parser/Occurrence"), (.object "com/example/iron_axis/ironaxis/parser/Occurrence"), (.object "com/example/iron_axis/ironaxis/parser/Occurrence"), (.object "com/example/iron_axis/ironaxis/parser/Occurrence"), (.object "com/example/iron_axis/ironaxis/parser/Occurrence"), (.array (.object "com/example/iron_axis/ironaxis/parser/Occurrence"))]
  resolved := Array.replicate 77 none
  statics := some 0 }

def pool7 : Array CpInfo := pool [(1, u "java/lang/Cloneable"), (0, .class_ 1), (0, u "java/lang/Object"), (0, .class_ 3)] 3

/-- java/lang/Cloneable -/
def k7 : Class := { plain "java/lang/Cloneable" (some 0) with
  accessFlags := 1537
  interfaces := #[]
  cf := some (fileOf pool7 2 #[] #[] 1537 4 #[] #[])
  fields := #[]
  methods := #[]
  instanceTypes := #[]
  staticTypes := #[]
  resolved := Array.replicate 8 none
  statics := none }

/-- the primitive byte -/
def k8 : Class := { plain "byte" none with kind := .primitive 'B', accessFlags := 0x411 }
/-- [B -/
def k9 : Class := { plain "[B" (some 0) with kind := .array 8 .byte, interfaces := #[7, 4], accessFlags := 1041 }

def heap : Heap := #[{ cls := 6, slots := #[.ref 1, .ref 2, .ref 3, .ref 4, .ref 5, .null], vm := .statics 6 },
  { cls := 6, slots := #[.null, .int 0, .int 0, .long 0, .long 0], vm := .none },
  { cls := 6, slots := #[.null, .int 1, .int 0, .long 1, .long 1], vm := .none },
  { cls := 6, slots := #[.null, .int 2, .int 0, .long 0, .long 1], vm := .none },
  { cls := 6, slots := #[.null, .int 3, .int 0, .long 0, .long 9223372036854775807], vm := .none },
  { cls := 6, slots := #[.null, .int 4, .int 0, .long 1, .long 9223372036854775807], vm := .none }]
def classes : Array Class := #[k0, k1, k2, k3, k4, k5, k6, k7, k8, k9]
def interned : List (Array UInt16 × Addr) := []
def slotsUsed : Nat := 31
def theMethod : MethodId := ⟨1, 1⟩
def args0 : Array Value := #[.int 7, .long 1, .int 0]
def aboutOver (below : List Frame) : State where
  vm := { classes := classes, interned := interned.toArray }
  heap := heap
  slotsUsed := slotsUsed
  threads := #[{ frames := .invoking theMethod args0 :: below }]
def below0 : List Frame := [.native { method := ⟨0, 0⟩, args := #[] }]
def about1 : State := aboutOver below0
def p0 : Program := .bare "" "" ""
def e0 : Env := launch0.env 0 0 0
theorem w_frames : about1.frames = Frame.invoking theMethod args0 :: below0 := rfl
set_option maxRecDepth 65536 in
theorem w_args : argsFit about1.vm theMethod args0 = true := by decide +kernel
set_option maxRecDepth 65536 in
theorem w_heap : heapFits about1 = true := by decide +kernel
set_option maxRecDepth 65536 in
theorem w_runnable : about1.curStatus? = some .runnable := by decide +kernel
set_option maxRecDepth 65536 in
theorem w_alone : about1.alone = true := by decide +kernel
set_option maxRecDepth 65536 in
theorem w_named : about1.methodNamed? x = some theMethod := by decide +kernel
set_option maxRecDepth 65536 in
theorem w_hears : about1.hears theMethod below0 = true := by decide +kernel
set_option maxRecDepth 65536 in
theorem w_ripe : about1.ripe theMethod args0 below0 = true := by decide +kernel
theorem w_running : about1.status = .running := rfl
set_option maxRecDepth 65536 in
theorem w_room : about1.hasRoom e0.platform room_1 = true :=
  launch0.hasRoom_least _ room_1 (by decide +kernel) (by decide +kernel) (by decide +kernel) (by decide +kernel) (by decide +kernel) (by decide +kernel)
theorem allAtoms_all (ts : List Jvm.Cond) (a : Array Jvm.Value) (st : Jvm.State) : (allAtoms ts).before a st = ts.all (fun c => c.before a st) := by
  induction ts with
  | nil => rfl
  | cons c t ih =>
    show (Jvm.Cond.and c (allAtoms t)).before a st = _
    rw [Jvm.Cond.before_and, ih, List.all_cons]
def words1 : List Jvm.Cond := Jvm.Cond.code x code maxLocals ret :: tables_1
/-- a 'code' word, met by the world's own term for the bytes: nothing is compared byte by byte -/
theorem code_word {y : MethodName} {bytes : ByteArray} {mx : Nat} {rt : Option FieldType} {a : Array Value} {s : State} {m : MethodId} {meth : Method} {c : Code} (h1 : s.methodNamed? y = some m) (h2 : s.vm.method? m = some meth) (h3 : meth.code = some c) (h4 : c.code = bytes)
    (h5 : (c.maxLocals == mx && c.exceptionTable.isEmpty && decide (c.maxStack ≤ mostOperands) && decide (meth.sig.returnType = rt) && !meth.locks && decide (parseMethodDescriptor y.desc = some meth.sig)) = true) : (Jvm.Cond.code y bytes mx rt).before a s = true := by
  simp only [Bool.and_eq_true, beq_iff_eq, Bool.not_eq_true', decide_eq_true_eq] at h5
  obtain ⟨⟨⟨⟨⟨g1, g2⟩, g3⟩, g4⟩, g5⟩, g6⟩ := h5
  simp [Cond.before, Cond.holds, Cond.value, h1, h2, h3, h4, g1, g2, g3, g4, g5, g6]
def isCode : Jvm.Cond → Bool
  | .code _ _ _ _ => true
  | _ => false
theorem all_split {L : List Jvm.Cond} {P : Jvm.Cond → Bool} (h1 : L.all (fun c => isCode c || P c) = true) (h2 : ∀ c ∈ L.filter isCode, P c = true) : L.all P = true := by
  refine List.all_eq_true.mpr fun c hc => ?_
  have h := List.all_eq_true.mp h1 c hc
  rcases Bool.eq_false_or_eq_true (isCode c) with hi | hi
  · exact h2 c (List.mem_filter.mpr ⟨hc, hi⟩)
  · simpa [hi] using h
set_option maxRecDepth 65536 in
theorem w_c0 : (Jvm.Cond.code x code maxLocals ret).before args0 about1 = true := code_word (m := ⟨1, 1⟩) (meth := k1m1) (c := k1c1) (by decide +kernel) rfl rfl rfl (by decide +kernel)
set_option maxRecDepth 65536 in
theorem w_c1 : (Jvm.Cond.code ({ cls := "com/example/iron_axis/ironaxis/parser/Occurrence", name := "allows", desc := "(J)Z" } : Jvm.MethodName) prog_284_method_4_code (3 : Nat) (Option.some Jvm.ClassFile.FieldType.boolean)).before args0 about1 = true := code_word (m := ⟨6, 0⟩) (meth := k6m0) (c := k6c0) (by decide +kernel) rfl rfl rfl (by decide +kernel)
def codes1 : List Jvm.Cond := [Jvm.Cond.code x code maxLocals ret, Jvm.Cond.code ({ cls := "com/example/iron_axis/ironaxis/parser/Occurrence", name := "allows", desc := "(J)Z" } : Jvm.MethodName) prog_284_method_4_code (3 : Nat) (Option.some Jvm.ClassFile.FieldType.boolean)]
set_option maxRecDepth 65536 in
theorem codes_eq : words1.filter isCode = codes1 := rfl
theorem w_codes : ∀ c ∈ words1.filter isCode, c.before args0 about1 = true := by
  rw [codes_eq]
  intro c hc
  simp only [codes1, List.mem_cons, List.not_mem_nil, or_false] at hc
  rcases hc with rfl | rfl
  · exact w_c0
  · exact w_c1
set_option maxRecDepth 65536 in
theorem w_t1 : words1.all (fun c => isCode c || c.before args0 about1) = true := by decide +kernel
theorem w_tables : (allAtoms (Jvm.Cond.code x code maxLocals ret :: tables_1)).before args0 about1 = true := by
  rw [allAtoms_all]
  show words1.all (fun c => c.before args0 about1) = true
  refine all_split ?_ w_codes
  rw [w_t1]
set_option maxRecDepth 65536 in
theorem w_case : (Jvm.Cond.and given_1 narrow_1).before args0 about1 = true := by decide +kernel
theorem w_applies : (headSpec (Jvm.Cond.code x code maxLocals ret :: tables_1) room_1).applies x e0.platform about1 = true :=
  (Spec.applies_iff w_frames).mpr ⟨w_running, w_runnable, w_alone, w_named, w_hears, w_ripe, w_room, w_tables⟩
theorem atStart : AtStart classFile x code maxLocals ret World_1 tables_1 room_1 Calls_1 rest_1 Pre_1 launch0 p0 e0 about1 theMethod args0 below0 :=
  ⟨lists_1, trivial, launch0.admits_env _ _ _, launch0.least_env, fairChoices_fair.cas, fairChoices_fair.clock, w_frames, w_args, w_heap, w_applies, trivial, trivial, w_case⟩
end start1
theorem witness_1 : WitnessClaimed_1 := ⟨start1.p0, start1.e0, start1.about1, start1.theMethod, start1.args0, start1.below0, start1.atStart⟩
end Jvm.Pilot.@@N@@
