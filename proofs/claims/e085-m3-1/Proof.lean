import JvmDerived
import JvmDerived.Pilot.@@N@@Statement
import JvmDerived.Pilot.@@N@@Code
set_option linter.unusedVariables false
set_option linter.unusedSimpArgs false
@@BLOCK:NumsL.lean.txt@@
namespace Jvm.RoadKit
open Sem ClassFile Op Lib Jvm.Stand Jvm.Free Jvm.LawKit
section New
variable {p : Program} {l : Launch} {e : Env} {R : Room} {s : State} {m : MethodId} {args : Array Value} {below : List Frame} {meth : Method} {c : Code} {T : State} {locs : List Loc} {cells slots : Nat}
theorem retI (X : Stand p l e R s m args below meth c T locs cells slots) (hx : p.tables.exec = Jvm.exec) {pc : Nat} {Ls : Array Slot} {z : Int32} {rest : List Value} (hret : meth.sig.returnType = some .int) (hd : decode c.code pc = .ok (.ireturn, 1)) {fs : List Frame}
    (hl : ∀ (f : JFrame) (acts : List Action), f.method = m → f.locked = none → f.entered = [] → (doReturn e (T.setTop f) acts (some (.int z))).1 = T.setFrames fs) : Steps p.tables e below (T.setTop (mkF m pc Ls (.int z :: rest))) (T.setFrames fs) := by
  have hm' : T.vm.method? m = some meth := X.method'
  have hn : narrow .int (.int z) = .int z := rfl
  show Steps p.tables e below (T.setTop { method := m, pc := pc, locals := Ls, stack := _ :: rest, locked := none }) _
  jvm_step X.here [X.here.top, hx, hd, hm', hret, hn]
  first | (intro acts; rw [hl _ acts rfl rfl rfl]) | rw [hl _ _ rfl rfl rfl]
  exact Steps.refl _
end New
end Jvm.RoadKit
namespace Jvm.Pilot.@@N@@
open Jvm Jvm.ClassFile Sem Op Lib Jvm.Free Jvm.Stand Jvm.LawKit Jvm.RoadKit Bundle Jvm.Pilot.@@N@@.Jvm.D
theorem d1_0 : decode prog_70_method_8_code 0 = .ok (.aload_n 0, 1) := by decide +kernel
theorem d1_1 : decode prog_70_method_8_code 1 = .ok (.getstatic 3, 3) := by decide +kernel
theorem d1_4 : decode prog_70_method_8_code 4 = .ok (.if_acmp .eq 31, 3) := by decide +kernel
theorem d1_35 : decode prog_70_method_8_code 35 = .ok (.iconst 1, 1) := by decide +kernel
theorem d1_36 : decode prog_70_method_8_code 36 = .ok (.goto 4, 3) := by decide +kernel
theorem d1_40 : decode prog_70_method_8_code 40 = .ok (.ireturn, 1) := by decide +kernel
theorem pn_1 : plainName "com/example/isogloss/isogloss/languages/idl/Symbol$Kind" = true := by first | (simp [plainName, overriddenIn]; done) | decide +kernel
theorem ef_1 (m : MethodId) (x0 : Addr) : entryFrame m #[(.ref x0)] 1 = mkF m 0 #[.val (.ref x0)] [] := by first | (simp [entryFrame, mkF, argsToLocals, Value.category]; done) | rfl
def Q1_0 (Z : State) (a1 : Addr) (w2 : Addr) (h0 : Heap) (n0 : Nat) (v : Option Value) (h : Heap) (L : List Loc) : Prop := v = some (.int (1 : Int32)) ∧ Fr n0 L ∧ h = h0
set_option maxRecDepth 65536 in
set_option maxHeartbeats 40000000 in
theorem rm1_0 (l : Launch) (Z : State) (a0 : Array Value) (hw : ∀ d ∈ tables_1, d.before a0 Z = true) (ws : List Jvm.Cond) (a1 : Addr) (w2 : Addr) (h0 : Heap) (n0 : Nat) (Z0 : n0 ≤ h0.size) (S_MODULE : Sta Z h0 "com/example/isogloss/isogloss/languages/idl/Symbol$Kind" "MODULE" "Lcom/example/isogloss/isogloss/languages/idl/Symbol$Kind;" (.ref w2)) (ha4 : a1 = w2) :
    MetFree l (⟨"com/example/isogloss/isogloss/languages/idl/Symbol$Kind", "guardsItsName", "()Z"⟩ : MethodName) (head1 (Jvm.Cond.code (⟨"com/example/isogloss/isogloss/languages/idl/Symbol$Kind", "guardsItsName", "()Z"⟩ : MethodName) prog_70_method_8_code 1 (some .boolean) :: ws) ({ frames := 0, cells := 0, slots := 0, locals := 0 } : Room)) (fun a U => a = #[(.ref a1)] ∧ Z.Warmed39 U.vm ∧ U.heap = h0) (fun _ _ _ _ _ => True) (fun _ U o U' => ∃ v L, o = .returned v ∧ Q1_0 Z a1 w2 h0 n0 v U'.heap L ∧ FrameEnd U o U' L ({ frames := 0, cells := 0, slots := 0, locals := 0 } : Room).cells ({ frames := 0, cells := 0, slots := 0, locals := 0 } : Room).slots) := by
  refine MetFree.of_bodySF (plainFor_of_name pn_1) hisR ?_
  intro p e s m args below meth c s₁ Bd hml0 hP hK
  obtain ⟨rfl, hZ, hh⟩ := hP
  have hx := Bd.exec
  have hby := Bd.bytes
  have hml : c.maxLocals = 1 := hml0
  have hown : s.vm.findClass "com/example/isogloss/isogloss/languages/idl/Symbol$Kind" = some m.cls := findClass_of_methodNamed Bd.named
  have hnm := (name_of_methodNamed Bd.named Bd.method).1
  have X0 : Stand p l e ({ frames := 0, cells := 0, slots := 0, locals := 0 } : Room) s m #[(.ref a1)] below meth c s₁ [] 0 0 := Stand.of_body Bd
  have e0 : s₁.heap = h0 := by rw [← hh, Bd.state]; rfl
  have N0 := Fr.nil n0
  have pre0 : ∀ t, Steps p.tables e below (s₁.setTop (mkF m 0 #[.val (.ref a1)] [])) t → Steps p.tables e below (s₁.setTop (entryFrame m #[(.ref a1)] 1)) t := fun t k => castTop (ef_1 m a1) k
  obtain ⟨T3, X3, e3, st3⟩ := getS2 X0 hx hZ hown (host := "") (Or.inl (hw _ (List.mem_of_getElem? (i := 39) rfl))) Via.refl e0 S_MODULE (g := (mkF m 1 #[.val (.ref a1)] [(.ref a1)])) rfl (hb hby d1_1)
  obtain ⟨fs, hr, hrun, hended, hW, hsame⟩ := X3.leave (v := some (.int (1 : Int32))) (fun h => by rw [Bd.returns] at h; cases h)
  refine ⟨_, _, pre0 _ ?_, hrun, hended, _, _, rfl, ?_, ⟨_, rfl⟩, hW, hsame.mono (by decide) (by decide)⟩
  · show Steps p.tables e below (s₁.setTop (mkF m 0 #[.val (.ref a1)] [])) _
    refine XS.aloadN X0.here hx rfl (hb hby d1_0) rfl rfl ?_
    show Steps p.tables e below (s₁.setTop (mkF m 1 #[.val (.ref a1)] [(.ref a1)])) _
    refine st3 _ ?_
    show Steps p.tables e below (T3.setTop (mkF m 4 #[.val (.ref a1)] [(.ref w2), (.ref a1)])) _
    refine Jvm.RoadKit.acmp (g := (mkF m 4 #[.val (.ref a1)] [(.ref w2), (.ref a1)])) X3 hx rfl rfl rfl (pc0 := 4) (pc' := 35) (same := true) rfl (hb hby d1_4) rfl (decide_eq_true (congrArg Value.ref ha4)) (by decide) (by decide) ?_
    show Steps p.tables e below (T3.setTop (mkF m 35 #[.val (.ref a1)] [])) _
    refine XS.iconst X3.here hx rfl (hb hby d1_35) ?_
    show Steps p.tables e below (T3.setTop (mkF m 36 #[.val (.ref a1)] [(.int (1 : Int32))])) _
    refine XS.goto X3.here hx rfl (pc0 := 36) (pc' := 40) rfl (hb hby d1_36) (by decide) (by decide) ?_
    show Steps p.tables e below (T3.setTop (mkF m 40 #[.val (.ref a1)] [(.int (1 : Int32))])) _
    exact retN X3 hx (t := .boolean) Bd.returns (by simp) (hb hby d1_40) hr
  · show Q1_0 Z a1 w2 h0 n0 _ T3.heap _
    rw [e3]
    exact ⟨rfl, N0, rfl⟩
theorem d1_7 : decode prog_70_method_8_code 7 = .ok (.aload_n 0, 1) := by decide +kernel
theorem d1_8 : decode prog_70_method_8_code 8 = .ok (.getstatic 7, 3) := by decide +kernel
theorem d1_11 : decode prog_70_method_8_code 11 = .ok (.if_acmp .eq 24, 3) := by decide +kernel
def Q1_1 (Z : State) (a1 : Addr) (w2 : Addr) (w4 : Addr) (h0 : Heap) (n0 : Nat) (v : Option Value) (h : Heap) (L : List Loc) : Prop := v = some (.int (1 : Int32)) ∧ Fr n0 L ∧ h = h0
set_option maxRecDepth 65536 in
set_option maxHeartbeats 40000000 in
theorem rm1_1 (l : Launch) (Z : State) (a0 : Array Value) (hw : ∀ d ∈ tables_1, d.before a0 Z = true) (ws : List Jvm.Cond) (a1 : Addr) (w2 : Addr) (w4 : Addr) (h0 : Heap) (n0 : Nat) (Z0 : n0 ≤ h0.size) (S_MODULE : Sta Z h0 "com/example/isogloss/isogloss/languages/idl/Symbol$Kind" "MODULE" "Lcom/example/isogloss/isogloss/languages/idl/Symbol$Kind;" (.ref w2)) (S_INTERFACE : Sta Z h0 "com/example/isogloss/isogloss/languages/idl/Symbol$Kind" "INTERFACE" "Lcom/example/isogloss/isogloss/languages/idl/Symbol$Kind;" (.ref w4)) (ha4 : ¬ (a1 = w2)) (ha11 : a1 = w4) :
    MetFree l (⟨"com/example/isogloss/isogloss/languages/idl/Symbol$Kind", "guardsItsName", "()Z"⟩ : MethodName) (head1 (Jvm.Cond.code (⟨"com/example/isogloss/isogloss/languages/idl/Symbol$Kind", "guardsItsName", "()Z"⟩ : MethodName) prog_70_method_8_code 1 (some .boolean) :: ws) ({ frames := 0, cells := 0, slots := 0, locals := 0 } : Room)) (fun a U => a = #[(.ref a1)] ∧ Z.Warmed39 U.vm ∧ U.heap = h0) (fun _ _ _ _ _ => True) (fun _ U o U' => ∃ v L, o = .returned v ∧ Q1_1 Z a1 w2 w4 h0 n0 v U'.heap L ∧ FrameEnd U o U' L ({ frames := 0, cells := 0, slots := 0, locals := 0 } : Room).cells ({ frames := 0, cells := 0, slots := 0, locals := 0 } : Room).slots) := by
  refine MetFree.of_bodySF (plainFor_of_name pn_1) hisR ?_
  intro p e s m args below meth c s₁ Bd hml0 hP hK
  obtain ⟨rfl, hZ, hh⟩ := hP
  have hx := Bd.exec
  have hby := Bd.bytes
  have hml : c.maxLocals = 1 := hml0
  have hown : s.vm.findClass "com/example/isogloss/isogloss/languages/idl/Symbol$Kind" = some m.cls := findClass_of_methodNamed Bd.named
  have hnm := (name_of_methodNamed Bd.named Bd.method).1
  have X0 : Stand p l e ({ frames := 0, cells := 0, slots := 0, locals := 0 } : Room) s m #[(.ref a1)] below meth c s₁ [] 0 0 := Stand.of_body Bd
  have e0 : s₁.heap = h0 := by rw [← hh, Bd.state]; rfl
  have N0 := Fr.nil n0
  have pre0 : ∀ t, Steps p.tables e below (s₁.setTop (mkF m 0 #[.val (.ref a1)] [])) t → Steps p.tables e below (s₁.setTop (entryFrame m #[(.ref a1)] 1)) t := fun t k => castTop (ef_1 m a1) k
  obtain ⟨T3, X3, e3, st3⟩ := getS2 X0 hx hZ hown (host := "") (Or.inl (hw _ (List.mem_of_getElem? (i := 39) rfl))) Via.refl e0 S_MODULE (g := (mkF m 1 #[.val (.ref a1)] [(.ref a1)])) rfl (hb hby d1_1)
  obtain ⟨T5, X5, e5, st5⟩ := getS2 X3 hx hZ hown (host := "") (Or.inl (hw _ (List.mem_of_getElem? (i := 40) rfl))) Via.refl e3 S_INTERFACE (g := (mkF m 8 #[.val (.ref a1)] [(.ref a1)])) rfl (hb hby d1_8)
  obtain ⟨fs, hr, hrun, hended, hW, hsame⟩ := X5.leave (v := some (.int (1 : Int32))) (fun h => by rw [Bd.returns] at h; cases h)
  refine ⟨_, _, pre0 _ ?_, hrun, hended, _, _, rfl, ?_, ⟨_, rfl⟩, hW, hsame.mono (by decide) (by decide)⟩
  · show Steps p.tables e below (s₁.setTop (mkF m 0 #[.val (.ref a1)] [])) _
    refine XS.aloadN X0.here hx rfl (hb hby d1_0) rfl rfl ?_
    show Steps p.tables e below (s₁.setTop (mkF m 1 #[.val (.ref a1)] [(.ref a1)])) _
    refine st3 _ ?_
    show Steps p.tables e below (T3.setTop (mkF m 4 #[.val (.ref a1)] [(.ref w2), (.ref a1)])) _
    refine Jvm.RoadKit.acmp (g := (mkF m 4 #[.val (.ref a1)] [(.ref w2), (.ref a1)])) X3 hx rfl rfl rfl (pc0 := 4) (pc' := 7) (same := false) rfl (hb hby d1_4) rfl (decide_eq_false fun q => ha4 (Value.ref.inj q)) (by decide) (by decide) ?_
    show Steps p.tables e below (T3.setTop (mkF m 7 #[.val (.ref a1)] [])) _
    refine XS.aloadN X3.here hx rfl (hb hby d1_7) rfl rfl ?_
    show Steps p.tables e below (T3.setTop (mkF m 8 #[.val (.ref a1)] [(.ref a1)])) _
    refine st5 _ ?_
    show Steps p.tables e below (T5.setTop (mkF m 11 #[.val (.ref a1)] [(.ref w4), (.ref a1)])) _
    refine Jvm.RoadKit.acmp (g := (mkF m 11 #[.val (.ref a1)] [(.ref w4), (.ref a1)])) X5 hx rfl rfl rfl (pc0 := 11) (pc' := 35) (same := true) rfl (hb hby d1_11) rfl (decide_eq_true (congrArg Value.ref ha11)) (by decide) (by decide) ?_
    show Steps p.tables e below (T5.setTop (mkF m 35 #[.val (.ref a1)] [])) _
    refine XS.iconst X5.here hx rfl (hb hby d1_35) ?_
    show Steps p.tables e below (T5.setTop (mkF m 36 #[.val (.ref a1)] [(.int (1 : Int32))])) _
    refine XS.goto X5.here hx rfl (pc0 := 36) (pc' := 40) rfl (hb hby d1_36) (by decide) (by decide) ?_
    show Steps p.tables e below (T5.setTop (mkF m 40 #[.val (.ref a1)] [(.int (1 : Int32))])) _
    exact retN X5 hx (t := .boolean) Bd.returns (by simp) (hb hby d1_40) hr
  · show Q1_1 Z a1 w2 w4 h0 n0 _ T5.heap _
    rw [e5]
    exact ⟨rfl, N0, rfl⟩
theorem d1_14 : decode prog_70_method_8_code 14 = .ok (.aload_n 0, 1) := by decide +kernel
theorem d1_15 : decode prog_70_method_8_code 15 = .ok (.getstatic 10, 3) := by decide +kernel
theorem d1_18 : decode prog_70_method_8_code 18 = .ok (.if_acmp .eq 17, 3) := by decide +kernel
def Q1_2 (Z : State) (a1 : Addr) (w2 : Addr) (w4 : Addr) (w6 : Addr) (h0 : Heap) (n0 : Nat) (v : Option Value) (h : Heap) (L : List Loc) : Prop := v = some (.int (1 : Int32)) ∧ Fr n0 L ∧ h = h0
set_option maxRecDepth 65536 in
set_option maxHeartbeats 40000000 in
theorem rm1_2 (l : Launch) (Z : State) (a0 : Array Value) (hw : ∀ d ∈ tables_1, d.before a0 Z = true) (ws : List Jvm.Cond) (a1 : Addr) (w2 : Addr) (w4 : Addr) (w6 : Addr) (h0 : Heap) (n0 : Nat) (Z0 : n0 ≤ h0.size) (S_MODULE : Sta Z h0 "com/example/isogloss/isogloss/languages/idl/Symbol$Kind" "MODULE" "Lcom/example/isogloss/isogloss/languages/idl/Symbol$Kind;" (.ref w2)) (S_INTERFACE : Sta Z h0 "com/example/isogloss/isogloss/languages/idl/Symbol$Kind" "INTERFACE" "Lcom/example/isogloss/isogloss/languages/idl/Symbol$Kind;" (.ref w4)) (S_STRUCT : Sta Z h0 "com/example/isogloss/isogloss/languages/idl/Symbol$Kind" "STRUCT" "Lcom/example/isogloss/isogloss/languages/idl/Symbol$Kind;" (.ref w6)) (ha4 : ¬ (a1 = w2)) (ha11 : ¬ (a1 = w4)) (ha18 : a1 = w6) :
    MetFree l (⟨"com/example/isogloss/isogloss/languages/idl/Symbol$Kind", "guardsItsName", "()Z"⟩ : MethodName) (head1 (Jvm.Cond.code (⟨"com/example/isogloss/isogloss/languages/idl/Symbol$Kind", "guardsItsName", "()Z"⟩ : MethodName) prog_70_method_8_code 1 (some .boolean) :: ws) ({ frames := 0, cells := 0, slots := 0, locals := 0 } : Room)) (fun a U => a = #[(.ref a1)] ∧ Z.Warmed39 U.vm ∧ U.heap = h0) (fun _ _ _ _ _ => True) (fun _ U o U' => ∃ v L, o = .returned v ∧ Q1_2 Z a1 w2 w4 w6 h0 n0 v U'.heap L ∧ FrameEnd U o U' L ({ frames := 0, cells := 0, slots := 0, locals := 0 } : Room).cells ({ frames := 0, cells := 0, slots := 0, locals := 0 } : Room).slots) := by
  refine MetFree.of_bodySF (plainFor_of_name pn_1) hisR ?_
  intro p e s m args below meth c s₁ Bd hml0 hP hK
  obtain ⟨rfl, hZ, hh⟩ := hP
  have hx := Bd.exec
  have hby := Bd.bytes
  have hml : c.maxLocals = 1 := hml0
  have hown : s.vm.findClass "com/example/isogloss/isogloss/languages/idl/Symbol$Kind" = some m.cls := findClass_of_methodNamed Bd.named
  have hnm := (name_of_methodNamed Bd.named Bd.method).1
  have X0 : Stand p l e ({ frames := 0, cells := 0, slots := 0, locals := 0 } : Room) s m #[(.ref a1)] below meth c s₁ [] 0 0 := Stand.of_body Bd
  have e0 : s₁.heap = h0 := by rw [← hh, Bd.state]; rfl
  have N0 := Fr.nil n0
  have pre0 : ∀ t, Steps p.tables e below (s₁.setTop (mkF m 0 #[.val (.ref a1)] [])) t → Steps p.tables e below (s₁.setTop (entryFrame m #[(.ref a1)] 1)) t := fun t k => castTop (ef_1 m a1) k
  obtain ⟨T3, X3, e3, st3⟩ := getS2 X0 hx hZ hown (host := "") (Or.inl (hw _ (List.mem_of_getElem? (i := 39) rfl))) Via.refl e0 S_MODULE (g := (mkF m 1 #[.val (.ref a1)] [(.ref a1)])) rfl (hb hby d1_1)
  obtain ⟨T5, X5, e5, st5⟩ := getS2 X3 hx hZ hown (host := "") (Or.inl (hw _ (List.mem_of_getElem? (i := 40) rfl))) Via.refl e3 S_INTERFACE (g := (mkF m 8 #[.val (.ref a1)] [(.ref a1)])) rfl (hb hby d1_8)
  obtain ⟨T7, X7, e7, st7⟩ := getS2 X5 hx hZ hown (host := "") (Or.inl (hw _ (List.mem_of_getElem? (i := 41) rfl))) Via.refl e5 S_STRUCT (g := (mkF m 15 #[.val (.ref a1)] [(.ref a1)])) rfl (hb hby d1_15)
  obtain ⟨fs, hr, hrun, hended, hW, hsame⟩ := X7.leave (v := some (.int (1 : Int32))) (fun h => by rw [Bd.returns] at h; cases h)
  refine ⟨_, _, pre0 _ ?_, hrun, hended, _, _, rfl, ?_, ⟨_, rfl⟩, hW, hsame.mono (by decide) (by decide)⟩
  · show Steps p.tables e below (s₁.setTop (mkF m 0 #[.val (.ref a1)] [])) _
    refine XS.aloadN X0.here hx rfl (hb hby d1_0) rfl rfl ?_
    show Steps p.tables e below (s₁.setTop (mkF m 1 #[.val (.ref a1)] [(.ref a1)])) _
    refine st3 _ ?_
    show Steps p.tables e below (T3.setTop (mkF m 4 #[.val (.ref a1)] [(.ref w2), (.ref a1)])) _
    refine Jvm.RoadKit.acmp (g := (mkF m 4 #[.val (.ref a1)] [(.ref w2), (.ref a1)])) X3 hx rfl rfl rfl (pc0 := 4) (pc' := 7) (same := false) rfl (hb hby d1_4) rfl (decide_eq_false fun q => ha4 (Value.ref.inj q)) (by decide) (by decide) ?_
    show Steps p.tables e below (T3.setTop (mkF m 7 #[.val (.ref a1)] [])) _
    refine XS.aloadN X3.here hx rfl (hb hby d1_7) rfl rfl ?_
    show Steps p.tables e below (T3.setTop (mkF m 8 #[.val (.ref a1)] [(.ref a1)])) _
    refine st5 _ ?_
    show Steps p.tables e below (T5.setTop (mkF m 11 #[.val (.ref a1)] [(.ref w4), (.ref a1)])) _
    refine Jvm.RoadKit.acmp (g := (mkF m 11 #[.val (.ref a1)] [(.ref w4), (.ref a1)])) X5 hx rfl rfl rfl (pc0 := 11) (pc' := 14) (same := false) rfl (hb hby d1_11) rfl (decide_eq_false fun q => ha11 (Value.ref.inj q)) (by decide) (by decide) ?_
    show Steps p.tables e below (T5.setTop (mkF m 14 #[.val (.ref a1)] [])) _
    refine XS.aloadN X5.here hx rfl (hb hby d1_14) rfl rfl ?_
    show Steps p.tables e below (T5.setTop (mkF m 15 #[.val (.ref a1)] [(.ref a1)])) _
    refine st7 _ ?_
    show Steps p.tables e below (T7.setTop (mkF m 18 #[.val (.ref a1)] [(.ref w6), (.ref a1)])) _
    refine Jvm.RoadKit.acmp (g := (mkF m 18 #[.val (.ref a1)] [(.ref w6), (.ref a1)])) X7 hx rfl rfl rfl (pc0 := 18) (pc' := 35) (same := true) rfl (hb hby d1_18) rfl (decide_eq_true (congrArg Value.ref ha18)) (by decide) (by decide) ?_
    show Steps p.tables e below (T7.setTop (mkF m 35 #[.val (.ref a1)] [])) _
    refine XS.iconst X7.here hx rfl (hb hby d1_35) ?_
    show Steps p.tables e below (T7.setTop (mkF m 36 #[.val (.ref a1)] [(.int (1 : Int32))])) _
    refine XS.goto X7.here hx rfl (pc0 := 36) (pc' := 40) rfl (hb hby d1_36) (by decide) (by decide) ?_
    show Steps p.tables e below (T7.setTop (mkF m 40 #[.val (.ref a1)] [(.int (1 : Int32))])) _
    exact retN X7 hx (t := .boolean) Bd.returns (by simp) (hb hby d1_40) hr
  · show Q1_2 Z a1 w2 w4 w6 h0 n0 _ T7.heap _
    rw [e7]
    exact ⟨rfl, N0, rfl⟩
theorem d1_21 : decode prog_70_method_8_code 21 = .ok (.aload_n 0, 1) := by decide +kernel
theorem d1_22 : decode prog_70_method_8_code 22 = .ok (.getstatic 13, 3) := by decide +kernel
theorem d1_25 : decode prog_70_method_8_code 25 = .ok (.if_acmp .eq 10, 3) := by decide +kernel
def Q1_3 (Z : State) (a1 : Addr) (w2 : Addr) (w4 : Addr) (w6 : Addr) (w8 : Addr) (h0 : Heap) (n0 : Nat) (v : Option Value) (h : Heap) (L : List Loc) : Prop := v = some (.int (1 : Int32)) ∧ Fr n0 L ∧ h = h0
set_option maxRecDepth 65536 in
set_option maxHeartbeats 40000000 in
theorem rm1_3 (l : Launch) (Z : State) (a0 : Array Value) (hw : ∀ d ∈ tables_1, d.before a0 Z = true) (ws : List Jvm.Cond) (a1 : Addr) (w2 : Addr) (w4 : Addr) (w6 : Addr) (w8 : Addr) (h0 : Heap) (n0 : Nat) (Z0 : n0 ≤ h0.size) (S_MODULE : Sta Z h0 "com/example/isogloss/isogloss/languages/idl/Symbol$Kind" "MODULE" "Lcom/example/isogloss/isogloss/languages/idl/Symbol$Kind;" (.ref w2)) (S_INTERFACE : Sta Z h0 "com/example/isogloss/isogloss/languages/idl/Symbol$Kind" "INTERFACE" "Lcom/example/isogloss/isogloss/languages/idl/Symbol$Kind;" (.ref w4)) (S_STRUCT : Sta Z h0 "com/example/isogloss/isogloss/languages/idl/Symbol$Kind" "STRUCT" "Lcom/example/isogloss/isogloss/languages/idl/Symbol$Kind;" (.ref w6)) (S_UNION : Sta Z h0 "com/example/isogloss/isogloss/languages/idl/Symbol$Kind" "UNION" "Lcom/example/isogloss/isogloss/languages/idl/Symbol$Kind;" (.ref w8)) (ha4 : ¬ (a1 = w2)) (ha11 : ¬ (a1 = w4)) (ha18 : ¬ (a1 = w6)) (ha25 : a1 = w8) :
    MetFree l (⟨"com/example/isogloss/isogloss/languages/idl/Symbol$Kind", "guardsItsName", "()Z"⟩ : MethodName) (head1 (Jvm.Cond.code (⟨"com/example/isogloss/isogloss/languages/idl/Symbol$Kind", "guardsItsName", "()Z"⟩ : MethodName) prog_70_method_8_code 1 (some .boolean) :: ws) ({ frames := 0, cells := 0, slots := 0, locals := 0 } : Room)) (fun a U => a = #[(.ref a1)] ∧ Z.Warmed39 U.vm ∧ U.heap = h0) (fun _ _ _ _ _ => True) (fun _ U o U' => ∃ v L, o = .returned v ∧ Q1_3 Z a1 w2 w4 w6 w8 h0 n0 v U'.heap L ∧ FrameEnd U o U' L ({ frames := 0, cells := 0, slots := 0, locals := 0 } : Room).cells ({ frames := 0, cells := 0, slots := 0, locals := 0 } : Room).slots) := by
  refine MetFree.of_bodySF (plainFor_of_name pn_1) hisR ?_
  intro p e s m args below meth c s₁ Bd hml0 hP hK
  obtain ⟨rfl, hZ, hh⟩ := hP
  have hx := Bd.exec
  have hby := Bd.bytes
  have hml : c.maxLocals = 1 := hml0
  have hown : s.vm.findClass "com/example/isogloss/isogloss/languages/idl/Symbol$Kind" = some m.cls := findClass_of_methodNamed Bd.named
  have hnm := (name_of_methodNamed Bd.named Bd.method).1
  have X0 : Stand p l e ({ frames := 0, cells := 0, slots := 0, locals := 0 } : Room) s m #[(.ref a1)] below meth c s₁ [] 0 0 := Stand.of_body Bd
  have e0 : s₁.heap = h0 := by rw [← hh, Bd.state]; rfl
  have N0 := Fr.nil n0
  have pre0 : ∀ t, Steps p.tables e below (s₁.setTop (mkF m 0 #[.val (.ref a1)] [])) t → Steps p.tables e below (s₁.setTop (entryFrame m #[(.ref a1)] 1)) t := fun t k => castTop (ef_1 m a1) k
  obtain ⟨T3, X3, e3, st3⟩ := getS2 X0 hx hZ hown (host := "") (Or.inl (hw _ (List.mem_of_getElem? (i := 39) rfl))) Via.refl e0 S_MODULE (g := (mkF m 1 #[.val (.ref a1)] [(.ref a1)])) rfl (hb hby d1_1)
  obtain ⟨T5, X5, e5, st5⟩ := getS2 X3 hx hZ hown (host := "") (Or.inl (hw _ (List.mem_of_getElem? (i := 40) rfl))) Via.refl e3 S_INTERFACE (g := (mkF m 8 #[.val (.ref a1)] [(.ref a1)])) rfl (hb hby d1_8)
  obtain ⟨T7, X7, e7, st7⟩ := getS2 X5 hx hZ hown (host := "") (Or.inl (hw _ (List.mem_of_getElem? (i := 41) rfl))) Via.refl e5 S_STRUCT (g := (mkF m 15 #[.val (.ref a1)] [(.ref a1)])) rfl (hb hby d1_15)
  obtain ⟨T9, X9, e9, st9⟩ := getS2 X7 hx hZ hown (host := "") (Or.inl (hw _ (List.mem_of_getElem? (i := 42) rfl))) Via.refl e7 S_UNION (g := (mkF m 22 #[.val (.ref a1)] [(.ref a1)])) rfl (hb hby d1_22)
  obtain ⟨fs, hr, hrun, hended, hW, hsame⟩ := X9.leave (v := some (.int (1 : Int32))) (fun h => by rw [Bd.returns] at h; cases h)
  refine ⟨_, _, pre0 _ ?_, hrun, hended, _, _, rfl, ?_, ⟨_, rfl⟩, hW, hsame.mono (by decide) (by decide)⟩
  · show Steps p.tables e below (s₁.setTop (mkF m 0 #[.val (.ref a1)] [])) _
    refine XS.aloadN X0.here hx rfl (hb hby d1_0) rfl rfl ?_
    show Steps p.tables e below (s₁.setTop (mkF m 1 #[.val (.ref a1)] [(.ref a1)])) _
    refine st3 _ ?_
    show Steps p.tables e below (T3.setTop (mkF m 4 #[.val (.ref a1)] [(.ref w2), (.ref a1)])) _
    refine Jvm.RoadKit.acmp (g := (mkF m 4 #[.val (.ref a1)] [(.ref w2), (.ref a1)])) X3 hx rfl rfl rfl (pc0 := 4) (pc' := 7) (same := false) rfl (hb hby d1_4) rfl (decide_eq_false fun q => ha4 (Value.ref.inj q)) (by decide) (by decide) ?_
    show Steps p.tables e below (T3.setTop (mkF m 7 #[.val (.ref a1)] [])) _
    refine XS.aloadN X3.here hx rfl (hb hby d1_7) rfl rfl ?_
    show Steps p.tables e below (T3.setTop (mkF m 8 #[.val (.ref a1)] [(.ref a1)])) _
    refine st5 _ ?_
    show Steps p.tables e below (T5.setTop (mkF m 11 #[.val (.ref a1)] [(.ref w4), (.ref a1)])) _
    refine Jvm.RoadKit.acmp (g := (mkF m 11 #[.val (.ref a1)] [(.ref w4), (.ref a1)])) X5 hx rfl rfl rfl (pc0 := 11) (pc' := 14) (same := false) rfl (hb hby d1_11) rfl (decide_eq_false fun q => ha11 (Value.ref.inj q)) (by decide) (by decide) ?_
    show Steps p.tables e below (T5.setTop (mkF m 14 #[.val (.ref a1)] [])) _
    refine XS.aloadN X5.here hx rfl (hb hby d1_14) rfl rfl ?_
    show Steps p.tables e below (T5.setTop (mkF m 15 #[.val (.ref a1)] [(.ref a1)])) _
    refine st7 _ ?_
    show Steps p.tables e below (T7.setTop (mkF m 18 #[.val (.ref a1)] [(.ref w6), (.ref a1)])) _
    refine Jvm.RoadKit.acmp (g := (mkF m 18 #[.val (.ref a1)] [(.ref w6), (.ref a1)])) X7 hx rfl rfl rfl (pc0 := 18) (pc' := 21) (same := false) rfl (hb hby d1_18) rfl (decide_eq_false fun q => ha18 (Value.ref.inj q)) (by decide) (by decide) ?_
    show Steps p.tables e below (T7.setTop (mkF m 21 #[.val (.ref a1)] [])) _
    refine XS.aloadN X7.here hx rfl (hb hby d1_21) rfl rfl ?_
    show Steps p.tables e below (T7.setTop (mkF m 22 #[.val (.ref a1)] [(.ref a1)])) _
    refine st9 _ ?_
    show Steps p.tables e below (T9.setTop (mkF m 25 #[.val (.ref a1)] [(.ref w8), (.ref a1)])) _
    refine Jvm.RoadKit.acmp (g := (mkF m 25 #[.val (.ref a1)] [(.ref w8), (.ref a1)])) X9 hx rfl rfl rfl (pc0 := 25) (pc' := 35) (same := true) rfl (hb hby d1_25) rfl (decide_eq_true (congrArg Value.ref ha25)) (by decide) (by decide) ?_
    show Steps p.tables e below (T9.setTop (mkF m 35 #[.val (.ref a1)] [])) _
    refine XS.iconst X9.here hx rfl (hb hby d1_35) ?_
    show Steps p.tables e below (T9.setTop (mkF m 36 #[.val (.ref a1)] [(.int (1 : Int32))])) _
    refine XS.goto X9.here hx rfl (pc0 := 36) (pc' := 40) rfl (hb hby d1_36) (by decide) (by decide) ?_
    show Steps p.tables e below (T9.setTop (mkF m 40 #[.val (.ref a1)] [(.int (1 : Int32))])) _
    exact retN X9 hx (t := .boolean) Bd.returns (by simp) (hb hby d1_40) hr
  · show Q1_3 Z a1 w2 w4 w6 w8 h0 n0 _ T9.heap _
    rw [e9]
    exact ⟨rfl, N0, rfl⟩
theorem d1_28 : decode prog_70_method_8_code 28 = .ok (.aload_n 0, 1) := by decide +kernel
theorem d1_29 : decode prog_70_method_8_code 29 = .ok (.getstatic 25, 3) := by decide +kernel
theorem d1_32 : decode prog_70_method_8_code 32 = .ok (.if_acmp .ne 7, 3) := by decide +kernel
def Q1_4 (Z : State) (a1 : Addr) (w2 : Addr) (w4 : Addr) (w6 : Addr) (w8 : Addr) (w10 : Addr) (h0 : Heap) (n0 : Nat) (v : Option Value) (h : Heap) (L : List Loc) : Prop := v = some (.int (1 : Int32)) ∧ Fr n0 L ∧ h = h0
set_option maxRecDepth 65536 in
set_option maxHeartbeats 40000000 in
theorem rm1_4 (l : Launch) (Z : State) (a0 : Array Value) (hw : ∀ d ∈ tables_1, d.before a0 Z = true) (ws : List Jvm.Cond) (a1 : Addr) (w2 : Addr) (w4 : Addr) (w6 : Addr) (w8 : Addr) (w10 : Addr) (h0 : Heap) (n0 : Nat) (Z0 : n0 ≤ h0.size) (S_MODULE : Sta Z h0 "com/example/isogloss/isogloss/languages/idl/Symbol$Kind" "MODULE" "Lcom/example/isogloss/isogloss/languages/idl/Symbol$Kind;" (.ref w2)) (S_INTERFACE : Sta Z h0 "com/example/isogloss/isogloss/languages/idl/Symbol$Kind" "INTERFACE" "Lcom/example/isogloss/isogloss/languages/idl/Symbol$Kind;" (.ref w4)) (S_STRUCT : Sta Z h0 "com/example/isogloss/isogloss/languages/idl/Symbol$Kind" "STRUCT" "Lcom/example/isogloss/isogloss/languages/idl/Symbol$Kind;" (.ref w6)) (S_UNION : Sta Z h0 "com/example/isogloss/isogloss/languages/idl/Symbol$Kind" "UNION" "Lcom/example/isogloss/isogloss/languages/idl/Symbol$Kind;" (.ref w8)) (S_EXCEPTION : Sta Z h0 "com/example/isogloss/isogloss/languages/idl/Symbol$Kind" "EXCEPTION" "Lcom/example/isogloss/isogloss/languages/idl/Symbol$Kind;" (.ref w10)) (ha4 : ¬ (a1 = w2)) (ha11 : ¬ (a1 = w4)) (ha18 : ¬ (a1 = w6)) (ha25 : ¬ (a1 = w8)) (ha32 : a1 = w10) :
    MetFree l (⟨"com/example/isogloss/isogloss/languages/idl/Symbol$Kind", "guardsItsName", "()Z"⟩ : MethodName) (head1 (Jvm.Cond.code (⟨"com/example/isogloss/isogloss/languages/idl/Symbol$Kind", "guardsItsName", "()Z"⟩ : MethodName) prog_70_method_8_code 1 (some .boolean) :: ws) ({ frames := 0, cells := 0, slots := 0, locals := 0 } : Room)) (fun a U => a = #[(.ref a1)] ∧ Z.Warmed39 U.vm ∧ U.heap = h0) (fun _ _ _ _ _ => True) (fun _ U o U' => ∃ v L, o = .returned v ∧ Q1_4 Z a1 w2 w4 w6 w8 w10 h0 n0 v U'.heap L ∧ FrameEnd U o U' L ({ frames := 0, cells := 0, slots := 0, locals := 0 } : Room).cells ({ frames := 0, cells := 0, slots := 0, locals := 0 } : Room).slots) := by
  refine MetFree.of_bodySF (plainFor_of_name pn_1) hisR ?_
  intro p e s m args below meth c s₁ Bd hml0 hP hK
  obtain ⟨rfl, hZ, hh⟩ := hP
  have hx := Bd.exec
  have hby := Bd.bytes
  have hml : c.maxLocals = 1 := hml0
  have hown : s.vm.findClass "com/example/isogloss/isogloss/languages/idl/Symbol$Kind" = some m.cls := findClass_of_methodNamed Bd.named
  have hnm := (name_of_methodNamed Bd.named Bd.method).1
  have X0 : Stand p l e ({ frames := 0, cells := 0, slots := 0, locals := 0 } : Room) s m #[(.ref a1)] below meth c s₁ [] 0 0 := Stand.of_body Bd
  have e0 : s₁.heap = h0 := by rw [← hh, Bd.state]; rfl
  have N0 := Fr.nil n0
  have pre0 : ∀ t, Steps p.tables e below (s₁.setTop (mkF m 0 #[.val (.ref a1)] [])) t → Steps p.tables e below (s₁.setTop (entryFrame m #[(.ref a1)] 1)) t := fun t k => castTop (ef_1 m a1) k
  obtain ⟨T3, X3, e3, st3⟩ := getS2 X0 hx hZ hown (host := "") (Or.inl (hw _ (List.mem_of_getElem? (i := 39) rfl))) Via.refl e0 S_MODULE (g := (mkF m 1 #[.val (.ref a1)] [(.ref a1)])) rfl (hb hby d1_1)
  obtain ⟨T5, X5, e5, st5⟩ := getS2 X3 hx hZ hown (host := "") (Or.inl (hw _ (List.mem_of_getElem? (i := 40) rfl))) Via.refl e3 S_INTERFACE (g := (mkF m 8 #[.val (.ref a1)] [(.ref a1)])) rfl (hb hby d1_8)
  obtain ⟨T7, X7, e7, st7⟩ := getS2 X5 hx hZ hown (host := "") (Or.inl (hw _ (List.mem_of_getElem? (i := 41) rfl))) Via.refl e5 S_STRUCT (g := (mkF m 15 #[.val (.ref a1)] [(.ref a1)])) rfl (hb hby d1_15)
  obtain ⟨T9, X9, e9, st9⟩ := getS2 X7 hx hZ hown (host := "") (Or.inl (hw _ (List.mem_of_getElem? (i := 42) rfl))) Via.refl e7 S_UNION (g := (mkF m 22 #[.val (.ref a1)] [(.ref a1)])) rfl (hb hby d1_22)
  obtain ⟨T11, X11, e11, st11⟩ := getS2 X9 hx hZ hown (host := "") (Or.inl (hw _ (List.mem_of_getElem? (i := 43) rfl))) Via.refl e9 S_EXCEPTION (g := (mkF m 29 #[.val (.ref a1)] [(.ref a1)])) rfl (hb hby d1_29)
  obtain ⟨fs, hr, hrun, hended, hW, hsame⟩ := X11.leave (v := some (.int (1 : Int32))) (fun h => by rw [Bd.returns] at h; cases h)
  refine ⟨_, _, pre0 _ ?_, hrun, hended, _, _, rfl, ?_, ⟨_, rfl⟩, hW, hsame.mono (by decide) (by decide)⟩
  · show Steps p.tables e below (s₁.setTop (mkF m 0 #[.val (.ref a1)] [])) _
    refine XS.aloadN X0.here hx rfl (hb hby d1_0) rfl rfl ?_
    show Steps p.tables e below (s₁.setTop (mkF m 1 #[.val (.ref a1)] [(.ref a1)])) _
    refine st3 _ ?_
    show Steps p.tables e below (T3.setTop (mkF m 4 #[.val (.ref a1)] [(.ref w2), (.ref a1)])) _
    refine Jvm.RoadKit.acmp (g := (mkF m 4 #[.val (.ref a1)] [(.ref w2), (.ref a1)])) X3 hx rfl rfl rfl (pc0 := 4) (pc' := 7) (same := false) rfl (hb hby d1_4) rfl (decide_eq_false fun q => ha4 (Value.ref.inj q)) (by decide) (by decide) ?_
    show Steps p.tables e below (T3.setTop (mkF m 7 #[.val (.ref a1)] [])) _
    refine XS.aloadN X3.here hx rfl (hb hby d1_7) rfl rfl ?_
    show Steps p.tables e below (T3.setTop (mkF m 8 #[.val (.ref a1)] [(.ref a1)])) _
    refine st5 _ ?_
    show Steps p.tables e below (T5.setTop (mkF m 11 #[.val (.ref a1)] [(.ref w4), (.ref a1)])) _
    refine Jvm.RoadKit.acmp (g := (mkF m 11 #[.val (.ref a1)] [(.ref w4), (.ref a1)])) X5 hx rfl rfl rfl (pc0 := 11) (pc' := 14) (same := false) rfl (hb hby d1_11) rfl (decide_eq_false fun q => ha11 (Value.ref.inj q)) (by decide) (by decide) ?_
    show Steps p.tables e below (T5.setTop (mkF m 14 #[.val (.ref a1)] [])) _
    refine XS.aloadN X5.here hx rfl (hb hby d1_14) rfl rfl ?_
    show Steps p.tables e below (T5.setTop (mkF m 15 #[.val (.ref a1)] [(.ref a1)])) _
    refine st7 _ ?_
    show Steps p.tables e below (T7.setTop (mkF m 18 #[.val (.ref a1)] [(.ref w6), (.ref a1)])) _
    refine Jvm.RoadKit.acmp (g := (mkF m 18 #[.val (.ref a1)] [(.ref w6), (.ref a1)])) X7 hx rfl rfl rfl (pc0 := 18) (pc' := 21) (same := false) rfl (hb hby d1_18) rfl (decide_eq_false fun q => ha18 (Value.ref.inj q)) (by decide) (by decide) ?_
    show Steps p.tables e below (T7.setTop (mkF m 21 #[.val (.ref a1)] [])) _
    refine XS.aloadN X7.here hx rfl (hb hby d1_21) rfl rfl ?_
    show Steps p.tables e below (T7.setTop (mkF m 22 #[.val (.ref a1)] [(.ref a1)])) _
    refine st9 _ ?_
    show Steps p.tables e below (T9.setTop (mkF m 25 #[.val (.ref a1)] [(.ref w8), (.ref a1)])) _
    refine Jvm.RoadKit.acmp (g := (mkF m 25 #[.val (.ref a1)] [(.ref w8), (.ref a1)])) X9 hx rfl rfl rfl (pc0 := 25) (pc' := 28) (same := false) rfl (hb hby d1_25) rfl (decide_eq_false fun q => ha25 (Value.ref.inj q)) (by decide) (by decide) ?_
    show Steps p.tables e below (T9.setTop (mkF m 28 #[.val (.ref a1)] [])) _
    refine XS.aloadN X9.here hx rfl (hb hby d1_28) rfl rfl ?_
    show Steps p.tables e below (T9.setTop (mkF m 29 #[.val (.ref a1)] [(.ref a1)])) _
    refine st11 _ ?_
    show Steps p.tables e below (T11.setTop (mkF m 32 #[.val (.ref a1)] [(.ref w10), (.ref a1)])) _
    refine Jvm.RoadKit.acmp (g := (mkF m 32 #[.val (.ref a1)] [(.ref w10), (.ref a1)])) X11 hx rfl rfl rfl (pc0 := 32) (pc' := 35) (same := true) rfl (hb hby d1_32) rfl (decide_eq_true (congrArg Value.ref ha32)) (by decide) (by decide) ?_
    show Steps p.tables e below (T11.setTop (mkF m 35 #[.val (.ref a1)] [])) _
    refine XS.iconst X11.here hx rfl (hb hby d1_35) ?_
    show Steps p.tables e below (T11.setTop (mkF m 36 #[.val (.ref a1)] [(.int (1 : Int32))])) _
    refine XS.goto X11.here hx rfl (pc0 := 36) (pc' := 40) rfl (hb hby d1_36) (by decide) (by decide) ?_
    show Steps p.tables e below (T11.setTop (mkF m 40 #[.val (.ref a1)] [(.int (1 : Int32))])) _
    exact retN X11 hx (t := .boolean) Bd.returns (by simp) (hb hby d1_40) hr
  · show Q1_4 Z a1 w2 w4 w6 w8 w10 h0 n0 _ T11.heap _
    rw [e11]
    exact ⟨rfl, N0, rfl⟩
theorem d1_39 : decode prog_70_method_8_code 39 = .ok (.iconst 0, 1) := by decide +kernel
def Q1_n (Z : State) (a1 : Addr) (w2 : Addr) (w4 : Addr) (w6 : Addr) (w8 : Addr) (w10 : Addr) (h0 : Heap) (n0 : Nat) (v : Option Value) (h : Heap) (L : List Loc) : Prop := v = some (.int (0 : Int32)) ∧ Fr n0 L ∧ h = h0
set_option maxRecDepth 65536 in
set_option maxHeartbeats 40000000 in
theorem rm1_n (l : Launch) (Z : State) (a0 : Array Value) (hw : ∀ d ∈ tables_1, d.before a0 Z = true) (ws : List Jvm.Cond) (a1 : Addr) (w2 : Addr) (w4 : Addr) (w6 : Addr) (w8 : Addr) (w10 : Addr) (h0 : Heap) (n0 : Nat) (Z0 : n0 ≤ h0.size) (S_MODULE : Sta Z h0 "com/example/isogloss/isogloss/languages/idl/Symbol$Kind" "MODULE" "Lcom/example/isogloss/isogloss/languages/idl/Symbol$Kind;" (.ref w2)) (S_INTERFACE : Sta Z h0 "com/example/isogloss/isogloss/languages/idl/Symbol$Kind" "INTERFACE" "Lcom/example/isogloss/isogloss/languages/idl/Symbol$Kind;" (.ref w4)) (S_STRUCT : Sta Z h0 "com/example/isogloss/isogloss/languages/idl/Symbol$Kind" "STRUCT" "Lcom/example/isogloss/isogloss/languages/idl/Symbol$Kind;" (.ref w6)) (S_UNION : Sta Z h0 "com/example/isogloss/isogloss/languages/idl/Symbol$Kind" "UNION" "Lcom/example/isogloss/isogloss/languages/idl/Symbol$Kind;" (.ref w8)) (S_EXCEPTION : Sta Z h0 "com/example/isogloss/isogloss/languages/idl/Symbol$Kind" "EXCEPTION" "Lcom/example/isogloss/isogloss/languages/idl/Symbol$Kind;" (.ref w10)) (ha4 : ¬ (a1 = w2)) (ha11 : ¬ (a1 = w4)) (ha18 : ¬ (a1 = w6)) (ha25 : ¬ (a1 = w8)) (ha32 : ¬ (a1 = w10)) :
    MetFree l (⟨"com/example/isogloss/isogloss/languages/idl/Symbol$Kind", "guardsItsName", "()Z"⟩ : MethodName) (head1 (Jvm.Cond.code (⟨"com/example/isogloss/isogloss/languages/idl/Symbol$Kind", "guardsItsName", "()Z"⟩ : MethodName) prog_70_method_8_code 1 (some .boolean) :: ws) ({ frames := 0, cells := 0, slots := 0, locals := 0 } : Room)) (fun a U => a = #[(.ref a1)] ∧ Z.Warmed39 U.vm ∧ U.heap = h0) (fun _ _ _ _ _ => True) (fun _ U o U' => ∃ v L, o = .returned v ∧ Q1_n Z a1 w2 w4 w6 w8 w10 h0 n0 v U'.heap L ∧ FrameEnd U o U' L ({ frames := 0, cells := 0, slots := 0, locals := 0 } : Room).cells ({ frames := 0, cells := 0, slots := 0, locals := 0 } : Room).slots) := by
  refine MetFree.of_bodySF (plainFor_of_name pn_1) hisR ?_
  intro p e s m args below meth c s₁ Bd hml0 hP hK
  obtain ⟨rfl, hZ, hh⟩ := hP
  have hx := Bd.exec
  have hby := Bd.bytes
  have hml : c.maxLocals = 1 := hml0
  have hown : s.vm.findClass "com/example/isogloss/isogloss/languages/idl/Symbol$Kind" = some m.cls := findClass_of_methodNamed Bd.named
  have hnm := (name_of_methodNamed Bd.named Bd.method).1
  have X0 : Stand p l e ({ frames := 0, cells := 0, slots := 0, locals := 0 } : Room) s m #[(.ref a1)] below meth c s₁ [] 0 0 := Stand.of_body Bd
  have e0 : s₁.heap = h0 := by rw [← hh, Bd.state]; rfl
  have N0 := Fr.nil n0
  have pre0 : ∀ t, Steps p.tables e below (s₁.setTop (mkF m 0 #[.val (.ref a1)] [])) t → Steps p.tables e below (s₁.setTop (entryFrame m #[(.ref a1)] 1)) t := fun t k => castTop (ef_1 m a1) k
  obtain ⟨T3, X3, e3, st3⟩ := getS2 X0 hx hZ hown (host := "") (Or.inl (hw _ (List.mem_of_getElem? (i := 39) rfl))) Via.refl e0 S_MODULE (g := (mkF m 1 #[.val (.ref a1)] [(.ref a1)])) rfl (hb hby d1_1)
  obtain ⟨T5, X5, e5, st5⟩ := getS2 X3 hx hZ hown (host := "") (Or.inl (hw _ (List.mem_of_getElem? (i := 40) rfl))) Via.refl e3 S_INTERFACE (g := (mkF m 8 #[.val (.ref a1)] [(.ref a1)])) rfl (hb hby d1_8)
  obtain ⟨T7, X7, e7, st7⟩ := getS2 X5 hx hZ hown (host := "") (Or.inl (hw _ (List.mem_of_getElem? (i := 41) rfl))) Via.refl e5 S_STRUCT (g := (mkF m 15 #[.val (.ref a1)] [(.ref a1)])) rfl (hb hby d1_15)
  obtain ⟨T9, X9, e9, st9⟩ := getS2 X7 hx hZ hown (host := "") (Or.inl (hw _ (List.mem_of_getElem? (i := 42) rfl))) Via.refl e7 S_UNION (g := (mkF m 22 #[.val (.ref a1)] [(.ref a1)])) rfl (hb hby d1_22)
  obtain ⟨T11, X11, e11, st11⟩ := getS2 X9 hx hZ hown (host := "") (Or.inl (hw _ (List.mem_of_getElem? (i := 43) rfl))) Via.refl e9 S_EXCEPTION (g := (mkF m 29 #[.val (.ref a1)] [(.ref a1)])) rfl (hb hby d1_29)
  obtain ⟨fs, hr, hrun, hended, hW, hsame⟩ := X11.leave (v := some (.int (0 : Int32))) (fun h => by rw [Bd.returns] at h; cases h)
  refine ⟨_, _, pre0 _ ?_, hrun, hended, _, _, rfl, ?_, ⟨_, rfl⟩, hW, hsame.mono (by decide) (by decide)⟩
  · show Steps p.tables e below (s₁.setTop (mkF m 0 #[.val (.ref a1)] [])) _
    refine XS.aloadN X0.here hx rfl (hb hby d1_0) rfl rfl ?_
    show Steps p.tables e below (s₁.setTop (mkF m 1 #[.val (.ref a1)] [(.ref a1)])) _
    refine st3 _ ?_
    show Steps p.tables e below (T3.setTop (mkF m 4 #[.val (.ref a1)] [(.ref w2), (.ref a1)])) _
    refine Jvm.RoadKit.acmp (g := (mkF m 4 #[.val (.ref a1)] [(.ref w2), (.ref a1)])) X3 hx rfl rfl rfl (pc0 := 4) (pc' := 7) (same := false) rfl (hb hby d1_4) rfl (decide_eq_false fun q => ha4 (Value.ref.inj q)) (by decide) (by decide) ?_
    show Steps p.tables e below (T3.setTop (mkF m 7 #[.val (.ref a1)] [])) _
    refine XS.aloadN X3.here hx rfl (hb hby d1_7) rfl rfl ?_
    show Steps p.tables e below (T3.setTop (mkF m 8 #[.val (.ref a1)] [(.ref a1)])) _
    refine st5 _ ?_
    show Steps p.tables e below (T5.setTop (mkF m 11 #[.val (.ref a1)] [(.ref w4), (.ref a1)])) _
    refine Jvm.RoadKit.acmp (g := (mkF m 11 #[.val (.ref a1)] [(.ref w4), (.ref a1)])) X5 hx rfl rfl rfl (pc0 := 11) (pc' := 14) (same := false) rfl (hb hby d1_11) rfl (decide_eq_false fun q => ha11 (Value.ref.inj q)) (by decide) (by decide) ?_
    show Steps p.tables e below (T5.setTop (mkF m 14 #[.val (.ref a1)] [])) _
    refine XS.aloadN X5.here hx rfl (hb hby d1_14) rfl rfl ?_
    show Steps p.tables e below (T5.setTop (mkF m 15 #[.val (.ref a1)] [(.ref a1)])) _
    refine st7 _ ?_
    show Steps p.tables e below (T7.setTop (mkF m 18 #[.val (.ref a1)] [(.ref w6), (.ref a1)])) _
    refine Jvm.RoadKit.acmp (g := (mkF m 18 #[.val (.ref a1)] [(.ref w6), (.ref a1)])) X7 hx rfl rfl rfl (pc0 := 18) (pc' := 21) (same := false) rfl (hb hby d1_18) rfl (decide_eq_false fun q => ha18 (Value.ref.inj q)) (by decide) (by decide) ?_
    show Steps p.tables e below (T7.setTop (mkF m 21 #[.val (.ref a1)] [])) _
    refine XS.aloadN X7.here hx rfl (hb hby d1_21) rfl rfl ?_
    show Steps p.tables e below (T7.setTop (mkF m 22 #[.val (.ref a1)] [(.ref a1)])) _
    refine st9 _ ?_
    show Steps p.tables e below (T9.setTop (mkF m 25 #[.val (.ref a1)] [(.ref w8), (.ref a1)])) _
    refine Jvm.RoadKit.acmp (g := (mkF m 25 #[.val (.ref a1)] [(.ref w8), (.ref a1)])) X9 hx rfl rfl rfl (pc0 := 25) (pc' := 28) (same := false) rfl (hb hby d1_25) rfl (decide_eq_false fun q => ha25 (Value.ref.inj q)) (by decide) (by decide) ?_
    show Steps p.tables e below (T9.setTop (mkF m 28 #[.val (.ref a1)] [])) _
    refine XS.aloadN X9.here hx rfl (hb hby d1_28) rfl rfl ?_
    show Steps p.tables e below (T9.setTop (mkF m 29 #[.val (.ref a1)] [(.ref a1)])) _
    refine st11 _ ?_
    show Steps p.tables e below (T11.setTop (mkF m 32 #[.val (.ref a1)] [(.ref w10), (.ref a1)])) _
    refine Jvm.RoadKit.acmp (g := (mkF m 32 #[.val (.ref a1)] [(.ref w10), (.ref a1)])) X11 hx rfl rfl rfl (pc0 := 32) (pc' := 39) (same := false) rfl (hb hby d1_32) rfl (decide_eq_false fun q => ha32 (Value.ref.inj q)) (by decide) (by decide) ?_
    show Steps p.tables e below (T11.setTop (mkF m 39 #[.val (.ref a1)] [])) _
    refine XS.iconst X11.here hx rfl (hb hby d1_39) ?_
    show Steps p.tables e below (T11.setTop (mkF m 40 #[.val (.ref a1)] [(.int (0 : Int32))])) _
    exact retN X11 hx (t := .boolean) Bd.returns (by simp) (hb hby d1_40) hr
  · show Q1_n Z a1 w2 w4 w6 w8 w10 h0 n0 _ T11.heap _
    rw [e11]
    exact ⟨rfl, N0, rfl⟩
def Q1 (r : Int32) (h0 : Heap) (n0 : Nat) (v : Option Value) (h : Heap) (L : List Loc) : Prop := v = some (.int r) ∧ Fr n0 L ∧ h = h0
def Hits (a : Addr) (ws : List Addr) (r : Int32) : Prop := (a ∈ ws ∧ r = 1) ∨ (a ∉ ws ∧ r = 0)
theorem rm1 (l : Launch) (Z : State) (a0 : Array Value) (hw : ∀ d ∈ tables_1, d.before a0 Z = true) (ws : List Jvm.Cond) (a1 : Addr) (r : Int32) (v_MODULE v_INTERFACE v_STRUCT v_UNION v_EXCEPTION : Addr) (h0 : Heap) (n0 : Nat) (Z0 : n0 ≤ h0.size) (S_MODULE : Sta Z h0 "com/example/isogloss/isogloss/languages/idl/Symbol$Kind" "MODULE" "Lcom/example/isogloss/isogloss/languages/idl/Symbol$Kind;" (.ref v_MODULE)) (S_INTERFACE : Sta Z h0 "com/example/isogloss/isogloss/languages/idl/Symbol$Kind" "INTERFACE" "Lcom/example/isogloss/isogloss/languages/idl/Symbol$Kind;" (.ref v_INTERFACE)) (S_STRUCT : Sta Z h0 "com/example/isogloss/isogloss/languages/idl/Symbol$Kind" "STRUCT" "Lcom/example/isogloss/isogloss/languages/idl/Symbol$Kind;" (.ref v_STRUCT)) (S_UNION : Sta Z h0 "com/example/isogloss/isogloss/languages/idl/Symbol$Kind" "UNION" "Lcom/example/isogloss/isogloss/languages/idl/Symbol$Kind;" (.ref v_UNION)) (S_EXCEPTION : Sta Z h0 "com/example/isogloss/isogloss/languages/idl/Symbol$Kind" "EXCEPTION" "Lcom/example/isogloss/isogloss/languages/idl/Symbol$Kind;" (.ref v_EXCEPTION)) (hr : Hits a1 [v_MODULE, v_INTERFACE, v_STRUCT, v_UNION, v_EXCEPTION] r) :
    MetFree l (⟨"com/example/isogloss/isogloss/languages/idl/Symbol$Kind", "guardsItsName", "()Z"⟩ : MethodName) (head1 (Jvm.Cond.code (⟨"com/example/isogloss/isogloss/languages/idl/Symbol$Kind", "guardsItsName", "()Z"⟩ : MethodName) prog_70_method_8_code 1 (some .boolean) :: ws) ({ frames := 0, cells := 0, slots := 0, locals := 0 } : Room)) (fun a U => a = #[(.ref a1)] ∧ Z.Warmed39 U.vm ∧ U.heap = h0) (fun _ _ _ _ _ => True) (fun _ U o U' => ∃ v L, o = .returned v ∧ Q1 r h0 n0 v U'.heap L ∧ FrameEnd U o U' L ({ frames := 0, cells := 0, slots := 0, locals := 0 } : Room).cells ({ frames := 0, cells := 0, slots := 0, locals := 0 } : Room).slots) := by
  rcases hr with ⟨h, rfl⟩ | ⟨h, rfl⟩
  · simp only [List.mem_cons, List.not_mem_nil, or_false] at h
    by_cases c0 : a1 = v_MODULE
    · exact rm1_0 l Z a0 hw ws a1 v_MODULE h0 n0 Z0 S_MODULE c0
    by_cases c1 : a1 = v_INTERFACE
    · exact rm1_1 l Z a0 hw ws a1 v_MODULE v_INTERFACE h0 n0 Z0 S_MODULE S_INTERFACE c0 c1
    by_cases c2 : a1 = v_STRUCT
    · exact rm1_2 l Z a0 hw ws a1 v_MODULE v_INTERFACE v_STRUCT h0 n0 Z0 S_MODULE S_INTERFACE S_STRUCT c0 c1 c2
    by_cases c3 : a1 = v_UNION
    · exact rm1_3 l Z a0 hw ws a1 v_MODULE v_INTERFACE v_STRUCT v_UNION h0 n0 Z0 S_MODULE S_INTERFACE S_STRUCT S_UNION c0 c1 c2 c3
    have c4 : a1 = v_EXCEPTION := by simpa [c0, c1, c2, c3] using h
    exact rm1_4 l Z a0 hw ws a1 v_MODULE v_INTERFACE v_STRUCT v_UNION v_EXCEPTION h0 n0 Z0 S_MODULE S_INTERFACE S_STRUCT S_UNION S_EXCEPTION c0 c1 c2 c3 c4
  · simp only [List.mem_cons, List.not_mem_nil, or_false, not_or] at h
    exact rm1_n l Z a0 hw ws a1 v_MODULE v_INTERFACE v_STRUCT v_UNION v_EXCEPTION h0 n0 Z0 S_MODULE S_INTERFACE S_STRUCT S_UNION S_EXCEPTION h.1 h.2.1 h.2.2.1 h.2.2.2.1 h.2.2.2.2
theorem own_ke {h h' : Heap} (K : Keep h h' []) : Ext h h' := ⟨K.1, fun x c q => K.2.1 x c q nin0⟩
theorem pn_0 : plainName "com/example/isogloss/isogloss/languages/idl/KindGuardsItsNamePinLaw" = true := by first | (simp [plainName, overriddenIn]; done) | decide +kernel
theorem pd_0_0_a : parseMethodDescriptor "()Z" = some ⟨[], some .boolean⟩ := by decide +kernel
theorem ef_0 (m : MethodId) (x0 : Int32) : entryFrame m #[(.int x0)] maxLocals = mkF m 0 #[.val (.int x0), .unset, .unset, .unset] [] := by first | (simp [entryFrame, mkF, argsToLocals, Value.category, maxLocals]; done) | rfl
def Q0_a (Z : State) (p1 : Int32) (w3 : Addr) (w6 : Addr) (w9 : Addr) (w12 : Addr) (w15 : Addr) (w18 : Addr) (w21 : Addr) (w24 : Addr) (w27 : Addr) (w30 : Addr) (w33 : Addr) (w36 : Addr) (w39 : Addr) (w42 : Addr) (w60 : Addr) (r : Int32) (h0 : Heap) (n0 : Nat) (v : Option Value) (h : Heap) (L : List Loc) : Prop := v = some (.int (1 : Int32)) ∧ Fr n0 L
set_option maxRecDepth 65536 in
set_option maxHeartbeats 40000000 in
theorem rm0_a (l : Launch) (Z : State) (a0 : Array Value) (hw : ∀ d ∈ tables_1, d.before a0 Z = true) (ws : List Jvm.Cond) (p1 : Int32) (w3 : Addr) (w6 : Addr) (w9 : Addr) (w12 : Addr) (w15 : Addr) (w18 : Addr) (w21 : Addr) (w24 : Addr) (w27 : Addr) (w30 : Addr) (w33 : Addr) (w36 : Addr) (w39 : Addr) (w42 : Addr) (w60 : Addr) (r : Int32) (h0 : Heap) (n0 : Nat) (Z0 : n0 ≤ h0.size) (E_w3 : Exa Z h0 w3 "com/example/isogloss/isogloss/languages/idl/Symbol$Kind") (E_w6 : Exa Z h0 w6 "com/example/isogloss/isogloss/languages/idl/Symbol$Kind") (E_w9 : Exa Z h0 w9 "com/example/isogloss/isogloss/languages/idl/Symbol$Kind") (E_w12 : Exa Z h0 w12 "com/example/isogloss/isogloss/languages/idl/Symbol$Kind") (E_w15 : Exa Z h0 w15 "com/example/isogloss/isogloss/languages/idl/Symbol$Kind") (E_w18 : Exa Z h0 w18 "com/example/isogloss/isogloss/languages/idl/Symbol$Kind") (E_w21 : Exa Z h0 w21 "com/example/isogloss/isogloss/languages/idl/Symbol$Kind") (E_w24 : Exa Z h0 w24 "com/example/isogloss/isogloss/languages/idl/Symbol$Kind") (E_w27 : Exa Z h0 w27 "com/example/isogloss/isogloss/languages/idl/Symbol$Kind") (E_w30 : Exa Z h0 w30 "com/example/isogloss/isogloss/languages/idl/Symbol$Kind") (E_w33 : Exa Z h0 w33 "com/example/isogloss/isogloss/languages/idl/Symbol$Kind") (E_w36 : Exa Z h0 w36 "com/example/isogloss/isogloss/languages/idl/Symbol$Kind") (E_w39 : Exa Z h0 w39 "com/example/isogloss/isogloss/languages/idl/Symbol$Kind") (E_w42 : Exa Z h0 w42 "com/example/isogloss/isogloss/languages/idl/Symbol$Kind") (Ek : Exa Z h0 w60 "com/example/isogloss/isogloss/languages/idl/Symbol$Kind") (hi0 : ¬ ((p1 &&& (2147483647 : Int32)) % (14 : Int32)) < 0) (hi1 : ((p1 &&& (2147483647 : Int32)) % (14 : Int32)) < 14) (hkind : [(.ref w3 : Value), (.ref w6 : Value), (.ref w9 : Value), (.ref w12 : Value), (.ref w15 : Value), (.ref w18 : Value), (.ref w21 : Value), (.ref w24 : Value), (.ref w27 : Value), (.ref w30 : Value), (.ref w33 : Value), (.ref w36 : Value), (.ref w39 : Value), (.ref w42 : Value)].getD (((p1 &&& (2147483647 : Int32)) % (14 : Int32))).toNatClampNeg .null = .ref w60) (hr : Hits w60 [w3, w6, w9, w12, w24] r) (hgd : [(.int (nar .boolean (1 : Int32)) : Value), (.int (nar .boolean (1 : Int32)) : Value), (.int (nar .boolean (1 : Int32)) : Value), (.int (nar .boolean (1 : Int32)) : Value), (.int (nar .boolean (0 : Int32)) : Value), (.int (nar .boolean (0 : Int32)) : Value), (.int (nar .boolean (0 : Int32)) : Value), (.int (nar .boolean (1 : Int32)) : Value), (.int (nar .boolean (0 : Int32)) : Value), (.int (nar .boolean (0 : Int32)) : Value), (.int (nar .boolean (0 : Int32)) : Value), (.int (nar .boolean (0 : Int32)) : Value), (.int (nar .boolean (0 : Int32)) : Value), (.int (nar .boolean (0 : Int32)) : Value)].getD (((p1 &&& (2147483647 : Int32)) % (14 : Int32))).toNatClampNeg (.int 0) = .int r) (S_MODULE : Sta Z h0 "com/example/isogloss/isogloss/languages/idl/Symbol$Kind" "MODULE" "Lcom/example/isogloss/isogloss/languages/idl/Symbol$Kind;" (.ref w3)) (S_INTERFACE : Sta Z h0 "com/example/isogloss/isogloss/languages/idl/Symbol$Kind" "INTERFACE" "Lcom/example/isogloss/isogloss/languages/idl/Symbol$Kind;" (.ref w6)) (S_STRUCT : Sta Z h0 "com/example/isogloss/isogloss/languages/idl/Symbol$Kind" "STRUCT" "Lcom/example/isogloss/isogloss/languages/idl/Symbol$Kind;" (.ref w9)) (S_UNION : Sta Z h0 "com/example/isogloss/isogloss/languages/idl/Symbol$Kind" "UNION" "Lcom/example/isogloss/isogloss/languages/idl/Symbol$Kind;" (.ref w12)) (S_ENUM : Sta Z h0 "com/example/isogloss/isogloss/languages/idl/Symbol$Kind" "ENUM" "Lcom/example/isogloss/isogloss/languages/idl/Symbol$Kind;" (.ref w15)) (S_TYPEDEF : Sta Z h0 "com/example/isogloss/isogloss/languages/idl/Symbol$Kind" "TYPEDEF" "Lcom/example/isogloss/isogloss/languages/idl/Symbol$Kind;" (.ref w18)) (S_NATIVE : Sta Z h0 "com/example/isogloss/isogloss/languages/idl/Symbol$Kind" "NATIVE" "Lcom/example/isogloss/isogloss/languages/idl/Symbol$Kind;" (.ref w21)) (S_EXCEPTION : Sta Z h0 "com/example/isogloss/isogloss/languages/idl/Symbol$Kind" "EXCEPTION" "Lcom/example/isogloss/isogloss/languages/idl/Symbol$Kind;" (.ref w24)) (S_CONSTANT : Sta Z h0 "com/example/isogloss/isogloss/languages/idl/Symbol$Kind" "CONSTANT" "Lcom/example/isogloss/isogloss/languages/idl/Symbol$Kind;" (.ref w27)) (S_ENUMERATOR : Sta Z h0 "com/example/isogloss/isogloss/languages/idl/Symbol$Kind" "ENUMERATOR" "Lcom/example/isogloss/isogloss/languages/idl/Symbol$Kind;" (.ref w30)) (S_OPERATION : Sta Z h0 "com/example/isogloss/isogloss/languages/idl/Symbol$Kind" "OPERATION" "Lcom/example/isogloss/isogloss/languages/idl/Symbol$Kind;" (.ref w33)) (S_ATTRIBUTE : Sta Z h0 "com/example/isogloss/isogloss/languages/idl/Symbol$Kind" "ATTRIBUTE" "Lcom/example/isogloss/isogloss/languages/idl/Symbol$Kind;" (.ref w36)) (S_PARAMETER : Sta Z h0 "com/example/isogloss/isogloss/languages/idl/Symbol$Kind" "PARAMETER" "Lcom/example/isogloss/isogloss/languages/idl/Symbol$Kind;" (.ref w39)) (S_MEMBER : Sta Z h0 "com/example/isogloss/isogloss/languages/idl/Symbol$Kind" "MEMBER" "Lcom/example/isogloss/isogloss/languages/idl/Symbol$Kind;" (.ref w42)) :
    MetFree l x (head1 (Jvm.Cond.code x code maxLocals ret :: ws) room_1) (fun a U => a = #[(.int p1)] ∧ Z.Warmed39 U.vm ∧ U.heap = h0) (fun _ _ _ _ _ => True) (fun _ U o U' => ∃ v L, o = .returned v ∧ Q0_a Z p1 w3 w6 w9 w12 w15 w18 w21 w24 w27 w30 w33 w36 w39 w42 w60 r h0 n0 v U'.heap L ∧ FrameEnd U o U' L room_1.cells room_1.slots) := by
  refine MetFree.of_bodySF (plainFor_of_name pn_0) hisR ?_
  intro p e s m args below meth c s₁ Bd hml0 hP hK
  obtain ⟨rfl, hZ, hh⟩ := hP
  have hx := Bd.exec
  have hby := Bd.bytes
  have hml : c.maxLocals = 4 := hml0
  have hown : s.vm.findClass "com/example/isogloss/isogloss/languages/idl/KindGuardsItsNamePinLaw" = some m.cls := findClass_of_methodNamed Bd.named
  have hnm := (name_of_methodNamed Bd.named Bd.method).1
  have X0 : Stand p l e room_1 s m #[(.int p1)] below meth c s₁ [] 0 0 := Stand.of_body Bd
  have e0 : s₁.heap = h0 := by rw [← hh, Bd.state]; rfl
  have N0 := Fr.nil n0
  have pre0 : ∀ t, Steps p.tables e below (s₁.setTop (mkF m 0 #[.val (.int p1), .unset, .unset, .unset] [])) t → Steps p.tables e below (s₁.setTop (entryFrame m #[(.int p1)] maxLocals)) t := fun t k => castTop (ef_0 m p1) k
  obtain ⟨T2, h2, k2, X2, e2, E2, A2, O2, st2⟩ := newR X0 hx hZ hown (hw _ (List.mem_of_getElem? (i := 0) rfl)) (hw _ (List.mem_of_getElem? (i := 1) rfl)) e0 (g := (mkF m 2 #[.val (.int p1), .unset, .unset, .unset] [(.int (14 : Int32))])) rfl (hb hby at_2) rfl (by decide) (cap := 14) (by decide) (by decide) (by decide) (by decide)
  obtain ⟨b2, g2⟩ : ∃ z, z = h0.size := ⟨_, rfl⟩      -- the fresh array's address
  rw [← g2] at A2 st2
  have V_2 := (Arv.new A2 (by decide)).pad (pad_rep [] _ 14)
  have g_b2 : n0 ≤ b2 := Nat.le_trans Z0 (Nat.le_of_eq g2.symm)
  have sz_b2 : h0.size ≤ b2 := (Nat.le_trans (Keep.refl h0 []).1 (Nat.le_of_eq g2.symm))
  have K2 : Keep h0 h2 [] := (Keep.refl h0 []).ext E2
  obtain ⟨T4, X4, e4, st4⟩ := getS2 X2 hx hZ hown (host := "") (Or.inl (hw _ (List.mem_of_getElem? (i := 2) rfl))) Via.refl e2 (S_MODULE.ext (own_ke K2)) (g := (mkF m 7 #[.val (.int p1), .unset, .unset, .unset] [(.int (0 : Int32)), (.ref b2), (.ref b2)])) rfl (hb hby at_7)
  obtain ⟨cl_5, Ar_5, q_5, sz_5, z_5, H_5, G_5⟩ := V_2
  have hin10 : ¬ ((0 : Int32) < 0 ∨ cl_5.slots.size ≤ (0 : Int32).toNatClampNeg) := inb_of sz_5 ⟨by decide, by decide⟩
  have Sto10 := Sto.ofV Ar_5 q_5 O2 (Ins.self (E_w3.ext (own_ke K2)))
  obtain ⟨T5, h5, X5, e5, W5, st5⟩ := stR X4 hx hZ e4 Ar_5 (j := (0 : Int32)) hin10 rfl Sto10 (g := (mkF m 10 #[.val (.int p1), .unset, .unset, .unset] [(.ref w3), (.int (0 : Int32)), (.ref b2), (.ref b2)])) rfl rfl (hb hby at_10)
  have V_5 := Arv.set Ar_5 q_5 sz_5 z_5 H_5 G_5 rfl W5 0 rfl (Nat.le_of_ble_eq_true rfl)
  have N5 := Fr.snoc X5 N0 g_b2
  have K5 : Keep h0 h5 [] := K2.wr W5 (Or.inr sz_b2)
  obtain ⟨T7, X7, e7, st7⟩ := getS2 X5 hx hZ hown (host := "") (Or.inl (hw _ (List.mem_of_getElem? (i := 6) rfl))) Via.refl e5 (S_INTERFACE.ext (own_ke K5)) (g := (mkF m 13 #[.val (.int p1), .unset, .unset, .unset] [(.int (1 : Int32)), (.ref b2), (.ref b2)])) rfl (hb hby at_13)
  obtain ⟨cl_8, Ar_8, q_8, sz_8, z_8, H_8, G_8⟩ := V_5
  have hin16 : ¬ ((1 : Int32) < 0 ∨ cl_8.slots.size ≤ (1 : Int32).toNatClampNeg) := inb_of sz_8 ⟨by decide, by decide⟩
  have Sto16 := Sto.ofV Ar_8 q_8 O2 (Ins.self (E_w6.ext (own_ke K5)))
  obtain ⟨T8, h8, X8, e8, W8, st8⟩ := stR X7 hx hZ e7 Ar_8 (j := (1 : Int32)) hin16 rfl Sto16 (g := (mkF m 16 #[.val (.int p1), .unset, .unset, .unset] [(.ref w6), (.int (1 : Int32)), (.ref b2), (.ref b2)])) rfl rfl (hb hby at_16)
  have V_8 := Arv.set Ar_8 q_8 sz_8 z_8 H_8 G_8 rfl W8 1 rfl (Nat.le_of_ble_eq_true rfl)
  have N8 := Fr.snoc X8 N5 g_b2
  have K8 : Keep h0 h8 [] := K5.wr W8 (Or.inr sz_b2)
  obtain ⟨T10, X10, e10, st10⟩ := getS2 X8 hx hZ hown (host := "") (Or.inl (hw _ (List.mem_of_getElem? (i := 8) rfl))) Via.refl e8 (S_STRUCT.ext (own_ke K8)) (g := (mkF m 19 #[.val (.int p1), .unset, .unset, .unset] [(.int (2 : Int32)), (.ref b2), (.ref b2)])) rfl (hb hby at_19)
  obtain ⟨cl_11, Ar_11, q_11, sz_11, z_11, H_11, G_11⟩ := V_8
  have hin22 : ¬ ((2 : Int32) < 0 ∨ cl_11.slots.size ≤ (2 : Int32).toNatClampNeg) := inb_of sz_11 ⟨by decide, by decide⟩
  have Sto22 := Sto.ofV Ar_11 q_11 O2 (Ins.self (E_w9.ext (own_ke K8)))
  obtain ⟨T11, h11, X11, e11, W11, st11⟩ := stR X10 hx hZ e10 Ar_11 (j := (2 : Int32)) hin22 rfl Sto22 (g := (mkF m 22 #[.val (.int p1), .unset, .unset, .unset] [(.ref w9), (.int (2 : Int32)), (.ref b2), (.ref b2)])) rfl rfl (hb hby at_22)
  have V_11 := Arv.set Ar_11 q_11 sz_11 z_11 H_11 G_11 rfl W11 2 rfl (Nat.le_of_ble_eq_true rfl)
  have N11 := Fr.snoc X11 N8 g_b2
  have K11 : Keep h0 h11 [] := K8.wr W11 (Or.inr sz_b2)
  obtain ⟨T13, X13, e13, st13⟩ := getS2 X11 hx hZ hown (host := "") (Or.inl (hw _ (List.mem_of_getElem? (i := 10) rfl))) Via.refl e11 (S_UNION.ext (own_ke K11)) (g := (mkF m 25 #[.val (.int p1), .unset, .unset, .unset] [(.int (3 : Int32)), (.ref b2), (.ref b2)])) rfl (hb hby at_25)
  obtain ⟨cl_14, Ar_14, q_14, sz_14, z_14, H_14, G_14⟩ := V_11
  have hin28 : ¬ ((3 : Int32) < 0 ∨ cl_14.slots.size ≤ (3 : Int32).toNatClampNeg) := inb_of sz_14 ⟨by decide, by decide⟩
  have Sto28 := Sto.ofV Ar_14 q_14 O2 (Ins.self (E_w12.ext (own_ke K11)))
  obtain ⟨T14, h14, X14, e14, W14, st14⟩ := stR X13 hx hZ e13 Ar_14 (j := (3 : Int32)) hin28 rfl Sto28 (g := (mkF m 28 #[.val (.int p1), .unset, .unset, .unset] [(.ref w12), (.int (3 : Int32)), (.ref b2), (.ref b2)])) rfl rfl (hb hby at_28)
  have V_14 := Arv.set Ar_14 q_14 sz_14 z_14 H_14 G_14 rfl W14 3 rfl (Nat.le_of_ble_eq_true rfl)
  have N14 := Fr.snoc X14 N11 g_b2
  have K14 : Keep h0 h14 [] := K11.wr W14 (Or.inr sz_b2)
  obtain ⟨T16, X16, e16, st16⟩ := getS2 X14 hx hZ hown (host := "") (Or.inl (hw _ (List.mem_of_getElem? (i := 12) rfl))) Via.refl e14 (S_ENUM.ext (own_ke K14)) (g := (mkF m 31 #[.val (.int p1), .unset, .unset, .unset] [(.int (4 : Int32)), (.ref b2), (.ref b2)])) rfl (hb hby at_31)
  obtain ⟨cl_17, Ar_17, q_17, sz_17, z_17, H_17, G_17⟩ := V_14
  have hin34 : ¬ ((4 : Int32) < 0 ∨ cl_17.slots.size ≤ (4 : Int32).toNatClampNeg) := inb_of sz_17 ⟨by decide, by decide⟩
  have Sto34 := Sto.ofV Ar_17 q_17 O2 (Ins.self (E_w15.ext (own_ke K14)))
  obtain ⟨T17, h17, X17, e17, W17, st17⟩ := stR X16 hx hZ e16 Ar_17 (j := (4 : Int32)) hin34 rfl Sto34 (g := (mkF m 34 #[.val (.int p1), .unset, .unset, .unset] [(.ref w15), (.int (4 : Int32)), (.ref b2), (.ref b2)])) rfl rfl (hb hby at_34)
  have V_17 := Arv.set Ar_17 q_17 sz_17 z_17 H_17 G_17 rfl W17 4 rfl (Nat.le_of_ble_eq_true rfl)
  have N17 := Fr.snoc X17 N14 g_b2
  have K17 : Keep h0 h17 [] := K14.wr W17 (Or.inr sz_b2)
  obtain ⟨T19, X19, e19, st19⟩ := getS2 X17 hx hZ hown (host := "") (Or.inl (hw _ (List.mem_of_getElem? (i := 14) rfl))) Via.refl e17 (S_TYPEDEF.ext (own_ke K17)) (g := (mkF m 37 #[.val (.int p1), .unset, .unset, .unset] [(.int (5 : Int32)), (.ref b2), (.ref b2)])) rfl (hb hby at_37)
  obtain ⟨cl_20, Ar_20, q_20, sz_20, z_20, H_20, G_20⟩ := V_17
  have hin40 : ¬ ((5 : Int32) < 0 ∨ cl_20.slots.size ≤ (5 : Int32).toNatClampNeg) := inb_of sz_20 ⟨by decide, by decide⟩
  have Sto40 := Sto.ofV Ar_20 q_20 O2 (Ins.self (E_w18.ext (own_ke K17)))
  obtain ⟨T20, h20, X20, e20, W20, st20⟩ := stR X19 hx hZ e19 Ar_20 (j := (5 : Int32)) hin40 rfl Sto40 (g := (mkF m 40 #[.val (.int p1), .unset, .unset, .unset] [(.ref w18), (.int (5 : Int32)), (.ref b2), (.ref b2)])) rfl rfl (hb hby at_40)
  have V_20 := Arv.set Ar_20 q_20 sz_20 z_20 H_20 G_20 rfl W20 5 rfl (Nat.le_of_ble_eq_true rfl)
  have N20 := Fr.snoc X20 N17 g_b2
  have K20 : Keep h0 h20 [] := K17.wr W20 (Or.inr sz_b2)
  obtain ⟨T22, X22, e22, st22⟩ := getS2 X20 hx hZ hown (host := "") (Or.inl (hw _ (List.mem_of_getElem? (i := 16) rfl))) Via.refl e20 (S_NATIVE.ext (own_ke K20)) (g := (mkF m 44 #[.val (.int p1), .unset, .unset, .unset] [(.int (6 : Int32)), (.ref b2), (.ref b2)])) rfl (hb hby at_44)
  obtain ⟨cl_23, Ar_23, q_23, sz_23, z_23, H_23, G_23⟩ := V_20
  have hin47 : ¬ ((6 : Int32) < 0 ∨ cl_23.slots.size ≤ (6 : Int32).toNatClampNeg) := inb_of sz_23 ⟨by decide, by decide⟩
  have Sto47 := Sto.ofV Ar_23 q_23 O2 (Ins.self (E_w21.ext (own_ke K20)))
  obtain ⟨T23, h23, X23, e23, W23, st23⟩ := stR X22 hx hZ e22 Ar_23 (j := (6 : Int32)) hin47 rfl Sto47 (g := (mkF m 47 #[.val (.int p1), .unset, .unset, .unset] [(.ref w21), (.int (6 : Int32)), (.ref b2), (.ref b2)])) rfl rfl (hb hby at_47)
  have V_23 := Arv.set Ar_23 q_23 sz_23 z_23 H_23 G_23 rfl W23 6 rfl (Nat.le_of_ble_eq_true rfl)
  have N23 := Fr.snoc X23 N20 g_b2
  have K23 : Keep h0 h23 [] := K20.wr W23 (Or.inr sz_b2)
  obtain ⟨T25, X25, e25, st25⟩ := getS2 X23 hx hZ hown (host := "") (Or.inl (hw _ (List.mem_of_getElem? (i := 18) rfl))) Via.refl e23 (S_EXCEPTION.ext (own_ke K23)) (g := (mkF m 51 #[.val (.int p1), .unset, .unset, .unset] [(.int (7 : Int32)), (.ref b2), (.ref b2)])) rfl (hb hby at_51)
  obtain ⟨cl_26, Ar_26, q_26, sz_26, z_26, H_26, G_26⟩ := V_23
  have hin54 : ¬ ((7 : Int32) < 0 ∨ cl_26.slots.size ≤ (7 : Int32).toNatClampNeg) := inb_of sz_26 ⟨by decide, by decide⟩
  have Sto54 := Sto.ofV Ar_26 q_26 O2 (Ins.self (E_w24.ext (own_ke K23)))
  obtain ⟨T26, h26, X26, e26, W26, st26⟩ := stR X25 hx hZ e25 Ar_26 (j := (7 : Int32)) hin54 rfl Sto54 (g := (mkF m 54 #[.val (.int p1), .unset, .unset, .unset] [(.ref w24), (.int (7 : Int32)), (.ref b2), (.ref b2)])) rfl rfl (hb hby at_54)
  have V_26 := Arv.set Ar_26 q_26 sz_26 z_26 H_26 G_26 rfl W26 7 rfl (Nat.le_of_ble_eq_true rfl)
  have N26 := Fr.snoc X26 N23 g_b2
  have K26 : Keep h0 h26 [] := K23.wr W26 (Or.inr sz_b2)
  obtain ⟨T28, X28, e28, st28⟩ := getS2 X26 hx hZ hown (host := "") (Or.inl (hw _ (List.mem_of_getElem? (i := 20) rfl))) Via.refl e26 (S_CONSTANT.ext (own_ke K26)) (g := (mkF m 58 #[.val (.int p1), .unset, .unset, .unset] [(.int (8 : Int32)), (.ref b2), (.ref b2)])) rfl (hb hby at_58)
  obtain ⟨cl_29, Ar_29, q_29, sz_29, z_29, H_29, G_29⟩ := V_26
  have hin61 : ¬ ((8 : Int32) < 0 ∨ cl_29.slots.size ≤ (8 : Int32).toNatClampNeg) := inb_of sz_29 ⟨by decide, by decide⟩
  have Sto61 := Sto.ofV Ar_29 q_29 O2 (Ins.self (E_w27.ext (own_ke K26)))
  obtain ⟨T29, h29, X29, e29, W29, st29⟩ := stR X28 hx hZ e28 Ar_29 (j := (8 : Int32)) hin61 rfl Sto61 (g := (mkF m 61 #[.val (.int p1), .unset, .unset, .unset] [(.ref w27), (.int (8 : Int32)), (.ref b2), (.ref b2)])) rfl rfl (hb hby at_61)
  have V_29 := Arv.set Ar_29 q_29 sz_29 z_29 H_29 G_29 rfl W29 8 rfl (Nat.le_of_ble_eq_true rfl)
  have N29 := Fr.snoc X29 N26 g_b2
  have K29 : Keep h0 h29 [] := K26.wr W29 (Or.inr sz_b2)
  obtain ⟨T31, X31, e31, st31⟩ := getS2 X29 hx hZ hown (host := "") (Or.inl (hw _ (List.mem_of_getElem? (i := 22) rfl))) Via.refl e29 (S_ENUMERATOR.ext (own_ke K29)) (g := (mkF m 65 #[.val (.int p1), .unset, .unset, .unset] [(.int (9 : Int32)), (.ref b2), (.ref b2)])) rfl (hb hby at_65)
  obtain ⟨cl_32, Ar_32, q_32, sz_32, z_32, H_32, G_32⟩ := V_29
  have hin68 : ¬ ((9 : Int32) < 0 ∨ cl_32.slots.size ≤ (9 : Int32).toNatClampNeg) := inb_of sz_32 ⟨by decide, by decide⟩
  have Sto68 := Sto.ofV Ar_32 q_32 O2 (Ins.self (E_w30.ext (own_ke K29)))
  obtain ⟨T32, h32, X32, e32, W32, st32⟩ := stR X31 hx hZ e31 Ar_32 (j := (9 : Int32)) hin68 rfl Sto68 (g := (mkF m 68 #[.val (.int p1), .unset, .unset, .unset] [(.ref w30), (.int (9 : Int32)), (.ref b2), (.ref b2)])) rfl rfl (hb hby at_68)
  have V_32 := Arv.set Ar_32 q_32 sz_32 z_32 H_32 G_32 rfl W32 9 rfl (Nat.le_of_ble_eq_true rfl)
  have N32 := Fr.snoc X32 N29 g_b2
  have K32 : Keep h0 h32 [] := K29.wr W32 (Or.inr sz_b2)
  obtain ⟨T34, X34, e34, st34⟩ := getS2 X32 hx hZ hown (host := "") (Or.inl (hw _ (List.mem_of_getElem? (i := 24) rfl))) Via.refl e32 (S_OPERATION.ext (own_ke K32)) (g := (mkF m 72 #[.val (.int p1), .unset, .unset, .unset] [(.int (10 : Int32)), (.ref b2), (.ref b2)])) rfl (hb hby at_72)
  obtain ⟨cl_35, Ar_35, q_35, sz_35, z_35, H_35, G_35⟩ := V_32
  have hin75 : ¬ ((10 : Int32) < 0 ∨ cl_35.slots.size ≤ (10 : Int32).toNatClampNeg) := inb_of sz_35 ⟨by decide, by decide⟩
  have Sto75 := Sto.ofV Ar_35 q_35 O2 (Ins.self (E_w33.ext (own_ke K32)))
  obtain ⟨T35, h35, X35, e35, W35, st35⟩ := stR X34 hx hZ e34 Ar_35 (j := (10 : Int32)) hin75 rfl Sto75 (g := (mkF m 75 #[.val (.int p1), .unset, .unset, .unset] [(.ref w33), (.int (10 : Int32)), (.ref b2), (.ref b2)])) rfl rfl (hb hby at_75)
  have V_35 := Arv.set Ar_35 q_35 sz_35 z_35 H_35 G_35 rfl W35 10 rfl (Nat.le_of_ble_eq_true rfl)
  have N35 := Fr.snoc X35 N32 g_b2
  have K35 : Keep h0 h35 [] := K32.wr W35 (Or.inr sz_b2)
  obtain ⟨T37, X37, e37, st37⟩ := getS2 X35 hx hZ hown (host := "") (Or.inl (hw _ (List.mem_of_getElem? (i := 26) rfl))) Via.refl e35 (S_ATTRIBUTE.ext (own_ke K35)) (g := (mkF m 79 #[.val (.int p1), .unset, .unset, .unset] [(.int (11 : Int32)), (.ref b2), (.ref b2)])) rfl (hb hby at_79)
  obtain ⟨cl_38, Ar_38, q_38, sz_38, z_38, H_38, G_38⟩ := V_35
  have hin82 : ¬ ((11 : Int32) < 0 ∨ cl_38.slots.size ≤ (11 : Int32).toNatClampNeg) := inb_of sz_38 ⟨by decide, by decide⟩
  have Sto82 := Sto.ofV Ar_38 q_38 O2 (Ins.self (E_w36.ext (own_ke K35)))
  obtain ⟨T38, h38, X38, e38, W38, st38⟩ := stR X37 hx hZ e37 Ar_38 (j := (11 : Int32)) hin82 rfl Sto82 (g := (mkF m 82 #[.val (.int p1), .unset, .unset, .unset] [(.ref w36), (.int (11 : Int32)), (.ref b2), (.ref b2)])) rfl rfl (hb hby at_82)
  have V_38 := Arv.set Ar_38 q_38 sz_38 z_38 H_38 G_38 rfl W38 11 rfl (Nat.le_of_ble_eq_true rfl)
  have N38 := Fr.snoc X38 N35 g_b2
  have K38 : Keep h0 h38 [] := K35.wr W38 (Or.inr sz_b2)
  obtain ⟨T40, X40, e40, st40⟩ := getS2 X38 hx hZ hown (host := "") (Or.inl (hw _ (List.mem_of_getElem? (i := 28) rfl))) Via.refl e38 (S_PARAMETER.ext (own_ke K38)) (g := (mkF m 86 #[.val (.int p1), .unset, .unset, .unset] [(.int (12 : Int32)), (.ref b2), (.ref b2)])) rfl (hb hby at_86)
  obtain ⟨cl_41, Ar_41, q_41, sz_41, z_41, H_41, G_41⟩ := V_38
  have hin89 : ¬ ((12 : Int32) < 0 ∨ cl_41.slots.size ≤ (12 : Int32).toNatClampNeg) := inb_of sz_41 ⟨by decide, by decide⟩
  have Sto89 := Sto.ofV Ar_41 q_41 O2 (Ins.self (E_w39.ext (own_ke K38)))
  obtain ⟨T41, h41, X41, e41, W41, st41⟩ := stR X40 hx hZ e40 Ar_41 (j := (12 : Int32)) hin89 rfl Sto89 (g := (mkF m 89 #[.val (.int p1), .unset, .unset, .unset] [(.ref w39), (.int (12 : Int32)), (.ref b2), (.ref b2)])) rfl rfl (hb hby at_89)
  have V_41 := Arv.set Ar_41 q_41 sz_41 z_41 H_41 G_41 rfl W41 12 rfl (Nat.le_of_ble_eq_true rfl)
  have N41 := Fr.snoc X41 N38 g_b2
  have K41 : Keep h0 h41 [] := K38.wr W41 (Or.inr sz_b2)
  obtain ⟨T43, X43, e43, st43⟩ := getS2 X41 hx hZ hown (host := "") (Or.inl (hw _ (List.mem_of_getElem? (i := 30) rfl))) Via.refl e41 (S_MEMBER.ext (own_ke K41)) (g := (mkF m 93 #[.val (.int p1), .unset, .unset, .unset] [(.int (13 : Int32)), (.ref b2), (.ref b2)])) rfl (hb hby at_93)
  obtain ⟨cl_44, Ar_44, q_44, sz_44, z_44, H_44, G_44⟩ := V_41
  have hin96 : ¬ ((13 : Int32) < 0 ∨ cl_44.slots.size ≤ (13 : Int32).toNatClampNeg) := inb_of sz_44 ⟨by decide, by decide⟩
  have Sto96 := Sto.ofV Ar_44 q_44 O2 (Ins.self (E_w42.ext (own_ke K41)))
  obtain ⟨T44, h44, X44, e44, W44, st44⟩ := stR X43 hx hZ e43 Ar_44 (j := (13 : Int32)) hin96 rfl Sto96 (g := (mkF m 96 #[.val (.int p1), .unset, .unset, .unset] [(.ref w42), (.int (13 : Int32)), (.ref b2), (.ref b2)])) rfl rfl (hb hby at_96)
  have V_44 := Arv.set Ar_44 q_44 sz_44 z_44 H_44 G_44 rfl W44 13 rfl (Nat.le_of_ble_eq_true rfl)
  have N44 := Fr.snoc X44 N41 g_b2
  have K44 : Keep h0 h44 [] := K41.wr W44 (Or.inr sz_b2)
  obtain ⟨T45, h45, k45, X45, e45, E45, A45, st45⟩ := newP X44 hx hZ (hw _ (List.mem_of_getElem? (i := 32) rfl)) e44 (g := (mkF m 100 #[.val (.int p1), .val (.ref b2), .unset, .unset] [(.int (14 : Int32))])) rfl (hb hby at_100) rfl (by decide) (cap := 14) (by decide) (by decide) (by decide) (by decide)
  have M45 : Keep h44 h45 [] := (Keep.refl h44 []).ext E45
  obtain ⟨b45, g45⟩ : ∃ z, z = h44.size := ⟨_, rfl⟩      -- the fresh array's address
  rw [← g45] at A45 st45
  have V_b45 : Arv Z h45 b45 k45 .boolean (14 : Int32) [(.int (0 : Int32)), (.int (0 : Int32)), (.int (0 : Int32)), (.int (0 : Int32)), (.int (0 : Int32)), (.int (0 : Int32)), (.int (0 : Int32)), (.int (0 : Int32)), (.int (0 : Int32)), (.int (0 : Int32)), (.int (0 : Int32)), (.int (0 : Int32)), (.int (0 : Int32)), (.int (0 : Int32))] (.int (0 : Int32)) := (Arv.new A45 (by decide)).pad (pad_rep [] (.int (0 : Int32)) 14)
  have g_b45 : n0 ≤ b45 := Nat.le_trans (Nat.le_trans (Nat.le_trans (Nat.le_trans (Nat.le_trans (Nat.le_trans (Nat.le_trans (Nat.le_trans (Nat.le_trans (Nat.le_trans (Nat.le_trans (Nat.le_trans (Nat.le_trans (Nat.le_trans (Nat.le_trans (Nat.le_trans Z0 E2.1) (Keep.of_wr W5).1) (Keep.of_wr W8).1) (Keep.of_wr W11).1) (Keep.of_wr W14).1) (Keep.of_wr W17).1) (Keep.of_wr W20).1) (Keep.of_wr W23).1) (Keep.of_wr W26).1) (Keep.of_wr W29).1) (Keep.of_wr W32).1) (Keep.of_wr W35).1) (Keep.of_wr W38).1) (Keep.of_wr W41).1) (Keep.of_wr W44).1) (Nat.le_of_eq g45.symm)
  have sz_b45 : h0.size ≤ b45 := (Nat.le_trans K44.1 (Nat.le_of_eq g45.symm))
  have sq_b45 : h44.size ≤ b45 := Nat.le_of_eq g45.symm
  have K45 : Keep h0 h45 [] := K44.ext E45
  obtain ⟨cl_b45_105, Ar_b45, q_b45, S_b45, N_b45, H_b45, G_b45⟩ := V_b45      -- open the array's fact as it stands now (its cell, kind, length, elements)
  have hin105 : ¬ ((0 : Int32) < 0 ∨ cl_b45_105.slots.size ≤ ((0 : Int32)).toNatClampNeg) := inb_of S_b45 ⟨by decide, by decide⟩
  obtain ⟨T46, h46, X46, e46, W46, st46⟩ := stZ X45 hx hZ e45 Ar_b45 (j := (0 : Int32)) hin105 (g := (mkF m 105 #[.val (.int p1), .val (.ref b2), .unset, .unset] [(.int (1 : Int32)), (.int (0 : Int32)), (.ref b45), (.ref b45)])) rfl rfl (hb hby at_105)
  have V_b45_46 := Arv.set Ar_b45 q_b45 S_b45 N_b45 H_b45 G_b45 (fits_nar_bool _) W46 0 rfl (Nat.le_of_ble_eq_true rfl)
  have M46 : Keep h44 h46 [] := M45.wr W46 (Or.inr sq_b45)
  have K46 : Keep h0 h46 [] := K45.wr W46 (Or.inr sz_b45)
  have N46 := Fr.snoc X46 N44 g_b45
  obtain ⟨cl_b45_109, Ar_b45, q_b45, S_b45, N_b45, H_b45, G_b45⟩ := V_b45_46      -- open the array's fact as it stands now (its cell, kind, length, elements)
  have hin109 : ¬ ((1 : Int32) < 0 ∨ cl_b45_109.slots.size ≤ ((1 : Int32)).toNatClampNeg) := inb_of S_b45 ⟨by decide, by decide⟩
  obtain ⟨T47, h47, X47, e47, W47, st47⟩ := stZ X46 hx hZ e46 Ar_b45 (j := (1 : Int32)) hin109 (g := (mkF m 109 #[.val (.int p1), .val (.ref b2), .unset, .unset] [(.int (1 : Int32)), (.int (1 : Int32)), (.ref b45), (.ref b45)])) rfl rfl (hb hby at_109)
  have V_b45_47 := Arv.set Ar_b45 q_b45 S_b45 N_b45 H_b45 G_b45 (fits_nar_bool _) W47 1 rfl (Nat.le_of_ble_eq_true rfl)
  have M47 : Keep h44 h47 [] := M46.wr W47 (Or.inr sq_b45)
  have K47 : Keep h0 h47 [] := K46.wr W47 (Or.inr sz_b45)
  have N47 := Fr.snoc X47 N46 g_b45
  obtain ⟨cl_b45_113, Ar_b45, q_b45, S_b45, N_b45, H_b45, G_b45⟩ := V_b45_47      -- open the array's fact as it stands now (its cell, kind, length, elements)
  have hin113 : ¬ ((2 : Int32) < 0 ∨ cl_b45_113.slots.size ≤ ((2 : Int32)).toNatClampNeg) := inb_of S_b45 ⟨by decide, by decide⟩
  obtain ⟨T48, h48, X48, e48, W48, st48⟩ := stZ X47 hx hZ e47 Ar_b45 (j := (2 : Int32)) hin113 (g := (mkF m 113 #[.val (.int p1), .val (.ref b2), .unset, .unset] [(.int (1 : Int32)), (.int (2 : Int32)), (.ref b45), (.ref b45)])) rfl rfl (hb hby at_113)
  have V_b45_48 := Arv.set Ar_b45 q_b45 S_b45 N_b45 H_b45 G_b45 (fits_nar_bool _) W48 2 rfl (Nat.le_of_ble_eq_true rfl)
  have M48 : Keep h44 h48 [] := M47.wr W48 (Or.inr sq_b45)
  have K48 : Keep h0 h48 [] := K47.wr W48 (Or.inr sz_b45)
  have N48 := Fr.snoc X48 N47 g_b45
  obtain ⟨cl_b45_117, Ar_b45, q_b45, S_b45, N_b45, H_b45, G_b45⟩ := V_b45_48      -- open the array's fact as it stands now (its cell, kind, length, elements)
  have hin117 : ¬ ((3 : Int32) < 0 ∨ cl_b45_117.slots.size ≤ ((3 : Int32)).toNatClampNeg) := inb_of S_b45 ⟨by decide, by decide⟩
  obtain ⟨T49, h49, X49, e49, W49, st49⟩ := stZ X48 hx hZ e48 Ar_b45 (j := (3 : Int32)) hin117 (g := (mkF m 117 #[.val (.int p1), .val (.ref b2), .unset, .unset] [(.int (1 : Int32)), (.int (3 : Int32)), (.ref b45), (.ref b45)])) rfl rfl (hb hby at_117)
  have V_b45_49 := Arv.set Ar_b45 q_b45 S_b45 N_b45 H_b45 G_b45 (fits_nar_bool _) W49 3 rfl (Nat.le_of_ble_eq_true rfl)
  have M49 : Keep h44 h49 [] := M48.wr W49 (Or.inr sq_b45)
  have K49 : Keep h0 h49 [] := K48.wr W49 (Or.inr sz_b45)
  have N49 := Fr.snoc X49 N48 g_b45
  obtain ⟨cl_b45_121, Ar_b45, q_b45, S_b45, N_b45, H_b45, G_b45⟩ := V_b45_49      -- open the array's fact as it stands now (its cell, kind, length, elements)
  have hin121 : ¬ ((4 : Int32) < 0 ∨ cl_b45_121.slots.size ≤ ((4 : Int32)).toNatClampNeg) := inb_of S_b45 ⟨by decide, by decide⟩
  obtain ⟨T50, h50, X50, e50, W50, st50⟩ := stZ X49 hx hZ e49 Ar_b45 (j := (4 : Int32)) hin121 (g := (mkF m 121 #[.val (.int p1), .val (.ref b2), .unset, .unset] [(.int (0 : Int32)), (.int (4 : Int32)), (.ref b45), (.ref b45)])) rfl rfl (hb hby at_121)
  have V_b45_50 := Arv.set Ar_b45 q_b45 S_b45 N_b45 H_b45 G_b45 (fits_nar_bool _) W50 4 rfl (Nat.le_of_ble_eq_true rfl)
  have M50 : Keep h44 h50 [] := M49.wr W50 (Or.inr sq_b45)
  have K50 : Keep h0 h50 [] := K49.wr W50 (Or.inr sz_b45)
  have N50 := Fr.snoc X50 N49 g_b45
  obtain ⟨cl_b45_125, Ar_b45, q_b45, S_b45, N_b45, H_b45, G_b45⟩ := V_b45_50      -- open the array's fact as it stands now (its cell, kind, length, elements)
  have hin125 : ¬ ((5 : Int32) < 0 ∨ cl_b45_125.slots.size ≤ ((5 : Int32)).toNatClampNeg) := inb_of S_b45 ⟨by decide, by decide⟩
  obtain ⟨T51, h51, X51, e51, W51, st51⟩ := stZ X50 hx hZ e50 Ar_b45 (j := (5 : Int32)) hin125 (g := (mkF m 125 #[.val (.int p1), .val (.ref b2), .unset, .unset] [(.int (0 : Int32)), (.int (5 : Int32)), (.ref b45), (.ref b45)])) rfl rfl (hb hby at_125)
  have V_b45_51 := Arv.set Ar_b45 q_b45 S_b45 N_b45 H_b45 G_b45 (fits_nar_bool _) W51 5 rfl (Nat.le_of_ble_eq_true rfl)
  have M51 : Keep h44 h51 [] := M50.wr W51 (Or.inr sq_b45)
  have K51 : Keep h0 h51 [] := K50.wr W51 (Or.inr sz_b45)
  have N51 := Fr.snoc X51 N50 g_b45
  obtain ⟨cl_b45_130, Ar_b45, q_b45, S_b45, N_b45, H_b45, G_b45⟩ := V_b45_51      -- open the array's fact as it stands now (its cell, kind, length, elements)
  have hin130 : ¬ ((6 : Int32) < 0 ∨ cl_b45_130.slots.size ≤ ((6 : Int32)).toNatClampNeg) := inb_of S_b45 ⟨by decide, by decide⟩
  obtain ⟨T52, h52, X52, e52, W52, st52⟩ := stZ X51 hx hZ e51 Ar_b45 (j := (6 : Int32)) hin130 (g := (mkF m 130 #[.val (.int p1), .val (.ref b2), .unset, .unset] [(.int (0 : Int32)), (.int (6 : Int32)), (.ref b45), (.ref b45)])) rfl rfl (hb hby at_130)
  have V_b45_52 := Arv.set Ar_b45 q_b45 S_b45 N_b45 H_b45 G_b45 (fits_nar_bool _) W52 6 rfl (Nat.le_of_ble_eq_true rfl)
  have M52 : Keep h44 h52 [] := M51.wr W52 (Or.inr sq_b45)
  have K52 : Keep h0 h52 [] := K51.wr W52 (Or.inr sz_b45)
  have N52 := Fr.snoc X52 N51 g_b45
  obtain ⟨cl_b45_135, Ar_b45, q_b45, S_b45, N_b45, H_b45, G_b45⟩ := V_b45_52      -- open the array's fact as it stands now (its cell, kind, length, elements)
  have hin135 : ¬ ((7 : Int32) < 0 ∨ cl_b45_135.slots.size ≤ ((7 : Int32)).toNatClampNeg) := inb_of S_b45 ⟨by decide, by decide⟩
  obtain ⟨T53, h53, X53, e53, W53, st53⟩ := stZ X52 hx hZ e52 Ar_b45 (j := (7 : Int32)) hin135 (g := (mkF m 135 #[.val (.int p1), .val (.ref b2), .unset, .unset] [(.int (1 : Int32)), (.int (7 : Int32)), (.ref b45), (.ref b45)])) rfl rfl (hb hby at_135)
  have V_b45_53 := Arv.set Ar_b45 q_b45 S_b45 N_b45 H_b45 G_b45 (fits_nar_bool _) W53 7 rfl (Nat.le_of_ble_eq_true rfl)
  have M53 : Keep h44 h53 [] := M52.wr W53 (Or.inr sq_b45)
  have K53 : Keep h0 h53 [] := K52.wr W53 (Or.inr sz_b45)
  have N53 := Fr.snoc X53 N52 g_b45
  obtain ⟨cl_b45_140, Ar_b45, q_b45, S_b45, N_b45, H_b45, G_b45⟩ := V_b45_53      -- open the array's fact as it stands now (its cell, kind, length, elements)
  have hin140 : ¬ ((8 : Int32) < 0 ∨ cl_b45_140.slots.size ≤ ((8 : Int32)).toNatClampNeg) := inb_of S_b45 ⟨by decide, by decide⟩
  obtain ⟨T54, h54, X54, e54, W54, st54⟩ := stZ X53 hx hZ e53 Ar_b45 (j := (8 : Int32)) hin140 (g := (mkF m 140 #[.val (.int p1), .val (.ref b2), .unset, .unset] [(.int (0 : Int32)), (.int (8 : Int32)), (.ref b45), (.ref b45)])) rfl rfl (hb hby at_140)
  have V_b45_54 := Arv.set Ar_b45 q_b45 S_b45 N_b45 H_b45 G_b45 (fits_nar_bool _) W54 8 rfl (Nat.le_of_ble_eq_true rfl)
  have M54 : Keep h44 h54 [] := M53.wr W54 (Or.inr sq_b45)
  have K54 : Keep h0 h54 [] := K53.wr W54 (Or.inr sz_b45)
  have N54 := Fr.snoc X54 N53 g_b45
  obtain ⟨cl_b45_145, Ar_b45, q_b45, S_b45, N_b45, H_b45, G_b45⟩ := V_b45_54      -- open the array's fact as it stands now (its cell, kind, length, elements)
  have hin145 : ¬ ((9 : Int32) < 0 ∨ cl_b45_145.slots.size ≤ ((9 : Int32)).toNatClampNeg) := inb_of S_b45 ⟨by decide, by decide⟩
  obtain ⟨T55, h55, X55, e55, W55, st55⟩ := stZ X54 hx hZ e54 Ar_b45 (j := (9 : Int32)) hin145 (g := (mkF m 145 #[.val (.int p1), .val (.ref b2), .unset, .unset] [(.int (0 : Int32)), (.int (9 : Int32)), (.ref b45), (.ref b45)])) rfl rfl (hb hby at_145)
  have V_b45_55 := Arv.set Ar_b45 q_b45 S_b45 N_b45 H_b45 G_b45 (fits_nar_bool _) W55 9 rfl (Nat.le_of_ble_eq_true rfl)
  have M55 : Keep h44 h55 [] := M54.wr W55 (Or.inr sq_b45)
  have K55 : Keep h0 h55 [] := K54.wr W55 (Or.inr sz_b45)
  have N55 := Fr.snoc X55 N54 g_b45
  obtain ⟨cl_b45_150, Ar_b45, q_b45, S_b45, N_b45, H_b45, G_b45⟩ := V_b45_55      -- open the array's fact as it stands now (its cell, kind, length, elements)
  have hin150 : ¬ ((10 : Int32) < 0 ∨ cl_b45_150.slots.size ≤ ((10 : Int32)).toNatClampNeg) := inb_of S_b45 ⟨by decide, by decide⟩
  obtain ⟨T56, h56, X56, e56, W56, st56⟩ := stZ X55 hx hZ e55 Ar_b45 (j := (10 : Int32)) hin150 (g := (mkF m 150 #[.val (.int p1), .val (.ref b2), .unset, .unset] [(.int (0 : Int32)), (.int (10 : Int32)), (.ref b45), (.ref b45)])) rfl rfl (hb hby at_150)
  have V_b45_56 := Arv.set Ar_b45 q_b45 S_b45 N_b45 H_b45 G_b45 (fits_nar_bool _) W56 10 rfl (Nat.le_of_ble_eq_true rfl)
  have M56 : Keep h44 h56 [] := M55.wr W56 (Or.inr sq_b45)
  have K56 : Keep h0 h56 [] := K55.wr W56 (Or.inr sz_b45)
  have N56 := Fr.snoc X56 N55 g_b45
  obtain ⟨cl_b45_155, Ar_b45, q_b45, S_b45, N_b45, H_b45, G_b45⟩ := V_b45_56      -- open the array's fact as it stands now (its cell, kind, length, elements)
  have hin155 : ¬ ((11 : Int32) < 0 ∨ cl_b45_155.slots.size ≤ ((11 : Int32)).toNatClampNeg) := inb_of S_b45 ⟨by decide, by decide⟩
  obtain ⟨T57, h57, X57, e57, W57, st57⟩ := stZ X56 hx hZ e56 Ar_b45 (j := (11 : Int32)) hin155 (g := (mkF m 155 #[.val (.int p1), .val (.ref b2), .unset, .unset] [(.int (0 : Int32)), (.int (11 : Int32)), (.ref b45), (.ref b45)])) rfl rfl (hb hby at_155)
  have V_b45_57 := Arv.set Ar_b45 q_b45 S_b45 N_b45 H_b45 G_b45 (fits_nar_bool _) W57 11 rfl (Nat.le_of_ble_eq_true rfl)
  have M57 : Keep h44 h57 [] := M56.wr W57 (Or.inr sq_b45)
  have K57 : Keep h0 h57 [] := K56.wr W57 (Or.inr sz_b45)
  have N57 := Fr.snoc X57 N56 g_b45
  obtain ⟨cl_b45_160, Ar_b45, q_b45, S_b45, N_b45, H_b45, G_b45⟩ := V_b45_57      -- open the array's fact as it stands now (its cell, kind, length, elements)
  have hin160 : ¬ ((12 : Int32) < 0 ∨ cl_b45_160.slots.size ≤ ((12 : Int32)).toNatClampNeg) := inb_of S_b45 ⟨by decide, by decide⟩
  obtain ⟨T58, h58, X58, e58, W58, st58⟩ := stZ X57 hx hZ e57 Ar_b45 (j := (12 : Int32)) hin160 (g := (mkF m 160 #[.val (.int p1), .val (.ref b2), .unset, .unset] [(.int (0 : Int32)), (.int (12 : Int32)), (.ref b45), (.ref b45)])) rfl rfl (hb hby at_160)
  have V_b45_58 := Arv.set Ar_b45 q_b45 S_b45 N_b45 H_b45 G_b45 (fits_nar_bool _) W58 12 rfl (Nat.le_of_ble_eq_true rfl)
  have M58 : Keep h44 h58 [] := M57.wr W58 (Or.inr sq_b45)
  have K58 : Keep h0 h58 [] := K57.wr W58 (Or.inr sz_b45)
  have N58 := Fr.snoc X58 N57 g_b45
  obtain ⟨cl_b45_165, Ar_b45, q_b45, S_b45, N_b45, H_b45, G_b45⟩ := V_b45_58      -- open the array's fact as it stands now (its cell, kind, length, elements)
  have hin165 : ¬ ((13 : Int32) < 0 ∨ cl_b45_165.slots.size ≤ ((13 : Int32)).toNatClampNeg) := inb_of S_b45 ⟨by decide, by decide⟩
  obtain ⟨T59, h59, X59, e59, W59, st59⟩ := stZ X58 hx hZ e58 Ar_b45 (j := (13 : Int32)) hin165 (g := (mkF m 165 #[.val (.int p1), .val (.ref b2), .unset, .unset] [(.int (0 : Int32)), (.int (13 : Int32)), (.ref b45), (.ref b45)])) rfl rfl (hb hby at_165)
  have V_b45_59 := Arv.set Ar_b45 q_b45 S_b45 N_b45 H_b45 G_b45 (fits_nar_bool _) W59 13 rfl (Nat.le_of_ble_eq_true rfl)
  have M59 : Keep h44 h59 [] := M58.wr W59 (Or.inr sq_b45)
  have K59 : Keep h0 h59 [] := K58.wr W59 (Or.inr sz_b45)
  have N59 := Fr.snoc X59 N58 g_b45
  obtain ⟨cl_r, Ar_b2, q_r, sz_r, z_r, H_r, G_r⟩ := (V_44.keep M59 nin0)
  have hin177 : ¬ (((p1 &&& (2147483647 : Int32)) % (14 : Int32)) < 0 ∨ cl_r.slots.size ≤ ((p1 &&& (2147483647 : Int32)) % (14 : Int32)).toNatClampNeg) := inb_of sz_r ⟨hi0, hi1⟩
  have hat177 : cl_r.slots[((p1 &&& (2147483647 : Int32)) % (14 : Int32)).toNatClampNeg]? = some (.ref w60) := Has.at H_r hin177 hkind
  obtain ⟨cq61, kq61, q61a, q61b, q61c⟩ := isOf hZ e59 (Ek.ext (own_ke K59))
  obtain ⟨_, _, ⟨T61, L61, k61, n61⟩, -, X61, ⟨Lc61, hQ61, l61, y61, z61⟩, st61⟩ := X59.virtualBack hx (y := (⟨"com/example/isogloss/isogloss/languages/idl/Symbol$Kind", "guardsItsName", "()Z"⟩ : MethodName)) (z := (⟨"com/example/isogloss/isogloss/languages/idl/Symbol$Kind", "guardsItsName", "()Z"⟩ : MethodName)) hown (mvT hZ (hw _ (List.mem_of_getElem? (i := 34) rfl))) (mvT hZ (hw _ (List.mem_of_getElem? (i := 35) rfl))) (notFace_of_selects (args := #[]) (mvT hZ (hw _ (List.mem_of_getElem? (i := 37) rfl)))) (mvT hZ (hw _ (List.mem_of_getElem? (i := 37) rfl))) (mvT hZ (hw _ (List.mem_of_getElem? (i := 36) rfl))) (by decide) (backOf (W := 0) (rm1 l Z a0 hw [] w60 r w3 w6 w9 w12 w24 h59 n0 (Nat.le_trans Z0 K59.1) (S_MODULE.ext (own_ke K59)) (S_INTERFACE.ext (own_ke K59)) (S_STRUCT.ext (own_ke K59)) (S_UNION.ext (own_ke K59)) (S_EXCEPTION.ext (own_ke K59)) hr) hZ (hw _ (List.mem_of_getElem? (i := 38) rfl)) (hw _ (List.mem_of_getElem? (i := 3) rfl)) (by decide) (by decide)) q61a q61c (g := (mkF m 178 #[.val (.int p1), .val (.ref b2), .val (.ref b45), .val (.int ((p1 &&& (2147483647 : Int32)) % (14 : Int32)))] [(.ref w60)])) rfl (by rw [hml]; rfl) (Steps.refl _) (argsL := []) (rest := []) (lenOf pd_0_0_a rfl) rfl (by show 2 * 0 + _ ≤ _; exact Nat.le_of_eq rfl) (hb hby at_178) (fun _ _ => ⟨rfl, e59, (by decide : 2 + 0 ≤ _), (by decide : 28 + 0 ≤ _)⟩)
  dsimp only [Pt.U, Pt.locs, Pt.cells, Pt.slots] at X61 l61 y61 z61 st61 hQ61
  subst y61 z61
  obtain ⟨rfl, N61q, eQ⟩ := hQ61      -- what it returned, that it wrote nothing old, and the rest of your Q1
  have N61 : Fr n0 L61 := Eq.mpr (congrArg (Fr n0) l61) (Fr.app N59 N61q)
  obtain ⟨cl_s, Ar_b45, q_s, sz_s, z_s, H_s, G_s⟩ := V_b45_59
  have hin183 : ¬ (((p1 &&& (2147483647 : Int32)) % (14 : Int32)) < 0 ∨ cl_s.slots.size ≤ ((p1 &&& (2147483647 : Int32)) % (14 : Int32)).toNatClampNeg) := inb_of sz_s ⟨hi0, hi1⟩
  have hat183 : cl_s.slots[((p1 &&& (2147483647 : Int32)) % (14 : Int32)).toNatClampNeg]? = some (.int r) := Has.at H_s hin183 hgd
  obtain ⟨fs, hr, hrun, hended, hW, hsame⟩ := X61.leave (v := some (.int (1 : Int32))) (fun h => by rw [Bd.returns] at h; cases h)
  refine ⟨_, _, pre0 _ ?_, hrun, hended, _, _, rfl, ?_, ⟨_, rfl⟩, hW, hsame.mono (by decide) (by decide)⟩
  · show Steps p.tables e below (s₁.setTop (mkF m 0 #[.val (.int p1), .unset, .unset, .unset] [])) _
    refine XS.bipush X0.here hx rfl (hb hby at_0) ?_
    show Steps p.tables e below (s₁.setTop (mkF m 2 #[.val (.int p1), .unset, .unset, .unset] [(.int (14 : Int32))])) _
    refine st2 _ ?_
    show Steps p.tables e below (T2.setTop (mkF m 5 #[.val (.int p1), .unset, .unset, .unset] [(.ref b2)])) _
    refine XS.dup X2.here hx rfl (hb hby at_5) rfl rfl ?_
    show Steps p.tables e below (T2.setTop (mkF m 6 #[.val (.int p1), .unset, .unset, .unset] [(.ref b2), (.ref b2)])) _
    refine XS.iconst X2.here hx rfl (hb hby at_6) ?_
    show Steps p.tables e below (T2.setTop (mkF m 7 #[.val (.int p1), .unset, .unset, .unset] [(.int (0 : Int32)), (.ref b2), (.ref b2)])) _
    refine st4 _ ?_
    show Steps p.tables e below (T4.setTop (mkF m 10 #[.val (.int p1), .unset, .unset, .unset] [(.ref w3), (.int (0 : Int32)), (.ref b2), (.ref b2)])) _
    refine st5 _ ?_
    show Steps p.tables e below (T5.setTop (mkF m 11 #[.val (.int p1), .unset, .unset, .unset] [(.ref b2)])) _
    refine XS.dup X5.here hx rfl (hb hby at_11) rfl rfl ?_
    show Steps p.tables e below (T5.setTop (mkF m 12 #[.val (.int p1), .unset, .unset, .unset] [(.ref b2), (.ref b2)])) _
    refine XS.iconst X5.here hx rfl (hb hby at_12) ?_
    show Steps p.tables e below (T5.setTop (mkF m 13 #[.val (.int p1), .unset, .unset, .unset] [(.int (1 : Int32)), (.ref b2), (.ref b2)])) _
    refine st7 _ ?_
    show Steps p.tables e below (T7.setTop (mkF m 16 #[.val (.int p1), .unset, .unset, .unset] [(.ref w6), (.int (1 : Int32)), (.ref b2), (.ref b2)])) _
    refine st8 _ ?_
    show Steps p.tables e below (T8.setTop (mkF m 17 #[.val (.int p1), .unset, .unset, .unset] [(.ref b2)])) _
    refine XS.dup X8.here hx rfl (hb hby at_17) rfl rfl ?_
    show Steps p.tables e below (T8.setTop (mkF m 18 #[.val (.int p1), .unset, .unset, .unset] [(.ref b2), (.ref b2)])) _
    refine XS.iconst X8.here hx rfl (hb hby at_18) ?_
    show Steps p.tables e below (T8.setTop (mkF m 19 #[.val (.int p1), .unset, .unset, .unset] [(.int (2 : Int32)), (.ref b2), (.ref b2)])) _
    refine st10 _ ?_
    show Steps p.tables e below (T10.setTop (mkF m 22 #[.val (.int p1), .unset, .unset, .unset] [(.ref w9), (.int (2 : Int32)), (.ref b2), (.ref b2)])) _
    refine st11 _ ?_
    show Steps p.tables e below (T11.setTop (mkF m 23 #[.val (.int p1), .unset, .unset, .unset] [(.ref b2)])) _
    refine XS.dup X11.here hx rfl (hb hby at_23) rfl rfl ?_
    show Steps p.tables e below (T11.setTop (mkF m 24 #[.val (.int p1), .unset, .unset, .unset] [(.ref b2), (.ref b2)])) _
    refine XS.iconst X11.here hx rfl (hb hby at_24) ?_
    show Steps p.tables e below (T11.setTop (mkF m 25 #[.val (.int p1), .unset, .unset, .unset] [(.int (3 : Int32)), (.ref b2), (.ref b2)])) _
    refine st13 _ ?_
    show Steps p.tables e below (T13.setTop (mkF m 28 #[.val (.int p1), .unset, .unset, .unset] [(.ref w12), (.int (3 : Int32)), (.ref b2), (.ref b2)])) _
    refine st14 _ ?_
    show Steps p.tables e below (T14.setTop (mkF m 29 #[.val (.int p1), .unset, .unset, .unset] [(.ref b2)])) _
    refine XS.dup X14.here hx rfl (hb hby at_29) rfl rfl ?_
    show Steps p.tables e below (T14.setTop (mkF m 30 #[.val (.int p1), .unset, .unset, .unset] [(.ref b2), (.ref b2)])) _
    refine XS.iconst X14.here hx rfl (hb hby at_30) ?_
    show Steps p.tables e below (T14.setTop (mkF m 31 #[.val (.int p1), .unset, .unset, .unset] [(.int (4 : Int32)), (.ref b2), (.ref b2)])) _
    refine st16 _ ?_
    show Steps p.tables e below (T16.setTop (mkF m 34 #[.val (.int p1), .unset, .unset, .unset] [(.ref w15), (.int (4 : Int32)), (.ref b2), (.ref b2)])) _
    refine st17 _ ?_
    show Steps p.tables e below (T17.setTop (mkF m 35 #[.val (.int p1), .unset, .unset, .unset] [(.ref b2)])) _
    refine XS.dup X17.here hx rfl (hb hby at_35) rfl rfl ?_
    show Steps p.tables e below (T17.setTop (mkF m 36 #[.val (.int p1), .unset, .unset, .unset] [(.ref b2), (.ref b2)])) _
    refine XS.iconst X17.here hx rfl (hb hby at_36) ?_
    show Steps p.tables e below (T17.setTop (mkF m 37 #[.val (.int p1), .unset, .unset, .unset] [(.int (5 : Int32)), (.ref b2), (.ref b2)])) _
    refine st19 _ ?_
    show Steps p.tables e below (T19.setTop (mkF m 40 #[.val (.int p1), .unset, .unset, .unset] [(.ref w18), (.int (5 : Int32)), (.ref b2), (.ref b2)])) _
    refine st20 _ ?_
    show Steps p.tables e below (T20.setTop (mkF m 41 #[.val (.int p1), .unset, .unset, .unset] [(.ref b2)])) _
    refine XS.dup X20.here hx rfl (hb hby at_41) rfl rfl ?_
    show Steps p.tables e below (T20.setTop (mkF m 42 #[.val (.int p1), .unset, .unset, .unset] [(.ref b2), (.ref b2)])) _
    refine XS.bipush X20.here hx rfl (hb hby at_42) ?_
    show Steps p.tables e below (T20.setTop (mkF m 44 #[.val (.int p1), .unset, .unset, .unset] [(.int (6 : Int32)), (.ref b2), (.ref b2)])) _
    refine st22 _ ?_
    show Steps p.tables e below (T22.setTop (mkF m 47 #[.val (.int p1), .unset, .unset, .unset] [(.ref w21), (.int (6 : Int32)), (.ref b2), (.ref b2)])) _
    refine st23 _ ?_
    show Steps p.tables e below (T23.setTop (mkF m 48 #[.val (.int p1), .unset, .unset, .unset] [(.ref b2)])) _
    refine XS.dup X23.here hx rfl (hb hby at_48) rfl rfl ?_
    show Steps p.tables e below (T23.setTop (mkF m 49 #[.val (.int p1), .unset, .unset, .unset] [(.ref b2), (.ref b2)])) _
    refine XS.bipush X23.here hx rfl (hb hby at_49) ?_
    show Steps p.tables e below (T23.setTop (mkF m 51 #[.val (.int p1), .unset, .unset, .unset] [(.int (7 : Int32)), (.ref b2), (.ref b2)])) _
    refine st25 _ ?_
    show Steps p.tables e below (T25.setTop (mkF m 54 #[.val (.int p1), .unset, .unset, .unset] [(.ref w24), (.int (7 : Int32)), (.ref b2), (.ref b2)])) _
    refine st26 _ ?_
    show Steps p.tables e below (T26.setTop (mkF m 55 #[.val (.int p1), .unset, .unset, .unset] [(.ref b2)])) _
    refine XS.dup X26.here hx rfl (hb hby at_55) rfl rfl ?_
    show Steps p.tables e below (T26.setTop (mkF m 56 #[.val (.int p1), .unset, .unset, .unset] [(.ref b2), (.ref b2)])) _
    refine XS.bipush X26.here hx rfl (hb hby at_56) ?_
    show Steps p.tables e below (T26.setTop (mkF m 58 #[.val (.int p1), .unset, .unset, .unset] [(.int (8 : Int32)), (.ref b2), (.ref b2)])) _
    refine st28 _ ?_
    show Steps p.tables e below (T28.setTop (mkF m 61 #[.val (.int p1), .unset, .unset, .unset] [(.ref w27), (.int (8 : Int32)), (.ref b2), (.ref b2)])) _
    refine st29 _ ?_
    show Steps p.tables e below (T29.setTop (mkF m 62 #[.val (.int p1), .unset, .unset, .unset] [(.ref b2)])) _
    refine XS.dup X29.here hx rfl (hb hby at_62) rfl rfl ?_
    show Steps p.tables e below (T29.setTop (mkF m 63 #[.val (.int p1), .unset, .unset, .unset] [(.ref b2), (.ref b2)])) _
    refine XS.bipush X29.here hx rfl (hb hby at_63) ?_
    show Steps p.tables e below (T29.setTop (mkF m 65 #[.val (.int p1), .unset, .unset, .unset] [(.int (9 : Int32)), (.ref b2), (.ref b2)])) _
    refine st31 _ ?_
    show Steps p.tables e below (T31.setTop (mkF m 68 #[.val (.int p1), .unset, .unset, .unset] [(.ref w30), (.int (9 : Int32)), (.ref b2), (.ref b2)])) _
    refine st32 _ ?_
    show Steps p.tables e below (T32.setTop (mkF m 69 #[.val (.int p1), .unset, .unset, .unset] [(.ref b2)])) _
    refine XS.dup X32.here hx rfl (hb hby at_69) rfl rfl ?_
    show Steps p.tables e below (T32.setTop (mkF m 70 #[.val (.int p1), .unset, .unset, .unset] [(.ref b2), (.ref b2)])) _
    refine XS.bipush X32.here hx rfl (hb hby at_70) ?_
    show Steps p.tables e below (T32.setTop (mkF m 72 #[.val (.int p1), .unset, .unset, .unset] [(.int (10 : Int32)), (.ref b2), (.ref b2)])) _
    refine st34 _ ?_
    show Steps p.tables e below (T34.setTop (mkF m 75 #[.val (.int p1), .unset, .unset, .unset] [(.ref w33), (.int (10 : Int32)), (.ref b2), (.ref b2)])) _
    refine st35 _ ?_
    show Steps p.tables e below (T35.setTop (mkF m 76 #[.val (.int p1), .unset, .unset, .unset] [(.ref b2)])) _
    refine XS.dup X35.here hx rfl (hb hby at_76) rfl rfl ?_
    show Steps p.tables e below (T35.setTop (mkF m 77 #[.val (.int p1), .unset, .unset, .unset] [(.ref b2), (.ref b2)])) _
    refine XS.bipush X35.here hx rfl (hb hby at_77) ?_
    show Steps p.tables e below (T35.setTop (mkF m 79 #[.val (.int p1), .unset, .unset, .unset] [(.int (11 : Int32)), (.ref b2), (.ref b2)])) _
    refine st37 _ ?_
    show Steps p.tables e below (T37.setTop (mkF m 82 #[.val (.int p1), .unset, .unset, .unset] [(.ref w36), (.int (11 : Int32)), (.ref b2), (.ref b2)])) _
    refine st38 _ ?_
    show Steps p.tables e below (T38.setTop (mkF m 83 #[.val (.int p1), .unset, .unset, .unset] [(.ref b2)])) _
    refine XS.dup X38.here hx rfl (hb hby at_83) rfl rfl ?_
    show Steps p.tables e below (T38.setTop (mkF m 84 #[.val (.int p1), .unset, .unset, .unset] [(.ref b2), (.ref b2)])) _
    refine XS.bipush X38.here hx rfl (hb hby at_84) ?_
    show Steps p.tables e below (T38.setTop (mkF m 86 #[.val (.int p1), .unset, .unset, .unset] [(.int (12 : Int32)), (.ref b2), (.ref b2)])) _
    refine st40 _ ?_
    show Steps p.tables e below (T40.setTop (mkF m 89 #[.val (.int p1), .unset, .unset, .unset] [(.ref w39), (.int (12 : Int32)), (.ref b2), (.ref b2)])) _
    refine st41 _ ?_
    show Steps p.tables e below (T41.setTop (mkF m 90 #[.val (.int p1), .unset, .unset, .unset] [(.ref b2)])) _
    refine XS.dup X41.here hx rfl (hb hby at_90) rfl rfl ?_
    show Steps p.tables e below (T41.setTop (mkF m 91 #[.val (.int p1), .unset, .unset, .unset] [(.ref b2), (.ref b2)])) _
    refine XS.bipush X41.here hx rfl (hb hby at_91) ?_
    show Steps p.tables e below (T41.setTop (mkF m 93 #[.val (.int p1), .unset, .unset, .unset] [(.int (13 : Int32)), (.ref b2), (.ref b2)])) _
    refine st43 _ ?_
    show Steps p.tables e below (T43.setTop (mkF m 96 #[.val (.int p1), .unset, .unset, .unset] [(.ref w42), (.int (13 : Int32)), (.ref b2), (.ref b2)])) _
    refine st44 _ ?_
    show Steps p.tables e below (T44.setTop (mkF m 97 #[.val (.int p1), .unset, .unset, .unset] [(.ref b2)])) _
    refine XS.astoreN X44.here hx rfl (hb hby at_97) rfl rfl (l' := #[.val (.int p1), .val (.ref b2), .unset, .unset]) rfl ?_
    show Steps p.tables e below (T44.setTop (mkF m 98 #[.val (.int p1), .val (.ref b2), .unset, .unset] [])) _
    refine XS.bipush X44.here hx rfl (hb hby at_98) ?_
    show Steps p.tables e below (T44.setTop (mkF m 100 #[.val (.int p1), .val (.ref b2), .unset, .unset] [(.int (14 : Int32))])) _
    refine st45 _ ?_
    show Steps p.tables e below (T45.setTop (mkF m 102 #[.val (.int p1), .val (.ref b2), .unset, .unset] [(.ref b45)])) _
    refine XS.dup X45.here hx rfl (hb hby at_102) rfl rfl ?_
    show Steps p.tables e below (T45.setTop (mkF m 103 #[.val (.int p1), .val (.ref b2), .unset, .unset] [(.ref b45), (.ref b45)])) _
    refine XS.iconst X45.here hx rfl (hb hby at_103) ?_
    show Steps p.tables e below (T45.setTop (mkF m 104 #[.val (.int p1), .val (.ref b2), .unset, .unset] [(.int (0 : Int32)), (.ref b45), (.ref b45)])) _
    refine XS.iconst X45.here hx rfl (hb hby at_104) ?_
    show Steps p.tables e below (T45.setTop (mkF m 105 #[.val (.int p1), .val (.ref b2), .unset, .unset] [(.int (1 : Int32)), (.int (0 : Int32)), (.ref b45), (.ref b45)])) _
    refine st46 _ ?_
    show Steps p.tables e below (T46.setTop (mkF m 106 #[.val (.int p1), .val (.ref b2), .unset, .unset] [(.ref b45)])) _
    refine XS.dup X46.here hx rfl (hb hby at_106) rfl rfl ?_
    show Steps p.tables e below (T46.setTop (mkF m 107 #[.val (.int p1), .val (.ref b2), .unset, .unset] [(.ref b45), (.ref b45)])) _
    refine XS.iconst X46.here hx rfl (hb hby at_107) ?_
    show Steps p.tables e below (T46.setTop (mkF m 108 #[.val (.int p1), .val (.ref b2), .unset, .unset] [(.int (1 : Int32)), (.ref b45), (.ref b45)])) _
    refine XS.iconst X46.here hx rfl (hb hby at_108) ?_
    show Steps p.tables e below (T46.setTop (mkF m 109 #[.val (.int p1), .val (.ref b2), .unset, .unset] [(.int (1 : Int32)), (.int (1 : Int32)), (.ref b45), (.ref b45)])) _
    refine st47 _ ?_
    show Steps p.tables e below (T47.setTop (mkF m 110 #[.val (.int p1), .val (.ref b2), .unset, .unset] [(.ref b45)])) _
    refine XS.dup X47.here hx rfl (hb hby at_110) rfl rfl ?_
    show Steps p.tables e below (T47.setTop (mkF m 111 #[.val (.int p1), .val (.ref b2), .unset, .unset] [(.ref b45), (.ref b45)])) _
    refine XS.iconst X47.here hx rfl (hb hby at_111) ?_
    show Steps p.tables e below (T47.setTop (mkF m 112 #[.val (.int p1), .val (.ref b2), .unset, .unset] [(.int (2 : Int32)), (.ref b45), (.ref b45)])) _
    refine XS.iconst X47.here hx rfl (hb hby at_112) ?_
    show Steps p.tables e below (T47.setTop (mkF m 113 #[.val (.int p1), .val (.ref b2), .unset, .unset] [(.int (1 : Int32)), (.int (2 : Int32)), (.ref b45), (.ref b45)])) _
    refine st48 _ ?_
    show Steps p.tables e below (T48.setTop (mkF m 114 #[.val (.int p1), .val (.ref b2), .unset, .unset] [(.ref b45)])) _
    refine XS.dup X48.here hx rfl (hb hby at_114) rfl rfl ?_
    show Steps p.tables e below (T48.setTop (mkF m 115 #[.val (.int p1), .val (.ref b2), .unset, .unset] [(.ref b45), (.ref b45)])) _
    refine XS.iconst X48.here hx rfl (hb hby at_115) ?_
    show Steps p.tables e below (T48.setTop (mkF m 116 #[.val (.int p1), .val (.ref b2), .unset, .unset] [(.int (3 : Int32)), (.ref b45), (.ref b45)])) _
    refine XS.iconst X48.here hx rfl (hb hby at_116) ?_
    show Steps p.tables e below (T48.setTop (mkF m 117 #[.val (.int p1), .val (.ref b2), .unset, .unset] [(.int (1 : Int32)), (.int (3 : Int32)), (.ref b45), (.ref b45)])) _
    refine st49 _ ?_
    show Steps p.tables e below (T49.setTop (mkF m 118 #[.val (.int p1), .val (.ref b2), .unset, .unset] [(.ref b45)])) _
    refine XS.dup X49.here hx rfl (hb hby at_118) rfl rfl ?_
    show Steps p.tables e below (T49.setTop (mkF m 119 #[.val (.int p1), .val (.ref b2), .unset, .unset] [(.ref b45), (.ref b45)])) _
    refine XS.iconst X49.here hx rfl (hb hby at_119) ?_
    show Steps p.tables e below (T49.setTop (mkF m 120 #[.val (.int p1), .val (.ref b2), .unset, .unset] [(.int (4 : Int32)), (.ref b45), (.ref b45)])) _
    refine XS.iconst X49.here hx rfl (hb hby at_120) ?_
    show Steps p.tables e below (T49.setTop (mkF m 121 #[.val (.int p1), .val (.ref b2), .unset, .unset] [(.int (0 : Int32)), (.int (4 : Int32)), (.ref b45), (.ref b45)])) _
    refine st50 _ ?_
    show Steps p.tables e below (T50.setTop (mkF m 122 #[.val (.int p1), .val (.ref b2), .unset, .unset] [(.ref b45)])) _
    refine XS.dup X50.here hx rfl (hb hby at_122) rfl rfl ?_
    show Steps p.tables e below (T50.setTop (mkF m 123 #[.val (.int p1), .val (.ref b2), .unset, .unset] [(.ref b45), (.ref b45)])) _
    refine XS.iconst X50.here hx rfl (hb hby at_123) ?_
    show Steps p.tables e below (T50.setTop (mkF m 124 #[.val (.int p1), .val (.ref b2), .unset, .unset] [(.int (5 : Int32)), (.ref b45), (.ref b45)])) _
    refine XS.iconst X50.here hx rfl (hb hby at_124) ?_
    show Steps p.tables e below (T50.setTop (mkF m 125 #[.val (.int p1), .val (.ref b2), .unset, .unset] [(.int (0 : Int32)), (.int (5 : Int32)), (.ref b45), (.ref b45)])) _
    refine st51 _ ?_
    show Steps p.tables e below (T51.setTop (mkF m 126 #[.val (.int p1), .val (.ref b2), .unset, .unset] [(.ref b45)])) _
    refine XS.dup X51.here hx rfl (hb hby at_126) rfl rfl ?_
    show Steps p.tables e below (T51.setTop (mkF m 127 #[.val (.int p1), .val (.ref b2), .unset, .unset] [(.ref b45), (.ref b45)])) _
    refine XS.bipush X51.here hx rfl (hb hby at_127) ?_
    show Steps p.tables e below (T51.setTop (mkF m 129 #[.val (.int p1), .val (.ref b2), .unset, .unset] [(.int (6 : Int32)), (.ref b45), (.ref b45)])) _
    refine XS.iconst X51.here hx rfl (hb hby at_129) ?_
    show Steps p.tables e below (T51.setTop (mkF m 130 #[.val (.int p1), .val (.ref b2), .unset, .unset] [(.int (0 : Int32)), (.int (6 : Int32)), (.ref b45), (.ref b45)])) _
    refine st52 _ ?_
    show Steps p.tables e below (T52.setTop (mkF m 131 #[.val (.int p1), .val (.ref b2), .unset, .unset] [(.ref b45)])) _
    refine XS.dup X52.here hx rfl (hb hby at_131) rfl rfl ?_
    show Steps p.tables e below (T52.setTop (mkF m 132 #[.val (.int p1), .val (.ref b2), .unset, .unset] [(.ref b45), (.ref b45)])) _
    refine XS.bipush X52.here hx rfl (hb hby at_132) ?_
    show Steps p.tables e below (T52.setTop (mkF m 134 #[.val (.int p1), .val (.ref b2), .unset, .unset] [(.int (7 : Int32)), (.ref b45), (.ref b45)])) _
    refine XS.iconst X52.here hx rfl (hb hby at_134) ?_
    show Steps p.tables e below (T52.setTop (mkF m 135 #[.val (.int p1), .val (.ref b2), .unset, .unset] [(.int (1 : Int32)), (.int (7 : Int32)), (.ref b45), (.ref b45)])) _
    refine st53 _ ?_
    show Steps p.tables e below (T53.setTop (mkF m 136 #[.val (.int p1), .val (.ref b2), .unset, .unset] [(.ref b45)])) _
    refine XS.dup X53.here hx rfl (hb hby at_136) rfl rfl ?_
    show Steps p.tables e below (T53.setTop (mkF m 137 #[.val (.int p1), .val (.ref b2), .unset, .unset] [(.ref b45), (.ref b45)])) _
    refine XS.bipush X53.here hx rfl (hb hby at_137) ?_
    show Steps p.tables e below (T53.setTop (mkF m 139 #[.val (.int p1), .val (.ref b2), .unset, .unset] [(.int (8 : Int32)), (.ref b45), (.ref b45)])) _
    refine XS.iconst X53.here hx rfl (hb hby at_139) ?_
    show Steps p.tables e below (T53.setTop (mkF m 140 #[.val (.int p1), .val (.ref b2), .unset, .unset] [(.int (0 : Int32)), (.int (8 : Int32)), (.ref b45), (.ref b45)])) _
    refine st54 _ ?_
    show Steps p.tables e below (T54.setTop (mkF m 141 #[.val (.int p1), .val (.ref b2), .unset, .unset] [(.ref b45)])) _
    refine XS.dup X54.here hx rfl (hb hby at_141) rfl rfl ?_
    show Steps p.tables e below (T54.setTop (mkF m 142 #[.val (.int p1), .val (.ref b2), .unset, .unset] [(.ref b45), (.ref b45)])) _
    refine XS.bipush X54.here hx rfl (hb hby at_142) ?_
    show Steps p.tables e below (T54.setTop (mkF m 144 #[.val (.int p1), .val (.ref b2), .unset, .unset] [(.int (9 : Int32)), (.ref b45), (.ref b45)])) _
    refine XS.iconst X54.here hx rfl (hb hby at_144) ?_
    show Steps p.tables e below (T54.setTop (mkF m 145 #[.val (.int p1), .val (.ref b2), .unset, .unset] [(.int (0 : Int32)), (.int (9 : Int32)), (.ref b45), (.ref b45)])) _
    refine st55 _ ?_
    show Steps p.tables e below (T55.setTop (mkF m 146 #[.val (.int p1), .val (.ref b2), .unset, .unset] [(.ref b45)])) _
    refine XS.dup X55.here hx rfl (hb hby at_146) rfl rfl ?_
    show Steps p.tables e below (T55.setTop (mkF m 147 #[.val (.int p1), .val (.ref b2), .unset, .unset] [(.ref b45), (.ref b45)])) _
    refine XS.bipush X55.here hx rfl (hb hby at_147) ?_
    show Steps p.tables e below (T55.setTop (mkF m 149 #[.val (.int p1), .val (.ref b2), .unset, .unset] [(.int (10 : Int32)), (.ref b45), (.ref b45)])) _
    refine XS.iconst X55.here hx rfl (hb hby at_149) ?_
    show Steps p.tables e below (T55.setTop (mkF m 150 #[.val (.int p1), .val (.ref b2), .unset, .unset] [(.int (0 : Int32)), (.int (10 : Int32)), (.ref b45), (.ref b45)])) _
    refine st56 _ ?_
    show Steps p.tables e below (T56.setTop (mkF m 151 #[.val (.int p1), .val (.ref b2), .unset, .unset] [(.ref b45)])) _
    refine XS.dup X56.here hx rfl (hb hby at_151) rfl rfl ?_
    show Steps p.tables e below (T56.setTop (mkF m 152 #[.val (.int p1), .val (.ref b2), .unset, .unset] [(.ref b45), (.ref b45)])) _
    refine XS.bipush X56.here hx rfl (hb hby at_152) ?_
    show Steps p.tables e below (T56.setTop (mkF m 154 #[.val (.int p1), .val (.ref b2), .unset, .unset] [(.int (11 : Int32)), (.ref b45), (.ref b45)])) _
    refine XS.iconst X56.here hx rfl (hb hby at_154) ?_
    show Steps p.tables e below (T56.setTop (mkF m 155 #[.val (.int p1), .val (.ref b2), .unset, .unset] [(.int (0 : Int32)), (.int (11 : Int32)), (.ref b45), (.ref b45)])) _
    refine st57 _ ?_
    show Steps p.tables e below (T57.setTop (mkF m 156 #[.val (.int p1), .val (.ref b2), .unset, .unset] [(.ref b45)])) _
    refine XS.dup X57.here hx rfl (hb hby at_156) rfl rfl ?_
    show Steps p.tables e below (T57.setTop (mkF m 157 #[.val (.int p1), .val (.ref b2), .unset, .unset] [(.ref b45), (.ref b45)])) _
    refine XS.bipush X57.here hx rfl (hb hby at_157) ?_
    show Steps p.tables e below (T57.setTop (mkF m 159 #[.val (.int p1), .val (.ref b2), .unset, .unset] [(.int (12 : Int32)), (.ref b45), (.ref b45)])) _
    refine XS.iconst X57.here hx rfl (hb hby at_159) ?_
    show Steps p.tables e below (T57.setTop (mkF m 160 #[.val (.int p1), .val (.ref b2), .unset, .unset] [(.int (0 : Int32)), (.int (12 : Int32)), (.ref b45), (.ref b45)])) _
    refine st58 _ ?_
    show Steps p.tables e below (T58.setTop (mkF m 161 #[.val (.int p1), .val (.ref b2), .unset, .unset] [(.ref b45)])) _
    refine XS.dup X58.here hx rfl (hb hby at_161) rfl rfl ?_
    show Steps p.tables e below (T58.setTop (mkF m 162 #[.val (.int p1), .val (.ref b2), .unset, .unset] [(.ref b45), (.ref b45)])) _
    refine XS.bipush X58.here hx rfl (hb hby at_162) ?_
    show Steps p.tables e below (T58.setTop (mkF m 164 #[.val (.int p1), .val (.ref b2), .unset, .unset] [(.int (13 : Int32)), (.ref b45), (.ref b45)])) _
    refine XS.iconst X58.here hx rfl (hb hby at_164) ?_
    show Steps p.tables e below (T58.setTop (mkF m 165 #[.val (.int p1), .val (.ref b2), .unset, .unset] [(.int (0 : Int32)), (.int (13 : Int32)), (.ref b45), (.ref b45)])) _
    refine st59 _ ?_
    show Steps p.tables e below (T59.setTop (mkF m 166 #[.val (.int p1), .val (.ref b2), .unset, .unset] [(.ref b45)])) _
    refine XS.astoreN X59.here hx rfl (hb hby at_166) rfl rfl (l' := #[.val (.int p1), .val (.ref b2), .val (.ref b45), .unset]) rfl ?_
    show Steps p.tables e below (T59.setTop (mkF m 167 #[.val (.int p1), .val (.ref b2), .val (.ref b45), .unset] [])) _
    refine XS.iloadN X59.here hx rfl (hb hby at_167) rfl ?_
    show Steps p.tables e below (T59.setTop (mkF m 168 #[.val (.int p1), .val (.ref b2), .val (.ref b45), .unset] [(.int p1)])) _
    refine X59.ldcInt hx hown (mvT hZ (hw _ (List.mem_of_getElem? (i := 33) rfl))) (g := (mkF m 168 #[.val (.int p1), .val (.ref b2), .val (.ref b45), .unset] [(.int p1)])) rfl (hb hby at_168) _ ?_
    show Steps p.tables e below (T59.setTop (mkF m 170 #[.val (.int p1), .val (.ref b2), .val (.ref b45), .unset] [(.int (2147483647 : Int32)), (.int p1)])) _
    refine XS.iand X59.here hx rfl (hb hby at_170) rfl ?_
    show Steps p.tables e below (T59.setTop (mkF m 171 #[.val (.int p1), .val (.ref b2), .val (.ref b45), .unset] [(.int (p1 &&& (2147483647 : Int32)))])) _
    refine XS.bipush X59.here hx rfl (hb hby at_171) ?_
    show Steps p.tables e below (T59.setTop (mkF m 173 #[.val (.int p1), .val (.ref b2), .val (.ref b45), .unset] [(.int (14 : Int32)), (.int (p1 &&& (2147483647 : Int32)))])) _
    refine Jvm.RoadKit.iremM (g := (mkF m 173 #[.val (.int p1), .val (.ref b2), .val (.ref b45), .unset] [(.int (14 : Int32)), (.int (p1 &&& (2147483647 : Int32)))])) X59 hx rfl (hb hby at_173) rfl (by decide) ?_
    show Steps p.tables e below (T59.setTop (mkF m 174 #[.val (.int p1), .val (.ref b2), .val (.ref b45), .unset] [(.int ((p1 &&& (2147483647 : Int32)) % (14 : Int32)))])) _
    refine XS.istoreN X59.here hx rfl (hb hby at_174) rfl (l' := #[.val (.int p1), .val (.ref b2), .val (.ref b45), .val (.int ((p1 &&& (2147483647 : Int32)) % (14 : Int32)))]) rfl ?_
    show Steps p.tables e below (T59.setTop (mkF m 175 #[.val (.int p1), .val (.ref b2), .val (.ref b45), .val (.int ((p1 &&& (2147483647 : Int32)) % (14 : Int32)))] [])) _
    refine XS.aloadN X59.here hx rfl (hb hby at_175) rfl rfl ?_
    show Steps p.tables e below (T59.setTop (mkF m 176 #[.val (.int p1), .val (.ref b2), .val (.ref b45), .val (.int ((p1 &&& (2147483647 : Int32)) % (14 : Int32)))] [(.ref b2)])) _
    refine XS.iloadN X59.here hx rfl (hb hby at_176) rfl ?_
    show Steps p.tables e below (T59.setTop (mkF m 177 #[.val (.int p1), .val (.ref b2), .val (.ref b45), .val (.int ((p1 &&& (2147483647 : Int32)) % (14 : Int32)))] [(.int ((p1 &&& (2147483647 : Int32)) % (14 : Int32))), (.ref b2)])) _
    refine X59.aaload hx (j := ((p1 &&& (2147483647 : Int32)) % (14 : Int32))) (v := (.ref w60)) (by rw [e59]; exact Ar_b2.1) (State.isArrayOf_alike hZ.alike Ar_b2.2.1) rfl Ar_b2.2.2 hin177 hat177 (g := (mkF m 177 #[.val (.int p1), .val (.ref b2), .val (.ref b45), .val (.int ((p1 &&& (2147483647 : Int32)) % (14 : Int32)))] [(.int ((p1 &&& (2147483647 : Int32)) % (14 : Int32))), (.ref b2)])) rfl rfl (hb hby at_177) _ ?_
    show Steps p.tables e below (T59.setTop (mkF m 178 #[.val (.int p1), .val (.ref b2), .val (.ref b45), .val (.int ((p1 &&& (2147483647 : Int32)) % (14 : Int32)))] [(.ref w60)])) _
    refine st61.trans ?_
    show Steps p.tables e below (T61.setTop (mkF m 181 #[.val (.int p1), .val (.ref b2), .val (.ref b45), .val (.int ((p1 &&& (2147483647 : Int32)) % (14 : Int32)))] [(.int r)])) _
    refine XS.aloadN X61.here hx rfl (hb hby at_181) rfl rfl ?_
    show Steps p.tables e below (T61.setTop (mkF m 182 #[.val (.int p1), .val (.ref b2), .val (.ref b45), .val (.int ((p1 &&& (2147483647 : Int32)) % (14 : Int32)))] [(.ref b45), (.int r)])) _
    refine XS.iloadN X61.here hx rfl (hb hby at_182) rfl ?_
    show Steps p.tables e below (T61.setTop (mkF m 183 #[.val (.int p1), .val (.ref b2), .val (.ref b45), .val (.int ((p1 &&& (2147483647 : Int32)) % (14 : Int32)))] [(.int ((p1 &&& (2147483647 : Int32)) % (14 : Int32))), (.ref b45), (.int r)])) _
    refine X61.baloadBooleans hx (j := ((p1 &&& (2147483647 : Int32)) % (14 : Int32))) (v := (.int r)) (by rw [eQ]; exact Ar_b45.1) (State.isArrayOf_alike hZ.alike Ar_b45.2.1) Ar_b45.2.2 hin183 hat183 (g := (mkF m 183 #[.val (.int p1), .val (.ref b2), .val (.ref b45), .val (.int ((p1 &&& (2147483647 : Int32)) % (14 : Int32)))] [(.int ((p1 &&& (2147483647 : Int32)) % (14 : Int32))), (.ref b45), (.int r)])) rfl rfl (hb hby at_183) _ ?_
    show Steps p.tables e below (T61.setTop (mkF m 184 #[.val (.int p1), .val (.ref b2), .val (.ref b45), .val (.int ((p1 &&& (2147483647 : Int32)) % (14 : Int32)))] [(.int r), (.int r)])) _
    refine XS.icmpNo X61.here hx rfl (hb hby at_184) rfl (teq (rfl : r = r)).2 ?_
    show Steps p.tables e below (T61.setTop (mkF m 187 #[.val (.int p1), .val (.ref b2), .val (.ref b45), .val (.int ((p1 &&& (2147483647 : Int32)) % (14 : Int32)))] [])) _
    refine XS.iconst X61.here hx rfl (hb hby at_187) ?_
    show Steps p.tables e below (T61.setTop (mkF m 188 #[.val (.int p1), .val (.ref b2), .val (.ref b45), .val (.int ((p1 &&& (2147483647 : Int32)) % (14 : Int32)))] [(.int (1 : Int32))])) _
    refine XS.goto X61.here hx rfl (pc0 := 188) (pc' := 192) rfl (hb hby at_188) (by decide) (by decide) ?_
    show Steps p.tables e below (T61.setTop (mkF m 192 #[.val (.int p1), .val (.ref b2), .val (.ref b45), .val (.int ((p1 &&& (2147483647 : Int32)) % (14 : Int32)))] [(.int (1 : Int32))])) _
    exact retN X61 hx (t := .boolean) Bd.returns (by simp) (hb hby at_192) hr
  · show Q0_a Z p1 w3 w6 w9 w12 w15 w18 w21 w24 w27 w30 w33 w36 w39 w42 w60 r h0 n0 _ T61.heap _
    exact ⟨rfl, N61⟩
theorem own_fld {args : Array Value} {s : State} {w : Addr} {t : Term} {C f d : String} {z : Int32} (et : t.eval args s none [] s = some (.ref w)) (h : (Cond.eq (.field t C f d) (.int z)).value args s none s [] = some true) : s.fieldOf? w C f d = some (.int z) := by
  obtain ⟨x, y, a1, a2, -⟩ := cmp_v (Or.inl h)
  rw [fld_at et] at a1
  simp only [Cond.value, fld_at et, a1, Term.int_eval] at h
  cases x <;> simp at h
  subst h
  exact a1
theorem own_ne {s : State} {w w' : Addr} {C f d : String} {a b : Int32} (e1 : s.fieldOf? w C f d = some (.int a)) (e2 : s.fieldOf? w' C f d = some (.int b)) (h : a ≠ b) : w ≠ w' := fun q => by
  subst q
  have q := e1.symm.trans e2
  simp only [Option.some.injEq, Value.int.injEq] at q
  exact h q
theorem own_i (x : Int32) : 0 ≤ ((x &&& 2147483647) % 14).toInt ∧ ((x &&& 2147483647) % 14).toInt < 14 := by
  have e : (x &&& 2147483647).toInt = x.toInt % 2 ^ 31 := Jvm.Kit.i32_mask x 2147483647 (k := 31) (by decide) (by decide)
  have q : (14 : Int32).toInt = 14 := by decide
  have e2 : ((x &&& 2147483647) % 14).toInt = (x &&& 2147483647).toInt % (14 : Int32).toInt := Jvm.Kit.i32_rem_nonneg (by omega)
  rw [q] at e2
  omega
theorem own_cases (i : Int32) (h0 : 0 ≤ i.toInt) (h1 : i.toInt < 14) : i = 0 ∨ i = 1 ∨ i = 2 ∨ i = 3 ∨ i = 4 ∨ i = 5 ∨ i = 6 ∨ i = 7 ∨ i = 8 ∨ i = 9 ∨ i = 10 ∨ i = 11 ∨ i = 12 ∨ i = 13 := by
  have d0 : (0 : Int32).toInt = 0 := by decide
  have d1 : (1 : Int32).toInt = 1 := by decide
  have d2 : (2 : Int32).toInt = 2 := by decide
  have d3 : (3 : Int32).toInt = 3 := by decide
  have d4 : (4 : Int32).toInt = 4 := by decide
  have d5 : (5 : Int32).toInt = 5 := by decide
  have d6 : (6 : Int32).toInt = 6 := by decide
  have d7 : (7 : Int32).toInt = 7 := by decide
  have d8 : (8 : Int32).toInt = 8 := by decide
  have d9 : (9 : Int32).toInt = 9 := by decide
  have d10 : (10 : Int32).toInt = 10 := by decide
  have d11 : (11 : Int32).toInt = 11 := by decide
  have d12 : (12 : Int32).toInt = 12 := by decide
  have d13 : (13 : Int32).toInt = 13 := by decide
  simp only [← Int32.toInt_inj, d0, d1, d2, d3, d4, d5, d6, d7, d8, d9, d10, d11, d12, d13]
  omega
set_option maxRecDepth 65536 in
set_option maxHeartbeats 40000000 in
theorem comes_1 {Post : Tables → Env → Array Value → State → Outcome → State → Prop} (hpost : ∀ tb e args s v u, (limb_1_1.after args s (.returned v) u = true ∧ limb_1_2.after args s (.returned v) u = true ∧ True) → FrameEnd s (.returned v) u (Jvm.fieldLocs frame_1_writes args s ++ Jvm.arrayLocs frame_1_arrays args s ++ Jvm.staticLocs frame_1_statics s) 16 128 → Post tb e args s (.returned v) u) :
    ArmFor flags0 classFile x code maxLocals ret World_1 tables_1 room_1 Calls_1 rest_1 Pre_1 Post := by
  intro l hfl _ _ p e ha hc hk s m args below hf hA hF happ hP
  obtain ⟨hcalls, hrest, hpre⟩ := hP
  obtain ⟨-, -, -, hnamed, -, -, -, hat⟩ := (Spec.applies_iff hf).mp happ
  obtain ⟨hg, hn⟩ := and_e (Cond.before_iff.mp (show (Jvm.Cond.and given_1 narrow_1).before args s = true from hpre))
  obtain ⟨g63, g64⟩ := and_e hg
  obtain ⟨w0, rfl⟩ : ∃ w0 : Value, args = #[w0] := by
    have hs : args.size = 1 := by simpa [Cond.value, given_1] using g63
    obtain ⟨L⟩ := args
    match L, hs with
    | [w0], _ => exact ⟨w0, rfl⟩
  have hw := fun d (hd : d ∈ tables_1) => atoms_spec (ws := Jvm.Cond.code x code maxLocals ret :: tables_1) hat d (List.mem_cons_of_mem _ hd)
  have hfit : Fit s := fun {y c} hc i hi => by
    obtain ⟨ha, rfl⟩ := Array.getElem?_eq_some_iff.mp hc
    have q := List.all_eq_true.mp ((Array.all_eq_true_iff_forall_mem.mp hF) _ (Array.getElem_mem ha)) i (List.mem_range.mpr hi)
    simpa [Array.getElem?_eq_getElem hi] using q
  obtain ⟨i0, ei0⟩ := is_v g64
  obtain rfl : w0 = (.int i0) := Option.some.inj ei0
  obtain ⟨u0, v0⟩ := and_e hn
  obtain ⟨u1, v1⟩ := and_e v0
  obtain ⟨u2, v2⟩ := and_e v1
  obtain ⟨u3, v3⟩ := and_e v2
  obtain ⟨u4, v4⟩ := and_e v3
  obtain ⟨u5, v5⟩ := and_e v4
  obtain ⟨u6, v6⟩ := and_e v5
  obtain ⟨u7, v7⟩ := and_e v6
  obtain ⟨u8, v8⟩ := and_e v7
  obtain ⟨u9, v9⟩ := and_e v8
  obtain ⟨u10, v10⟩ := and_e v9
  obtain ⟨u11, v11⟩ := and_e v10
  obtain ⟨u12, v12⟩ := and_e v11
  obtain ⟨u13, v13⟩ := and_e v12
  obtain ⟨u14, v14⟩ := and_e v13
  obtain ⟨u15, v15⟩ := and_e v14
  obtain ⟨u16, v16⟩ := and_e v15
  obtain ⟨u17, v17⟩ := and_e v16
  obtain ⟨u18, v18⟩ := and_e v17
  obtain ⟨u19, v19⟩ := and_e v18
  obtain ⟨u20, v20⟩ := and_e v19
  obtain ⟨u21, v21⟩ := and_e v20
  obtain ⟨u22, v22⟩ := and_e v21
  obtain ⟨u23, v23⟩ := and_e v22
  obtain ⟨u24, v24⟩ := and_e v23
  obtain ⟨u25, v25⟩ := and_e v24
  obtain ⟨u26, v26⟩ := and_e v25
  obtain ⟨w_MODULE, e_MODULE⟩ := exa_v u0
  have S_MODULE : Sta s s.heap "com/example/isogloss/isogloss/languages/idl/Symbol$Kind" "MODULE" "Lcom/example/isogloss/isogloss/languages/idl/Symbol$Kind;" (.ref w_MODULE) := Sta.start e_MODULE (Or.inr ⟨hw _ (List.mem_of_getElem? (i := 3) rfl), hw _ (List.mem_of_getElem? (i := 4) rfl)⟩)
  have E_MODULE : Exa s s.heap w_MODULE "com/example/isogloss/isogloss/languages/idl/Symbol$Kind" := Exa.start e_MODULE u0
  obtain ⟨w_INTERFACE, e_INTERFACE⟩ := exa_v u1
  have S_INTERFACE : Sta s s.heap "com/example/isogloss/isogloss/languages/idl/Symbol$Kind" "INTERFACE" "Lcom/example/isogloss/isogloss/languages/idl/Symbol$Kind;" (.ref w_INTERFACE) := Sta.start e_INTERFACE (Or.inr ⟨hw _ (List.mem_of_getElem? (i := 3) rfl), hw _ (List.mem_of_getElem? (i := 7) rfl)⟩)
  have E_INTERFACE : Exa s s.heap w_INTERFACE "com/example/isogloss/isogloss/languages/idl/Symbol$Kind" := Exa.start e_INTERFACE u1
  obtain ⟨w_STRUCT, e_STRUCT⟩ := exa_v u2
  have S_STRUCT : Sta s s.heap "com/example/isogloss/isogloss/languages/idl/Symbol$Kind" "STRUCT" "Lcom/example/isogloss/isogloss/languages/idl/Symbol$Kind;" (.ref w_STRUCT) := Sta.start e_STRUCT (Or.inr ⟨hw _ (List.mem_of_getElem? (i := 3) rfl), hw _ (List.mem_of_getElem? (i := 9) rfl)⟩)
  have E_STRUCT : Exa s s.heap w_STRUCT "com/example/isogloss/isogloss/languages/idl/Symbol$Kind" := Exa.start e_STRUCT u2
  obtain ⟨w_UNION, e_UNION⟩ := exa_v u3
  have S_UNION : Sta s s.heap "com/example/isogloss/isogloss/languages/idl/Symbol$Kind" "UNION" "Lcom/example/isogloss/isogloss/languages/idl/Symbol$Kind;" (.ref w_UNION) := Sta.start e_UNION (Or.inr ⟨hw _ (List.mem_of_getElem? (i := 3) rfl), hw _ (List.mem_of_getElem? (i := 11) rfl)⟩)
  have E_UNION : Exa s s.heap w_UNION "com/example/isogloss/isogloss/languages/idl/Symbol$Kind" := Exa.start e_UNION u3
  obtain ⟨w_ENUM, e_ENUM⟩ := exa_v u4
  have S_ENUM : Sta s s.heap "com/example/isogloss/isogloss/languages/idl/Symbol$Kind" "ENUM" "Lcom/example/isogloss/isogloss/languages/idl/Symbol$Kind;" (.ref w_ENUM) := Sta.start e_ENUM (Or.inr ⟨hw _ (List.mem_of_getElem? (i := 3) rfl), hw _ (List.mem_of_getElem? (i := 13) rfl)⟩)
  have E_ENUM : Exa s s.heap w_ENUM "com/example/isogloss/isogloss/languages/idl/Symbol$Kind" := Exa.start e_ENUM u4
  obtain ⟨w_TYPEDEF, e_TYPEDEF⟩ := exa_v u5
  have S_TYPEDEF : Sta s s.heap "com/example/isogloss/isogloss/languages/idl/Symbol$Kind" "TYPEDEF" "Lcom/example/isogloss/isogloss/languages/idl/Symbol$Kind;" (.ref w_TYPEDEF) := Sta.start e_TYPEDEF (Or.inr ⟨hw _ (List.mem_of_getElem? (i := 3) rfl), hw _ (List.mem_of_getElem? (i := 15) rfl)⟩)
  have E_TYPEDEF : Exa s s.heap w_TYPEDEF "com/example/isogloss/isogloss/languages/idl/Symbol$Kind" := Exa.start e_TYPEDEF u5
  obtain ⟨w_NATIVE, e_NATIVE⟩ := exa_v u6
  have S_NATIVE : Sta s s.heap "com/example/isogloss/isogloss/languages/idl/Symbol$Kind" "NATIVE" "Lcom/example/isogloss/isogloss/languages/idl/Symbol$Kind;" (.ref w_NATIVE) := Sta.start e_NATIVE (Or.inr ⟨hw _ (List.mem_of_getElem? (i := 3) rfl), hw _ (List.mem_of_getElem? (i := 17) rfl)⟩)
  have E_NATIVE : Exa s s.heap w_NATIVE "com/example/isogloss/isogloss/languages/idl/Symbol$Kind" := Exa.start e_NATIVE u6
  obtain ⟨w_EXCEPTION, e_EXCEPTION⟩ := exa_v u7
  have S_EXCEPTION : Sta s s.heap "com/example/isogloss/isogloss/languages/idl/Symbol$Kind" "EXCEPTION" "Lcom/example/isogloss/isogloss/languages/idl/Symbol$Kind;" (.ref w_EXCEPTION) := Sta.start e_EXCEPTION (Or.inr ⟨hw _ (List.mem_of_getElem? (i := 3) rfl), hw _ (List.mem_of_getElem? (i := 19) rfl)⟩)
  have E_EXCEPTION : Exa s s.heap w_EXCEPTION "com/example/isogloss/isogloss/languages/idl/Symbol$Kind" := Exa.start e_EXCEPTION u7
  obtain ⟨w_CONSTANT, e_CONSTANT⟩ := exa_v u8
  have S_CONSTANT : Sta s s.heap "com/example/isogloss/isogloss/languages/idl/Symbol$Kind" "CONSTANT" "Lcom/example/isogloss/isogloss/languages/idl/Symbol$Kind;" (.ref w_CONSTANT) := Sta.start e_CONSTANT (Or.inr ⟨hw _ (List.mem_of_getElem? (i := 3) rfl), hw _ (List.mem_of_getElem? (i := 21) rfl)⟩)
  have E_CONSTANT : Exa s s.heap w_CONSTANT "com/example/isogloss/isogloss/languages/idl/Symbol$Kind" := Exa.start e_CONSTANT u8
  obtain ⟨w_ENUMERATOR, e_ENUMERATOR⟩ := exa_v u9
  have S_ENUMERATOR : Sta s s.heap "com/example/isogloss/isogloss/languages/idl/Symbol$Kind" "ENUMERATOR" "Lcom/example/isogloss/isogloss/languages/idl/Symbol$Kind;" (.ref w_ENUMERATOR) := Sta.start e_ENUMERATOR (Or.inr ⟨hw _ (List.mem_of_getElem? (i := 3) rfl), hw _ (List.mem_of_getElem? (i := 23) rfl)⟩)
  have E_ENUMERATOR : Exa s s.heap w_ENUMERATOR "com/example/isogloss/isogloss/languages/idl/Symbol$Kind" := Exa.start e_ENUMERATOR u9
  obtain ⟨w_OPERATION, e_OPERATION⟩ := exa_v u10
  have S_OPERATION : Sta s s.heap "com/example/isogloss/isogloss/languages/idl/Symbol$Kind" "OPERATION" "Lcom/example/isogloss/isogloss/languages/idl/Symbol$Kind;" (.ref w_OPERATION) := Sta.start e_OPERATION (Or.inr ⟨hw _ (List.mem_of_getElem? (i := 3) rfl), hw _ (List.mem_of_getElem? (i := 25) rfl)⟩)
  have E_OPERATION : Exa s s.heap w_OPERATION "com/example/isogloss/isogloss/languages/idl/Symbol$Kind" := Exa.start e_OPERATION u10
  obtain ⟨w_ATTRIBUTE, e_ATTRIBUTE⟩ := exa_v u11
  have S_ATTRIBUTE : Sta s s.heap "com/example/isogloss/isogloss/languages/idl/Symbol$Kind" "ATTRIBUTE" "Lcom/example/isogloss/isogloss/languages/idl/Symbol$Kind;" (.ref w_ATTRIBUTE) := Sta.start e_ATTRIBUTE (Or.inr ⟨hw _ (List.mem_of_getElem? (i := 3) rfl), hw _ (List.mem_of_getElem? (i := 27) rfl)⟩)
  have E_ATTRIBUTE : Exa s s.heap w_ATTRIBUTE "com/example/isogloss/isogloss/languages/idl/Symbol$Kind" := Exa.start e_ATTRIBUTE u11
  obtain ⟨w_PARAMETER, e_PARAMETER⟩ := exa_v u12
  have S_PARAMETER : Sta s s.heap "com/example/isogloss/isogloss/languages/idl/Symbol$Kind" "PARAMETER" "Lcom/example/isogloss/isogloss/languages/idl/Symbol$Kind;" (.ref w_PARAMETER) := Sta.start e_PARAMETER (Or.inr ⟨hw _ (List.mem_of_getElem? (i := 3) rfl), hw _ (List.mem_of_getElem? (i := 29) rfl)⟩)
  have E_PARAMETER : Exa s s.heap w_PARAMETER "com/example/isogloss/isogloss/languages/idl/Symbol$Kind" := Exa.start e_PARAMETER u12
  obtain ⟨w_MEMBER, e_MEMBER⟩ := exa_v u13
  have S_MEMBER : Sta s s.heap "com/example/isogloss/isogloss/languages/idl/Symbol$Kind" "MEMBER" "Lcom/example/isogloss/isogloss/languages/idl/Symbol$Kind;" (.ref w_MEMBER) := Sta.start e_MEMBER (Or.inr ⟨hw _ (List.mem_of_getElem? (i := 3) rfl), hw _ (List.mem_of_getElem? (i := 31) rfl)⟩)
  have E_MEMBER : Exa s s.heap w_MEMBER "com/example/isogloss/isogloss/languages/idl/Symbol$Kind" := Exa.start e_MEMBER u13
  have o_UNION := own_fld e_UNION u14
  have o_MODULE := own_fld e_MODULE u15
  have o_INTERFACE := own_fld e_INTERFACE u16
  have o_STRUCT := own_fld e_STRUCT u17
  have o_PARAMETER := own_fld e_PARAMETER u18
  have o_EXCEPTION := own_fld e_EXCEPTION u19
  have o_MEMBER := own_fld e_MEMBER u20
  have o_ENUM := own_fld e_ENUM u21
  have o_ATTRIBUTE := own_fld e_ATTRIBUTE u22
  have o_OPERATION := own_fld e_OPERATION u23
  have o_CONSTANT := own_fld e_CONSTANT u24
  have o_ENUMERATOR := own_fld e_ENUMERATOR u25
  have o_TYPEDEF := own_fld e_TYPEDEF u26
  have o_NATIVE := own_fld e_NATIVE v26
  obtain ⟨b0, b1⟩ := own_i i0
  have z0 : (0 : Int32).toInt = 0 := by decide
  have z14 : (14 : Int32).toInt = 14 := by decide
  have i0n : ¬ ((i0 &&& (2147483647 : Int32)) % (14 : Int32)) < 0 := fun q => by
    have q' := Int32.lt_iff_toInt_lt.mp q
    omega
  have i14 : ((i0 &&& (2147483647 : Int32)) % (14 : Int32)) < 14 := Int32.lt_iff_toInt_lt.mpr (by omega)
  have hall : (∃ (wk : Addr) (r : Int32), Exa s s.heap wk "com/example/isogloss/isogloss/languages/idl/Symbol$Kind" ∧ [(.ref w_MODULE : Value), (.ref w_INTERFACE : Value), (.ref w_STRUCT : Value), (.ref w_UNION : Value), (.ref w_ENUM : Value), (.ref w_TYPEDEF : Value), (.ref w_NATIVE : Value), (.ref w_EXCEPTION : Value), (.ref w_CONSTANT : Value), (.ref w_ENUMERATOR : Value), (.ref w_OPERATION : Value), (.ref w_ATTRIBUTE : Value), (.ref w_PARAMETER : Value), (.ref w_MEMBER : Value)].getD (((i0 &&& (2147483647 : Int32)) % (14 : Int32))).toNatClampNeg .null = .ref wk ∧ Hits wk [w_MODULE, w_INTERFACE, w_STRUCT, w_UNION, w_EXCEPTION] r ∧ [(.int (nar .boolean (1 : Int32)) : Value), (.int (nar .boolean (1 : Int32)) : Value), (.int (nar .boolean (1 : Int32)) : Value), (.int (nar .boolean (1 : Int32)) : Value), (.int (nar .boolean (0 : Int32)) : Value), (.int (nar .boolean (0 : Int32)) : Value), (.int (nar .boolean (0 : Int32)) : Value), (.int (nar .boolean (1 : Int32)) : Value), (.int (nar .boolean (0 : Int32)) : Value), (.int (nar .boolean (0 : Int32)) : Value), (.int (nar .boolean (0 : Int32)) : Value), (.int (nar .boolean (0 : Int32)) : Value), (.int (nar .boolean (0 : Int32)) : Value), (.int (nar .boolean (0 : Int32)) : Value)].getD (((i0 &&& (2147483647 : Int32)) % (14 : Int32))).toNatClampNeg (.int 0) = .int r) := by
    rcases own_cases _ b0 b1 with q | q | q | q | q | q | q | q | q | q | q | q | q | q <;> rw [q]
    · exact ⟨w_MODULE, 1, E_MODULE, rfl, Or.inl ⟨by simp, rfl⟩, by rfl⟩
    · exact ⟨w_INTERFACE, 1, E_INTERFACE, rfl, Or.inl ⟨by simp, rfl⟩, by rfl⟩
    · exact ⟨w_STRUCT, 1, E_STRUCT, rfl, Or.inl ⟨by simp, rfl⟩, by rfl⟩
    · exact ⟨w_UNION, 1, E_UNION, rfl, Or.inl ⟨by simp, rfl⟩, by rfl⟩
    · exact ⟨w_ENUM, 0, E_ENUM, rfl, Or.inr ⟨by simp only [List.mem_cons, List.not_mem_nil, or_false, not_or]; exact ⟨own_ne o_ENUM o_MODULE (by decide), own_ne o_ENUM o_INTERFACE (by decide), own_ne o_ENUM o_STRUCT (by decide), own_ne o_ENUM o_UNION (by decide), own_ne o_ENUM o_EXCEPTION (by decide)⟩, rfl⟩, by rfl⟩
    · exact ⟨w_TYPEDEF, 0, E_TYPEDEF, rfl, Or.inr ⟨by simp only [List.mem_cons, List.not_mem_nil, or_false, not_or]; exact ⟨own_ne o_TYPEDEF o_MODULE (by decide), own_ne o_TYPEDEF o_INTERFACE (by decide), own_ne o_TYPEDEF o_STRUCT (by decide), own_ne o_TYPEDEF o_UNION (by decide), own_ne o_TYPEDEF o_EXCEPTION (by decide)⟩, rfl⟩, by rfl⟩
    · exact ⟨w_NATIVE, 0, E_NATIVE, rfl, Or.inr ⟨by simp only [List.mem_cons, List.not_mem_nil, or_false, not_or]; exact ⟨own_ne o_NATIVE o_MODULE (by decide), own_ne o_NATIVE o_INTERFACE (by decide), own_ne o_NATIVE o_STRUCT (by decide), own_ne o_NATIVE o_UNION (by decide), own_ne o_NATIVE o_EXCEPTION (by decide)⟩, rfl⟩, by rfl⟩
    · exact ⟨w_EXCEPTION, 1, E_EXCEPTION, rfl, Or.inl ⟨by simp, rfl⟩, by rfl⟩
    · exact ⟨w_CONSTANT, 0, E_CONSTANT, rfl, Or.inr ⟨by simp only [List.mem_cons, List.not_mem_nil, or_false, not_or]; exact ⟨own_ne o_CONSTANT o_MODULE (by decide), own_ne o_CONSTANT o_INTERFACE (by decide), own_ne o_CONSTANT o_STRUCT (by decide), own_ne o_CONSTANT o_UNION (by decide), own_ne o_CONSTANT o_EXCEPTION (by decide)⟩, rfl⟩, by rfl⟩
    · exact ⟨w_ENUMERATOR, 0, E_ENUMERATOR, rfl, Or.inr ⟨by simp only [List.mem_cons, List.not_mem_nil, or_false, not_or]; exact ⟨own_ne o_ENUMERATOR o_MODULE (by decide), own_ne o_ENUMERATOR o_INTERFACE (by decide), own_ne o_ENUMERATOR o_STRUCT (by decide), own_ne o_ENUMERATOR o_UNION (by decide), own_ne o_ENUMERATOR o_EXCEPTION (by decide)⟩, rfl⟩, by rfl⟩
    · exact ⟨w_OPERATION, 0, E_OPERATION, rfl, Or.inr ⟨by simp only [List.mem_cons, List.not_mem_nil, or_false, not_or]; exact ⟨own_ne o_OPERATION o_MODULE (by decide), own_ne o_OPERATION o_INTERFACE (by decide), own_ne o_OPERATION o_STRUCT (by decide), own_ne o_OPERATION o_UNION (by decide), own_ne o_OPERATION o_EXCEPTION (by decide)⟩, rfl⟩, by rfl⟩
    · exact ⟨w_ATTRIBUTE, 0, E_ATTRIBUTE, rfl, Or.inr ⟨by simp only [List.mem_cons, List.not_mem_nil, or_false, not_or]; exact ⟨own_ne o_ATTRIBUTE o_MODULE (by decide), own_ne o_ATTRIBUTE o_INTERFACE (by decide), own_ne o_ATTRIBUTE o_STRUCT (by decide), own_ne o_ATTRIBUTE o_UNION (by decide), own_ne o_ATTRIBUTE o_EXCEPTION (by decide)⟩, rfl⟩, by rfl⟩
    · exact ⟨w_PARAMETER, 0, E_PARAMETER, rfl, Or.inr ⟨by simp only [List.mem_cons, List.not_mem_nil, or_false, not_or]; exact ⟨own_ne o_PARAMETER o_MODULE (by decide), own_ne o_PARAMETER o_INTERFACE (by decide), own_ne o_PARAMETER o_STRUCT (by decide), own_ne o_PARAMETER o_UNION (by decide), own_ne o_PARAMETER o_EXCEPTION (by decide)⟩, rfl⟩, by rfl⟩
    · exact ⟨w_MEMBER, 0, E_MEMBER, rfl, Or.inr ⟨by simp only [List.mem_cons, List.not_mem_nil, or_false, not_or]; exact ⟨own_ne o_MEMBER o_MODULE (by decide), own_ne o_MEMBER o_INTERFACE (by decide), own_ne o_MEMBER o_STRUCT (by decide), own_ne o_MEMBER o_UNION (by decide), own_ne o_MEMBER o_EXCEPTION (by decide)⟩, rfl⟩, by rfl⟩
  obtain ⟨wk, r, Ek, hk0, hh, hgd⟩ := hall
  obtain ⟨n, o, h1, h2, h3, _, L, rfl, ⟨rfl, N⟩, hq⟩ := rm0_a l s _ hw tables_1 i0 w_MODULE w_INTERFACE w_STRUCT w_UNION w_ENUM w_TYPEDEF w_NATIVE w_EXCEPTION w_CONSTANT w_ENUMERATOR w_OPERATION w_ATTRIBUTE w_PARAMETER w_MEMBER wk r s.heap s.heap.size (Nat.le_refl _) E_MODULE E_INTERFACE E_STRUCT E_UNION E_ENUM E_TYPEDEF E_NATIVE E_EXCEPTION E_CONSTANT E_ENUMERATOR E_OPERATION E_ATTRIBUTE E_PARAMETER E_MEMBER Ek i0n i14 hk0 hh hgd S_MODULE S_INTERFACE S_STRUCT S_UNION S_ENUM S_TYPEDEF S_NATIVE S_EXCEPTION S_CONSTANT S_ENUMERATOR S_OPERATION S_ATTRIBUTE S_PARAMETER S_MEMBER  p e ha hc hk s m _ below hf ((Spec.applies_iff_loose hf).mp happ).1 ⟨rfl, State.Warmed39.refl s, rfl⟩ trivial
  exact ⟨n, _, h1, h2, h3, hpost _ _ _ _ _ _ ⟨Cond.after_iff.mpr rfl, Cond.after_iff.mpr (eq_i res_at (Term.int_eval (1)) rfl), trivial⟩ ⟨hq.1, hq.2.1, (hq.2.2.sift fun y hy => Or.inr (N y hy)).mono (by decide) (by decide)⟩⟩
theorem main_1_1 : Claimed_1_1 := comes_1 fun _ _ _ _ _ _ h hF => ⟨h.1, hF⟩
theorem main_1_2 : Claimed_1_2 := comes_1 fun _ _ _ _ _ _ h hF => ⟨h.2.1, hF⟩
end Jvm.Pilot.@@N@@
namespace Jvm.Pilot.@@N@@
open Jvm Jvm.ClassFile Sem Op Lib Jvm.Free Jvm.Stand Jvm.Pilot.@@N@@.Jvm.D
/-! MADE BY PROGRAM (witnessworld.py) out of the Statement's table words and the real class files: 15 classes; the members and pool entries that the words name. The judged class is class 1, her method 1. -/
namespace start1
open Jvm.ClassFile
def u (s : String) : CpInfo := .utf8 (stringToUtf16 s)
/-- a pool by its gaps: so many unusable entries, then the entry; so many at the end -/
def gap : Nat → List CpInfo → List CpInfo
  | 0, r => r
  | n + 1, r => .unusable :: gap n r
def poolList (es : List (Nat × CpInfo)) (last : Nat) : List CpInfo := es.foldr (fun e r => gap e.1 (e.2 :: r)) (gap last [])
def pool (es : List (Nat × CpInfo)) (last : Nat) : Array CpInfo := ⟨poolList es last⟩
def fileOf (pool : Array CpInfo) (this : Nat) (attrs : Array Attribute := #[]) (ms : Array MethodInfo := #[]) (fl : Nat := 33) (sup : Nat := 0) (ifs : Array Nat := #[]) (fds : Array FieldInfo := #[]) : ClassFile where
  minorVersion := 0
  majorVersion := 65
  constantPool := pool
  accessFlags := fl
  thisClass := this
  superClass := sup
  interfaces := ifs
  fields := fds
  methods := ms
  attributes := attrs
def plain (name : String) (sup : Option ClassId) : Class where
  name := name
  kind := .ordinary
  loader := none
  accessFlags := 33
  super := sup
  interfaces := #[]
  cf := none
  fields := #[]
  methods := #[]
  instanceTypes := #[]
  staticTypes := #[]
  resolved := #[]
  callSites := []
  init := .initialized
  statics := none
  mirror := none

def pool0 : Array CpInfo := pool [(5, u "<init>"), (0, u "()V"), (1, .class_ 10), (1, u "java/lang/Object")] 113

def k0m0 : Method := { name := "<init>", desc := "()V", sig := { parameters := [], returnType := none }, accessFlags := 1, code := none }
/-- java/lang/Object -/
def k0 : Class := { plain "java/lang/Object" none with
  accessFlags := 33
  interfaces := #[]
  cf := some (fileOf pool0 8 #[] #[{ accessFlags := 1, nameIndex := 5, descriptorIndex := 6, attributes := #[] }] 33 0 #[] #[])
  fields := #[]
  methods := #[k0m0]
  instanceTypes := #[]
  staticTypes := #[]
  resolved := Array.replicate 124 none
  statics := none }

def pool1 : Array CpInfo := pool [(2, .class_ 4), (1, u "java/lang/Object"), (0, u "<init>"), (0, u "()V"), (0, .class_ 8), (0, u "com/example/isogloss/isogloss/languages/idl/Symbol$Kind"), (0, .fieldref 7 10), (0, .nameAndType 11 12), (0, u "MODULE"), (0, u "Lcom/example/isogloss/isogloss/languages/idl/Symbol$Kind;"), (0, .fieldref 7 14), (0, .nameAndType 15 12), (0, u "INTERFACE"), (0, .fieldref 7 17), (0, .nameAndType 18 12), (0, u "STRUCT"), (0, .fieldref 7 20), (0, .nameAndType 21 12), (0, u "UNION"), (0, .fieldref 7 23), (0, .nameAndType 24 12), (0, u "ENUM"), (0, .fieldref 7 26), (0, .nameAndType 27 12), (0, u "TYPEDEF"), (0, .fieldref 7 29), (0, .nameAndType 30 12), (0, u "NATIVE"), (0, .fieldref 7 32), (0, .nameAndType 33 12), (0, u "EXCEPTION"), (0, .fieldref 7 35), (0, .nameAndType 36 12), (0, u "CONSTANT"), (0, .fieldref 7 38), (0, .nameAndType 39 12), (0, u "ENUMERATOR"), (0, .fieldref 7 41), (0, .nameAndType 42 12), (0, u "OPERATION"), (0, .fieldref 7 44), (0, .nameAndType 45 12), (0, u "ATTRIBUTE"), (0, .fieldref 7 47), (0, .nameAndType 48 12), (0, u "PARAMETER"), (0, .fieldref 7 50), (0, .nameAndType 51 12), (0, u "MEMBER"), (0, .integer 2147483647), (0, .methodref 7 54), (0, .nameAndType 55 56), (0, u "guardsItsName"), (0, u "()Z"), (0, .class_ 58), (0, u "com/example/isogloss/isogloss/languages/idl/KindGuardsItsNamePinLaw"), (2, u "law"), (0, u "(I)Z")] 11

def k1m0 : Method := { name := "<init>", desc := "()V", sig := { parameters := [], returnType := none }, accessFlags := 2, code := none }
def k1c1 : Code := { maxStack := 4, maxLocals := 4, code := code, exceptionTable := #[], attributes := #[] }
def k1m1 : Method := { name := "law", desc := "(I)Z", sig := { parameters := [.int], returnType := some .boolean }, accessFlags := 9, code := some k1c1 }
/-- com/example/isogloss/isogloss/languages/idl/KindGuardsItsNamePinLaw -/
def k1 : Class := { plain "com/example/isogloss/isogloss/languages/idl/KindGuardsItsNamePinLaw" (some 0) with
  accessFlags := 49
  interfaces := #[]
  cf := some (fileOf pool1 57 #[] #[{ accessFlags := 2, nameIndex := 5, descriptorIndex := 6, attributes := #[] }, { accessFlags := 9, nameIndex := 61, descriptorIndex := 62, attributes := #[] }] 49 2 #[] #[])
  fields := #[]
  methods := #[k1m0, k1m1]
  instanceTypes := #[]
  staticTypes := #[]
  resolved := Array.replicate 74 none
  statics := none }

def pool2 : Array CpInfo := pool [(1, .class_ 2), (0, u "java/lang/constant/Constable"), (0, .class_ 4), (0, u "java/lang/Object")] 6

/-- java/lang/constant/Constable -/
def k2 : Class := { plain "java/lang/constant/Constable" (some 0) with
  accessFlags := 1537
  interfaces := #[]
  cf := some (fileOf pool2 1 #[] #[] 1537 3 #[] #[])
  fields := #[]
  methods := #[]
  instanceTypes := #[]
  staticTypes := #[]
  resolved := Array.replicate 11 none
  statics := none }

def pool3 : Array CpInfo := pool [(1, .class_ 2), (0, u "java/lang/Comparable"), (0, .class_ 4), (0, u "java/lang/Object")] 7

/-- java/lang/Comparable -/
def k3 : Class := { plain "java/lang/Comparable" (some 0) with
  accessFlags := 1537
  interfaces := #[]
  cf := some (fileOf pool3 1 #[] #[] 1537 3 #[] #[])
  fields := #[]
  methods := #[]
  instanceTypes := #[]
  staticTypes := #[]
  resolved := Array.replicate 12 none
  statics := none }

def pool4 : Array CpInfo := pool [(1, .class_ 2), (0, u "java/io/Serializable"), (0, .class_ 4), (0, u "java/lang/Object")] 2

/-- java/io/Serializable -/
def k4 : Class := { plain "java/io/Serializable" (some 0) with
  accessFlags := 1537
  interfaces := #[]
  cf := some (fileOf pool4 1 #[] #[] 1537 3 #[] #[])
  fields := #[]
  methods := #[]
  instanceTypes := #[]
  staticTypes := #[]
  resolved := Array.replicate 7 none
  statics := none }

def pool5 : Array CpInfo := pool [(2, .class_ 4), (1, u "java/lang/Enum"), (0, u "name"), (0, u "Ljava/lang/String;"), (2, u "ordinal"), (0, u "I"), (1, .class_ 14), (1, u "java/lang/Object"), (4, u "hash"), (86, .class_ 108), (1, u "java/lang/Enum$EnumDesc"), (2, .class_ 112), (0, u "java/lang/constant/Constable"), (0, .class_ 114), (0, u "java/lang/Comparable"), (0, .class_ 116), (0, u "java/io/Serializable")] 87

/-- java/lang/Enum -/
def k5 : Class := { plain "java/lang/Enum" (some 0) with
  accessFlags := 1057
  interfaces := #[2, 3, 4]
  cf := some (fileOf pool5 2 #[.nestMembers #[106]] #[] 1057 12 #[111, 113, 115] #[{ accessFlags := 18, nameIndex := 5, descriptorIndex := 6, attributes := #[] }, { accessFlags := 18, nameIndex := 9, descriptorIndex := 10, attributes := #[] }, { accessFlags := 2, nameIndex := 19, descriptorIndex := 10, attributes := #[] }])
  fields := #[{ name := "name", type := (.object "java/lang/String"), accessFlags := 18, slot := 0, constantValue := 0 }, { name := "ordinal", type := .int, accessFlags := 18, slot := 1, constantValue := 0 }, { name := "hash", type := .int, accessFlags := 2, slot := 2, constantValue := 0 }]
  methods := #[]
  instanceTypes := #[(.object "java/lang/String"), .int, .int]
  staticTypes := #[]
  resolved := Array.replicate 204 none
  statics := none }

def pool6 : Array CpInfo := pool [(1, .class_ 2), (0, u "com/example/isogloss/isogloss/languages/idl/Symbol$Kind"), (0, .fieldref 1 4), (0, .nameAndType 5 6), (0, u "MODULE"), (0, u "Lcom/example/isogloss/isogloss/languages/idl/Symbol$Kind;"), (0, .fieldref 1 8), (0, .nameAndType 9 6), (0, u "INTERFACE"), (0, .fieldref 1 11), (0, .nameAndType 12 6), (0, u "STRUCT"), (0, .fieldref 1 14), (0, .nameAndType 15 6), (0, u "UNION"), (2, u "ENUM"), (2, u "TYPEDEF"), (2, u "NATIVE"), (0, .fieldref 1 26), (0, .nameAndType 27 6), (0, u "EXCEPTION"), (2, u "CONSTANT"), (2, u "ENUMERATOR"), (2, u "OPERATION"), (2, u "ATTRIBUTE"), (2, u "PARAMETER"), (2, u "MEMBER"), (2, u "$VALUES"), (0, u "[Lcom/example/isogloss/isogloss/languages/idl/Symbol$Kind;"), (6, .class_ 58), (1, u "java/lang/Enum"), (8, u "withArticle"), (0, u "Ljava/lang/String;"), (69, u "()Z"), (2, u "guardsItsName"), (6, .class_ 149), (0, u "com/example/isogloss/isogloss/languages/idl/Symbol")] 2

def k6c0 : Code := { maxStack := 2, maxLocals := 1, code := prog_70_method_8_code, exceptionTable := #[], attributes := #[] }
def k6m0 : Method := { name := "guardsItsName", desc := "()Z", sig := { parameters := [], returnType := some .boolean }, accessFlags := 0, code := some k6c0 }
/-- com/example/isogloss/isogloss/languages/idl/Symbol$Kind -/
def k6 : Class := { plain "com/example/isogloss/isogloss/languages/idl/Symbol$Kind" (some 5) with
  accessFlags := 16432
  interfaces := #[]
  cf := some (fileOf pool6 1 #[.nestHost 148] #[{ accessFlags := 0, nameIndex := 141, descriptorIndex := 138, attributes := #[] }] 16432 56 #[] #[{ accessFlags := 16409, nameIndex := 5, descriptorIndex := 6, attributes := #[] }, { accessFlags := 16409, nameIndex := 9, descriptorIndex := 6, attributes := #[] }, { accessFlags := 16409, nameIndex := 12, descriptorIndex := 6, attributes := #[] }, { accessFlags := 16409, nameIndex := 15, descriptorIndex := 6, attributes := #[] }, { accessFlags := 16409, nameIndex := 18, descriptorIndex := 6, attributes := #[] }, { accessFlags := 16409, nameIndex := 21, descriptorIndex := 6, attributes := #[] }, { accessFlags := 16409, nameIndex := 24, descriptorIndex := 6, attributes := #[] }, { accessFlags := 16409, nameIndex := 27, descriptorIndex := 6, attributes := #[] }, { accessFlags := 16409, nameIndex := 30, descriptorIndex := 6, attributes := #[] }, { accessFlags := 16409, nameIndex := 33, descriptorIndex := 6, attributes := #[] }, { accessFlags := 16409, nameIndex := 36, descriptorIndex := 6, attributes := #[] }, { accessFlags := 16409, nameIndex := 39, descriptorIndex := 6, attributes := #[] }, { accessFlags := 16409, nameIndex := 42, descriptorIndex := 6, attributes := #[] }, { accessFlags := 16409, nameIndex := 45, descriptorIndex := 6, attributes := #[] }, { accessFlags := 18, nameIndex := 67, descriptorIndex := 68, attributes := #[] }, { accessFlags := 4122, nameIndex := 48, descriptorIndex := 49, attributes := #[] }])
  fields := #[{ name := "MODULE", type := (.object "com/example/isogloss/isogloss/languages/idl/Symbol$Kind"), accessFlags := 16409, slot := 0, constantValue := 0 }, { name := "INTERFACE", type := (.object "com/example/isogloss/isogloss/languages/idl/Symbol$Kind"), accessFlags := 16409, slot := 1, constantValue := 0 }, { name := "STRUCT", type := (.object "com/example/isogloss/isogloss/languages/idl/Symbol$Kind"), accessFlags := 16409, slot := 2, constantValue := 0 }, { name := "UNION", type := (.object "com/example/isogloss/isogloss/languages/idl/Symbol$Kind"), accessFlags := 16409, slot := 3, constantValue := 0 }, { name := "ENUM", type := (.object "com/example/isogloss/isogloss/languages/idl/Symbol$Kind"), accessFlags := 16409, slot := 4, constantValue := 0 }, { name := "TYPEDEF", type := (.object "com/example/isogloss/isogloss/languages/idl/Symbol$Kind"), accessFlags := 16409, slot := 5, constantValue := 0 }, { name := "NATIVE", type := (.object "com/example/isogloss/isogloss/languages/idl/Symbol$Kind"), accessFlags := 16409, slot := 6, constantValue := 0 }, { name := "EXCEPTION", type := (.object "com/example/isogloss/isogloss/languages/idl/Symbol$Kind"), accessFlags := 16409, slot := 7, constantValue := 0 }, { name := "CONSTANT", type := (.object "com/example/isogloss/isogloss/languages/idl/Symbol$Kind"), accessFlags := 16409, slot := 8, constantValue := 0 }, { name := "ENUMERATOR", type := (.object "com/example/isogloss/isogloss/languages/idl/Symbol$Kind"), accessFlags := 16409, slot := 9, constantValue := 0 }, { name := "OPERATION", type := (.object "com/example/isogloss/isogloss/languages/idl/Symbol$Kind"), accessFlags := 16409, slot := 10, constantValue := 0 }, { name := "ATTRIBUTE", type := (.object "com/example/isogloss/isogloss/languages/idl/Symbol$Kind"), accessFlags := 16409, slot := 11, constantValue := 0 }, { name := "PARAMETER", type := (.object "com/example/isogloss/isogloss/languages/idl/Symbol$Kind"), accessFlags := 16409, slot := 12, constantValue := 0 }, { name := "MEMBER", type := (.object "com/example/isogloss/isogloss/languages/idl/Symbol$Kind"), accessFlags := 16409, slot := 13, constantValue := 0 }, { name := "withArticle", type := (.object "java/lang/String"), accessFlags := 18, slot := 3, constantValue := 0 }, { name := "$VALUES", type := (.array (.object "com/example/isogloss/isogloss/languages/idl/Symbol$Kind")), accessFlags := 4122, slot := 14, constantValue := 0 }]
  methods := #[k6m0]
  instanceTypes := #[(.object "java/lang/String"), .int, .int, (.object "java/lang/String")]
  staticTypes := #[(.object "com/example/isogloss/isogloss/languages/idl/Symbol$Kind"), (.object "com/example/isogloss/isogloss/languages/idl/Symbol$Kind"), (.object "com/example/isogloss/isogloss/languages/idl/Symbol$Kind"), (.object "com/example/isogloss/isogloss/languages/idl/Symbol$Kind"), (.object "com/example/isogloss/isogloss/languages/idl/Symbol$Kind"), (.object "com/example/isogloss/isogloss/languages/idl/Symbol$Kind"), (.object "com/example/isogloss/isogloss/languages/idl/Symbol$Kind"), (.object "com/example/isogloss/isogloss/languages/idl/Symbol$Kind"), (.object "com/example/isogloss/isogloss/languages/idl/Symbol$Kind"), (.object "com/example/isogloss/isogloss/languages/idl/Symbol$Kind"), (.object "com/example/isogloss/isogloss/languages/idl/Symbol$Kind"), (.object "com/example/isogloss/isogloss/languages/idl/Symbol$Kind"), (.object "com/example/isogloss/isogloss/languages/idl/Symbol$Kind"), (.object "com/example/isogloss/isogloss/languages/idl/Symbol$Kind"), (.array (.object "com/example/isogloss/isogloss/languages/idl/Symbol$Kind"))]
  resolved := Array.replicate 152 none
  statics := some 0 }

def pool7 : Array CpInfo := pool [(1, u "java/lang/Cloneable"), (0, .class_ 1), (0, u "java/lang/Object"), (0, .class_ 3)] 3

/-- java/lang/Cloneable -/
def k7 : Class := { plain "java/lang/Cloneable" (some 0) with
  accessFlags := 1537
  interfaces := #[]
  cf := some (fileOf pool7 2 #[] #[] 1537 4 #[] #[])
  fields := #[]
  methods := #[]
  instanceTypes := #[]
  staticTypes := #[]
  resolved := Array.replicate 8 none
  statics := none }

/-- the primitive boolean -/
def k8 : Class := { plain "boolean" none with kind := .primitive 'Z', accessFlags := 0x411 }
/-- [Z -/
def k9 : Class := { plain "[Z" (some 0) with kind := .array 8 .boolean, interfaces := #[7, 4], accessFlags := 1041 }

/-- the primitive byte -/
def k10 : Class := { plain "byte" none with kind := .primitive 'B', accessFlags := 0x411 }
/-- [B -/
def k11 : Class := { plain "[B" (some 0) with kind := .array 10 .byte, interfaces := #[7, 4], accessFlags := 1041 }

/-- the primitive int -/
def k12 : Class := { plain "int" none with kind := .primitive 'I', accessFlags := 0x411 }
/-- [I -/
def k13 : Class := { plain "[I" (some 0) with kind := .array 12 .int, interfaces := #[7, 4], accessFlags := 1041 }

/-- [Lcom/example/isogloss/isogloss/languages/idl/Symbol$Kind; -/
def k14 : Class := { plain "[Lcom/example/isogloss/isogloss/languages/idl/Symbol$Kind;" (some 0) with kind := .array 6 (.object "com/example/isogloss/isogloss/languages/idl/Symbol$Kind"), interfaces := #[7, 4], accessFlags := 1041 }

def heap : Heap := #[{ cls := 6, slots := #[.ref 1, .ref 2, .ref 3, .ref 4, .ref 5, .ref 6, .ref 7, .ref 8, .ref 9, .ref 10, .ref 11, .ref 12, .ref 13, .ref 14, .null], vm := .statics 6 },
  { cls := 6, slots := #[.null, .int 0, .int 0, .null], vm := .none },
  { cls := 6, slots := #[.null, .int 1, .int 0, .null], vm := .none },
  { cls := 6, slots := #[.null, .int 2, .int 0, .null], vm := .none },
  { cls := 6, slots := #[.null, .int 3, .int 0, .null], vm := .none },
  { cls := 6, slots := #[.null, .int 4, .int 0, .null], vm := .none },
  { cls := 6, slots := #[.null, .int 5, .int 0, .null], vm := .none },
  { cls := 6, slots := #[.null, .int 6, .int 0, .null], vm := .none },
  { cls := 6, slots := #[.null, .int 7, .int 0, .null], vm := .none },
  { cls := 6, slots := #[.null, .int 8, .int 0, .null], vm := .none },
  { cls := 6, slots := #[.null, .int 9, .int 0, .null], vm := .none },
  { cls := 6, slots := #[.null, .int 10, .int 0, .null], vm := .none },
  { cls := 6, slots := #[.null, .int 11, .int 0, .null], vm := .none },
  { cls := 6, slots := #[.null, .int 12, .int 0, .null], vm := .none },
  { cls := 6, slots := #[.null, .int 13, .int 0, .null], vm := .none }]
def classes : Array Class := #[k0, k1, k2, k3, k4, k5, k6, k7, k8, k9, k10, k11, k12, k13, k14]
def interned : List (Array UInt16 × Addr) := []
def slotsUsed : Nat := 71
def theMethod : MethodId := ⟨1, 1⟩
def args0 : Array Value := #[.int 6]
def aboutOver (below : List Frame) : State where
  vm := { classes := classes, interned := interned.toArray }
  heap := heap
  slotsUsed := slotsUsed
  threads := #[{ frames := .invoking theMethod args0 :: below }]
def below0 : List Frame := [.native { method := ⟨0, 0⟩, args := #[] }]
def about1 : State := aboutOver below0
def p0 : Program := .bare "" "" ""
def e0 : Env := launch0.env 0 0 0
theorem w_frames : about1.frames = Frame.invoking theMethod args0 :: below0 := rfl
set_option maxRecDepth 65536 in
theorem w_args : argsFit about1.vm theMethod args0 = true := by decide +kernel
set_option maxRecDepth 65536 in
theorem w_heap : heapFits about1 = true := by decide +kernel
set_option maxRecDepth 65536 in
theorem w_runnable : about1.curStatus? = some .runnable := by decide +kernel
set_option maxRecDepth 65536 in
theorem w_alone : about1.alone = true := by decide +kernel
set_option maxRecDepth 65536 in
theorem w_named : about1.methodNamed? x = some theMethod := by decide +kernel
set_option maxRecDepth 65536 in
theorem w_hears : about1.hears theMethod below0 = true := by decide +kernel
set_option maxRecDepth 65536 in
theorem w_ripe : about1.ripe theMethod args0 below0 = true := by decide +kernel
theorem w_running : about1.status = .running := rfl
set_option maxRecDepth 65536 in
theorem w_room : about1.hasRoom e0.platform room_1 = true :=
  launch0.hasRoom_least _ room_1 (by decide +kernel) (by decide +kernel) (by decide +kernel) (by decide +kernel) (by decide +kernel) (by decide +kernel)
theorem allAtoms_all (ts : List Jvm.Cond) (a : Array Jvm.Value) (st : Jvm.State) : (allAtoms ts).before a st = ts.all (fun c => c.before a st) := by
  induction ts with
  | nil => rfl
  | cons c t ih =>
    show (Jvm.Cond.and c (allAtoms t)).before a st = _
    rw [Jvm.Cond.before_and, ih, List.all_cons]
def words1 : List Jvm.Cond := Jvm.Cond.code x code maxLocals ret :: tables_1
/-- a 'code' word, met by the world's own term for the bytes: nothing is compared byte by byte -/
theorem code_word {y : MethodName} {bytes : ByteArray} {mx : Nat} {rt : Option FieldType} {a : Array Value} {s : State} {m : MethodId} {meth : Method} {c : Code} (h1 : s.methodNamed? y = some m) (h2 : s.vm.method? m = some meth) (h3 : meth.code = some c) (h4 : c.code = bytes)
    (h5 : (c.maxLocals == mx && c.exceptionTable.isEmpty && decide (c.maxStack ≤ mostOperands) && decide (meth.sig.returnType = rt) && !meth.locks && decide (parseMethodDescriptor y.desc = some meth.sig)) = true) : (Jvm.Cond.code y bytes mx rt).before a s = true := by
  simp only [Bool.and_eq_true, beq_iff_eq, Bool.not_eq_true', decide_eq_true_eq] at h5
  obtain ⟨⟨⟨⟨⟨g1, g2⟩, g3⟩, g4⟩, g5⟩, g6⟩ := h5
  simp [Cond.before, Cond.holds, Cond.value, h1, h2, h3, h4, g1, g2, g3, g4, g5, g6]
def isCode : Jvm.Cond → Bool
  | .code _ _ _ _ => true
  | _ => false
theorem all_split {L : List Jvm.Cond} {P : Jvm.Cond → Bool} (h1 : L.all (fun c => isCode c || P c) = true) (h2 : ∀ c ∈ L.filter isCode, P c = true) : L.all P = true := by
  refine List.all_eq_true.mpr fun c hc => ?_
  have h := List.all_eq_true.mp h1 c hc
  rcases Bool.eq_false_or_eq_true (isCode c) with hi | hi
  · exact h2 c (List.mem_filter.mpr ⟨hc, hi⟩)
  · simpa [hi] using h
set_option maxRecDepth 65536 in
theorem w_c0 : (Jvm.Cond.code x code maxLocals ret).before args0 about1 = true := code_word (m := ⟨1, 1⟩) (meth := k1m1) (c := k1c1) (by decide +kernel) rfl rfl rfl (by decide +kernel)
set_option maxRecDepth 65536 in
theorem w_c1 : (Jvm.Cond.code ({ cls := "com/example/isogloss/isogloss/languages/idl/Symbol$Kind", name := "guardsItsName", desc := "()Z" } : Jvm.MethodName) prog_70_method_8_code (1 : Nat) (Option.some Jvm.ClassFile.FieldType.boolean)).before args0 about1 = true := code_word (m := ⟨6, 0⟩) (meth := k6m0) (c := k6c0) (by decide +kernel) rfl rfl rfl (by decide +kernel)
def codes1 : List Jvm.Cond := [Jvm.Cond.code x code maxLocals ret, Jvm.Cond.code ({ cls := "com/example/isogloss/isogloss/languages/idl/Symbol$Kind", name := "guardsItsName", desc := "()Z" } : Jvm.MethodName) prog_70_method_8_code (1 : Nat) (Option.some Jvm.ClassFile.FieldType.boolean)]
set_option maxRecDepth 65536 in
theorem codes_eq : words1.filter isCode = codes1 := rfl
theorem w_codes : ∀ c ∈ words1.filter isCode, c.before args0 about1 = true := by
  rw [codes_eq]
  intro c hc
  simp only [codes1, List.mem_cons, List.not_mem_nil, or_false] at hc
  rcases hc with rfl | rfl
  · exact w_c0
  · exact w_c1
set_option maxRecDepth 65536 in
theorem w_t1 : (words1.take 24).all (fun c => isCode c || c.before args0 about1) = true := by decide +kernel
set_option maxRecDepth 65536 in
theorem w_t2 : (words1.drop 24).all (fun c => isCode c || c.before args0 about1) = true := by decide +kernel
theorem w_tables : (allAtoms (Jvm.Cond.code x code maxLocals ret :: tables_1)).before args0 about1 = true := by
  rw [allAtoms_all]
  show words1.all (fun c => c.before args0 about1) = true
  refine all_split ?_ w_codes
  rw [← List.take_append_drop 24 words1, List.all_append, w_t1, w_t2]
  rfl
set_option maxRecDepth 65536 in
theorem w_case : (Jvm.Cond.and given_1 narrow_1).before args0 about1 = true := by decide +kernel
theorem w_applies : (headSpec (Jvm.Cond.code x code maxLocals ret :: tables_1) room_1).applies x e0.platform about1 = true :=
  (Spec.applies_iff w_frames).mpr ⟨w_running, w_runnable, w_alone, w_named, w_hears, w_ripe, w_room, w_tables⟩
theorem atStart : AtStart classFile x code maxLocals ret World_1 tables_1 room_1 Calls_1 rest_1 Pre_1 launch0 p0 e0 about1 theMethod args0 below0 :=
  ⟨lists_1, trivial, launch0.admits_env _ _ _, launch0.least_env, fairChoices_fair.cas, fairChoices_fair.clock, w_frames, w_args, w_heap, w_applies, trivial, trivial, w_case⟩
end start1
theorem witness_1 : WitnessClaimed_1 := ⟨start1.p0, start1.e0, start1.about1, start1.theMethod, start1.args0, start1.below0, start1.atStart⟩
end Jvm.Pilot.@@N@@
