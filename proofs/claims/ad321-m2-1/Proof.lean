import JvmDerived
import JvmDerived.Pilot.@@N@@Statement
import JvmDerived.Pilot.@@N@@Code
set_option linter.unusedVariables false
set_option linter.unusedSimpArgs false
namespace Jvm.RoadKit
open Sem ClassFile Op Lib Jvm.Stand Jvm.Free Jvm.LawKit
section New
variable {p : Program} {l : Launch} {e : Env} {R : Room} {s : State} {m : MethodId} {args : Array Value} {below : List Frame} {meth : Method} {c : Code} {T : State} {locs : List Loc} {cells slots : Nat}
theorem retI (X : Stand p l e R s m args below meth c T locs cells slots) (hx : p.tables.exec = Jvm.exec) {pc : Nat} {Ls : Array Slot} {z : Int32} {rest : List Value} (hret : meth.sig.returnType = some .int) (hd : decode c.code pc = .ok (.ireturn, 1)) {fs : List Frame}
    (hl : ∀ (f : JFrame) (acts : List Action), f.method = m → f.locked = none → f.entered = [] → (doReturn e (T.setTop f) acts (some (.int z))).1 = T.setFrames fs) : Steps p.tables e below (T.setTop (mkF m pc Ls (.int z :: rest))) (T.setFrames fs) := by
  have hm' : T.vm.method? m = some meth := X.method'
  have hn : narrow .int (.int z) = .int z := rfl
  show Steps p.tables e below (T.setTop { method := m, pc := pc, locals := Ls, stack := _ :: rest, locked := none }) _
  jvm_step X.here [X.here.top, hx, hd, hm', hret, hn]
  first | (intro acts; rw [hl _ acts rfl rfl rfl]) | rw [hl _ _ rfl rfl rfl]
  exact Steps.refl _
end New
end Jvm.RoadKit
namespace Jvm.Pilot.@@N@@
open Jvm Jvm.ClassFile Sem Op Lib Jvm.Free Jvm.Stand Jvm.LawKit Jvm.RoadKit Bundle Jvm.Pilot.@@N@@.Jvm.D
theorem pn_1 : plainName "com/example/watermark/watermark/server/TransactionState$Phase" = true := by first | (simp [plainName, overriddenIn]; done) | decide +kernel
theorem ef_1 (m : MethodId) (x0 : Addr) : entryFrame m #[(.ref x0)] 1 = mkF m 0 #[.val (.ref x0)] [] := by first | (simp [entryFrame, mkF, argsToLocals, Value.category]; done) | rfl
theorem d1_0 : decode prog_120_method_6_code 0 = .ok (.aload_n 0, 1) := by decide +kernel
theorem d1_1 : decode prog_120_method_6_code 1 = .ok (.getstatic 10, 3) := by decide +kernel
theorem d1_4 : decode prog_120_method_6_code 4 = .ok (.if_acmp .eq 10, 3) := by decide +kernel
theorem d1_14 : decode prog_120_method_6_code 14 = .ok (.iconst 1, 1) := by decide +kernel
theorem d1_15 : decode prog_120_method_6_code 15 = .ok (.goto 4, 3) := by decide +kernel
theorem d1_19 : decode prog_120_method_6_code 19 = .ok (.ireturn, 1) := by decide +kernel
def Q1c (Z : State) (a1 v2 v3 : Addr) (h0 : Heap) (n0 : Nat) (v : Option Value) (h : Heap) (L : List Loc) : Prop := v = some (.int (1 : Int32)) ∧ Fr n0 L ∧ h = h0
set_option maxRecDepth 65536 in
set_option maxHeartbeats 40000000 in
theorem rm1c (l : Launch) (Z : State) (a0 : Array Value) (hw : ∀ d ∈ tables_1, d.before a0 Z = true) (ws : List Jvm.Cond) (a1 v2 v3 : Addr) (h0 : Heap) (n0 : Nat) (Z0 : n0 ≤ h0.size) (S2 : Sta Z h0 "com/example/watermark/watermark/server/TransactionState$Phase" "PREPARE_COMMIT" "Lcom/example/watermark/watermark/server/TransactionState$Phase;" (.ref v2)) (S3 : Sta Z h0 "com/example/watermark/watermark/server/TransactionState$Phase" "PREPARE_ABORT" "Lcom/example/watermark/watermark/server/TransactionState$Phase;" (.ref v3)) (h2 : a1 = v2) :
    MetFree l (⟨"com/example/watermark/watermark/server/TransactionState$Phase", "isEnding", "()Z"⟩ : MethodName) (head1 (Jvm.Cond.code (⟨"com/example/watermark/watermark/server/TransactionState$Phase", "isEnding", "()Z"⟩ : MethodName) prog_120_method_6_code 1 (some .boolean) :: ws) ({ frames := 0, cells := 0, slots := 0, locals := 0 } : Room)) (fun a U => a = #[(.ref a1)] ∧ Z.Warmed39 U.vm ∧ U.heap = h0) (fun _ _ _ _ _ => True) (fun _ U o U' => ∃ v L, o = .returned v ∧ Q1c Z a1 v2 v3 h0 n0 v U'.heap L ∧ FrameEnd U o U' L ({ frames := 0, cells := 0, slots := 0, locals := 0 } : Room).cells ({ frames := 0, cells := 0, slots := 0, locals := 0 } : Room).slots) := by
  refine MetFree.of_bodySF (plainFor_of_name pn_1) hisR ?_
  intro p e s m args below meth c s₁ Bd hml0 hP hK
  obtain ⟨rfl, hZ, hh⟩ := hP
  have hx := Bd.exec
  have hby := Bd.bytes
  have hml : c.maxLocals = 1 := hml0
  have hown : s.vm.findClass "com/example/watermark/watermark/server/TransactionState$Phase" = some m.cls := findClass_of_methodNamed Bd.named
  have hnm := (name_of_methodNamed Bd.named Bd.method).1
  have X0 : Stand p l e ({ frames := 0, cells := 0, slots := 0, locals := 0 } : Room) s m #[(.ref a1)] below meth c s₁ [] 0 0 := Stand.of_body Bd
  have e0 : s₁.heap = h0 := by rw [← hh, Bd.state]; rfl
  have N0 := Fr.nil n0
  have pre0 : ∀ t, Steps p.tables e below (s₁.setTop (mkF m 0 #[.val (.ref a1)] [])) t → Steps p.tables e below (s₁.setTop (entryFrame m #[(.ref a1)] 1)) t := fun t k => castTop (ef_1 m a1) k
  have P1 : ∀ t, Steps p.tables e below (s₁.setTop (mkF m 1 #[.val (.ref a1)] [(.ref a1)])) t → Steps p.tables e below (s₁.setTop (mkF m 0 #[.val (.ref a1)] [])) t := fun t k => by
    show Steps p.tables e below (s₁.setTop (mkF m 0 #[.val (.ref a1)] [])) t
    refine XS.aloadN X0.here hx rfl (hb hby d1_0) rfl rfl ?_
    exact k
  obtain ⟨T2, X2, e2, st2⟩ := getS2 X0 hx hZ hown (host := "") (Or.inl (hw _ (List.mem_of_getElem? (i := 22) rfl))) Via.refl e0 S2 (g := (mkF m 1 #[.val (.ref a1)] [(.ref a1)])) rfl (hb hby d1_1)
  have P3 : ∀ t, Steps p.tables e below (T2.setTop (mkF m 4 #[.val (.ref a1)] [(.ref v2), (.ref a1)])) t → Steps p.tables e below (s₁.setTop (mkF m 0 #[.val (.ref a1)] [])) t := fun t k => P1 t (st2 _ k)
  have P4 : ∀ t, Steps p.tables e below (T2.setTop (mkF m 19 #[.val (.ref a1)] [(.int (1 : Int32))])) t → Steps p.tables e below (s₁.setTop (mkF m 0 #[.val (.ref a1)] [])) t := fun t k => by
    refine P3 t ?_
    show Steps p.tables e below (T2.setTop (mkF m 4 #[.val (.ref a1)] [(.ref v2), (.ref a1)])) t
    refine Jvm.RoadKit.acmp (g := (mkF m 4 #[.val (.ref a1)] [(.ref v2), (.ref a1)])) X2 hx rfl rfl rfl (pc0 := 4) (pc' := 14) (same := true) rfl (hb hby d1_4) rfl (decide_eq_true (congrArg Value.ref h2)) (by decide) (by decide) ?_
    show Steps p.tables e below (T2.setTop (mkF m 14 #[.val (.ref a1)] [])) t
    refine XS.iconst X2.here hx rfl (hb hby d1_14) ?_
    show Steps p.tables e below (T2.setTop (mkF m 15 #[.val (.ref a1)] [(.int (1 : Int32))])) t
    refine XS.goto X2.here hx rfl (pc0 := 15) (pc' := 19) rfl (hb hby d1_15) (by decide) (by decide) ?_
    exact k
  obtain ⟨fs, hr, hrun, hended, hW, hsame⟩ := X2.leave (v := some (.int (1 : Int32))) (fun h => by rw [Bd.returns] at h; cases h)
  refine ⟨_, _, pre0 _ (P4 _ ?_), hrun, hended, _, _, rfl, ?_, ⟨_, rfl⟩, hW, hsame.mono (by decide) (by decide)⟩
  · exact retN X2 hx (t := .boolean) Bd.returns (by simp) (hb hby d1_19) hr
  · show Q1c Z a1 v2 v3 h0 n0 _ T2.heap _
    rw [e2]
    exact ⟨rfl, N0, rfl⟩
theorem d1_7 : decode prog_120_method_6_code 7 = .ok (.aload_n 0, 1) := by decide +kernel
theorem d1_8 : decode prog_120_method_6_code 8 = .ok (.getstatic 13, 3) := by decide +kernel
theorem d1_11 : decode prog_120_method_6_code 11 = .ok (.if_acmp .ne 7, 3) := by decide +kernel
def Q1s (Z : State) (a1 v2 v3 : Addr) (h0 : Heap) (n0 : Nat) (v : Option Value) (h : Heap) (L : List Loc) : Prop := v = some (.int (1 : Int32)) ∧ Fr n0 L ∧ h = h0
set_option maxRecDepth 65536 in
set_option maxHeartbeats 40000000 in
theorem rm1s (l : Launch) (Z : State) (a0 : Array Value) (hw : ∀ d ∈ tables_1, d.before a0 Z = true) (ws : List Jvm.Cond) (a1 v2 v3 : Addr) (h0 : Heap) (n0 : Nat) (Z0 : n0 ≤ h0.size) (S2 : Sta Z h0 "com/example/watermark/watermark/server/TransactionState$Phase" "PREPARE_COMMIT" "Lcom/example/watermark/watermark/server/TransactionState$Phase;" (.ref v2)) (S3 : Sta Z h0 "com/example/watermark/watermark/server/TransactionState$Phase" "PREPARE_ABORT" "Lcom/example/watermark/watermark/server/TransactionState$Phase;" (.ref v3)) (h2 : ¬ a1 = v2) (h3 : a1 = v3) :
    MetFree l (⟨"com/example/watermark/watermark/server/TransactionState$Phase", "isEnding", "()Z"⟩ : MethodName) (head1 (Jvm.Cond.code (⟨"com/example/watermark/watermark/server/TransactionState$Phase", "isEnding", "()Z"⟩ : MethodName) prog_120_method_6_code 1 (some .boolean) :: ws) ({ frames := 0, cells := 0, slots := 0, locals := 0 } : Room)) (fun a U => a = #[(.ref a1)] ∧ Z.Warmed39 U.vm ∧ U.heap = h0) (fun _ _ _ _ _ => True) (fun _ U o U' => ∃ v L, o = .returned v ∧ Q1s Z a1 v2 v3 h0 n0 v U'.heap L ∧ FrameEnd U o U' L ({ frames := 0, cells := 0, slots := 0, locals := 0 } : Room).cells ({ frames := 0, cells := 0, slots := 0, locals := 0 } : Room).slots) := by
  refine MetFree.of_bodySF (plainFor_of_name pn_1) hisR ?_
  intro p e s m args below meth c s₁ Bd hml0 hP hK
  obtain ⟨rfl, hZ, hh⟩ := hP
  have hx := Bd.exec
  have hby := Bd.bytes
  have hml : c.maxLocals = 1 := hml0
  have hown : s.vm.findClass "com/example/watermark/watermark/server/TransactionState$Phase" = some m.cls := findClass_of_methodNamed Bd.named
  have hnm := (name_of_methodNamed Bd.named Bd.method).1
  have X0 : Stand p l e ({ frames := 0, cells := 0, slots := 0, locals := 0 } : Room) s m #[(.ref a1)] below meth c s₁ [] 0 0 := Stand.of_body Bd
  have e0 : s₁.heap = h0 := by rw [← hh, Bd.state]; rfl
  have N0 := Fr.nil n0
  have pre0 : ∀ t, Steps p.tables e below (s₁.setTop (mkF m 0 #[.val (.ref a1)] [])) t → Steps p.tables e below (s₁.setTop (entryFrame m #[(.ref a1)] 1)) t := fun t k => castTop (ef_1 m a1) k
  have P1 : ∀ t, Steps p.tables e below (s₁.setTop (mkF m 1 #[.val (.ref a1)] [(.ref a1)])) t → Steps p.tables e below (s₁.setTop (mkF m 0 #[.val (.ref a1)] [])) t := fun t k => by
    show Steps p.tables e below (s₁.setTop (mkF m 0 #[.val (.ref a1)] [])) t
    refine XS.aloadN X0.here hx rfl (hb hby d1_0) rfl rfl ?_
    exact k
  obtain ⟨T2, X2, e2, st2⟩ := getS2 X0 hx hZ hown (host := "") (Or.inl (hw _ (List.mem_of_getElem? (i := 22) rfl))) Via.refl e0 S2 (g := (mkF m 1 #[.val (.ref a1)] [(.ref a1)])) rfl (hb hby d1_1)
  have P3 : ∀ t, Steps p.tables e below (T2.setTop (mkF m 4 #[.val (.ref a1)] [(.ref v2), (.ref a1)])) t → Steps p.tables e below (s₁.setTop (mkF m 0 #[.val (.ref a1)] [])) t := fun t k => P1 t (st2 _ k)
  have P4 : ∀ t, Steps p.tables e below (T2.setTop (mkF m 8 #[.val (.ref a1)] [(.ref a1)])) t → Steps p.tables e below (s₁.setTop (mkF m 0 #[.val (.ref a1)] [])) t := fun t k => by
    refine P3 t ?_
    show Steps p.tables e below (T2.setTop (mkF m 4 #[.val (.ref a1)] [(.ref v2), (.ref a1)])) t
    refine Jvm.RoadKit.acmp (g := (mkF m 4 #[.val (.ref a1)] [(.ref v2), (.ref a1)])) X2 hx rfl rfl rfl (pc0 := 4) (pc' := 7) (same := false) rfl (hb hby d1_4) rfl (decide_eq_false fun q => h2 (Value.ref.inj q)) (by decide) (by decide) ?_
    show Steps p.tables e below (T2.setTop (mkF m 7 #[.val (.ref a1)] [])) t
    refine XS.aloadN X2.here hx rfl (hb hby d1_7) rfl rfl ?_
    exact k
  obtain ⟨T5, X5, e5, st5⟩ := getS2 X2 hx hZ hown (host := "") (Or.inl (hw _ (List.mem_of_getElem? (i := 23) rfl))) Via.refl e2 S3 (g := (mkF m 8 #[.val (.ref a1)] [(.ref a1)])) rfl (hb hby d1_8)
  have P6 : ∀ t, Steps p.tables e below (T5.setTop (mkF m 11 #[.val (.ref a1)] [(.ref v3), (.ref a1)])) t → Steps p.tables e below (s₁.setTop (mkF m 0 #[.val (.ref a1)] [])) t := fun t k => P4 t (st5 _ k)
  have P7 : ∀ t, Steps p.tables e below (T5.setTop (mkF m 19 #[.val (.ref a1)] [(.int (1 : Int32))])) t → Steps p.tables e below (s₁.setTop (mkF m 0 #[.val (.ref a1)] [])) t := fun t k => by
    refine P6 t ?_
    show Steps p.tables e below (T5.setTop (mkF m 11 #[.val (.ref a1)] [(.ref v3), (.ref a1)])) t
    refine Jvm.RoadKit.acmp (g := (mkF m 11 #[.val (.ref a1)] [(.ref v3), (.ref a1)])) X5 hx rfl rfl rfl (pc0 := 11) (pc' := 14) (same := true) rfl (hb hby d1_11) rfl (decide_eq_true (congrArg Value.ref h3)) (by decide) (by decide) ?_
    show Steps p.tables e below (T5.setTop (mkF m 14 #[.val (.ref a1)] [])) t
    refine XS.iconst X5.here hx rfl (hb hby d1_14) ?_
    show Steps p.tables e below (T5.setTop (mkF m 15 #[.val (.ref a1)] [(.int (1 : Int32))])) t
    refine XS.goto X5.here hx rfl (pc0 := 15) (pc' := 19) rfl (hb hby d1_15) (by decide) (by decide) ?_
    exact k
  obtain ⟨fs, hr, hrun, hended, hW, hsame⟩ := X5.leave (v := some (.int (1 : Int32))) (fun h => by rw [Bd.returns] at h; cases h)
  refine ⟨_, _, pre0 _ (P7 _ ?_), hrun, hended, _, _, rfl, ?_, ⟨_, rfl⟩, hW, hsame.mono (by decide) (by decide)⟩
  · exact retN X5 hx (t := .boolean) Bd.returns (by simp) (hb hby d1_19) hr
  · show Q1s Z a1 v2 v3 h0 n0 _ T5.heap _
    rw [e5]
    exact ⟨rfl, N0, rfl⟩
theorem d1_18 : decode prog_120_method_6_code 18 = .ok (.iconst 0, 1) := by decide +kernel
def Q1n (Z : State) (a1 v2 v3 : Addr) (h0 : Heap) (n0 : Nat) (v : Option Value) (h : Heap) (L : List Loc) : Prop := v = some (.int (0 : Int32)) ∧ Fr n0 L ∧ h = h0
set_option maxRecDepth 65536 in
set_option maxHeartbeats 40000000 in
theorem rm1n (l : Launch) (Z : State) (a0 : Array Value) (hw : ∀ d ∈ tables_1, d.before a0 Z = true) (ws : List Jvm.Cond) (a1 v2 v3 : Addr) (h0 : Heap) (n0 : Nat) (Z0 : n0 ≤ h0.size) (S2 : Sta Z h0 "com/example/watermark/watermark/server/TransactionState$Phase" "PREPARE_COMMIT" "Lcom/example/watermark/watermark/server/TransactionState$Phase;" (.ref v2)) (S3 : Sta Z h0 "com/example/watermark/watermark/server/TransactionState$Phase" "PREPARE_ABORT" "Lcom/example/watermark/watermark/server/TransactionState$Phase;" (.ref v3)) (h2 : ¬ a1 = v2) (h3 : ¬ a1 = v3) :
    MetFree l (⟨"com/example/watermark/watermark/server/TransactionState$Phase", "isEnding", "()Z"⟩ : MethodName) (head1 (Jvm.Cond.code (⟨"com/example/watermark/watermark/server/TransactionState$Phase", "isEnding", "()Z"⟩ : MethodName) prog_120_method_6_code 1 (some .boolean) :: ws) ({ frames := 0, cells := 0, slots := 0, locals := 0 } : Room)) (fun a U => a = #[(.ref a1)] ∧ Z.Warmed39 U.vm ∧ U.heap = h0) (fun _ _ _ _ _ => True) (fun _ U o U' => ∃ v L, o = .returned v ∧ Q1n Z a1 v2 v3 h0 n0 v U'.heap L ∧ FrameEnd U o U' L ({ frames := 0, cells := 0, slots := 0, locals := 0 } : Room).cells ({ frames := 0, cells := 0, slots := 0, locals := 0 } : Room).slots) := by
  refine MetFree.of_bodySF (plainFor_of_name pn_1) hisR ?_
  intro p e s m args below meth c s₁ Bd hml0 hP hK
  obtain ⟨rfl, hZ, hh⟩ := hP
  have hx := Bd.exec
  have hby := Bd.bytes
  have hml : c.maxLocals = 1 := hml0
  have hown : s.vm.findClass "com/example/watermark/watermark/server/TransactionState$Phase" = some m.cls := findClass_of_methodNamed Bd.named
  have hnm := (name_of_methodNamed Bd.named Bd.method).1
  have X0 : Stand p l e ({ frames := 0, cells := 0, slots := 0, locals := 0 } : Room) s m #[(.ref a1)] below meth c s₁ [] 0 0 := Stand.of_body Bd
  have e0 : s₁.heap = h0 := by rw [← hh, Bd.state]; rfl
  have N0 := Fr.nil n0
  have pre0 : ∀ t, Steps p.tables e below (s₁.setTop (mkF m 0 #[.val (.ref a1)] [])) t → Steps p.tables e below (s₁.setTop (entryFrame m #[(.ref a1)] 1)) t := fun t k => castTop (ef_1 m a1) k
  have P1 : ∀ t, Steps p.tables e below (s₁.setTop (mkF m 1 #[.val (.ref a1)] [(.ref a1)])) t → Steps p.tables e below (s₁.setTop (mkF m 0 #[.val (.ref a1)] [])) t := fun t k => by
    show Steps p.tables e below (s₁.setTop (mkF m 0 #[.val (.ref a1)] [])) t
    refine XS.aloadN X0.here hx rfl (hb hby d1_0) rfl rfl ?_
    exact k
  obtain ⟨T2, X2, e2, st2⟩ := getS2 X0 hx hZ hown (host := "") (Or.inl (hw _ (List.mem_of_getElem? (i := 22) rfl))) Via.refl e0 S2 (g := (mkF m 1 #[.val (.ref a1)] [(.ref a1)])) rfl (hb hby d1_1)
  have P3 : ∀ t, Steps p.tables e below (T2.setTop (mkF m 4 #[.val (.ref a1)] [(.ref v2), (.ref a1)])) t → Steps p.tables e below (s₁.setTop (mkF m 0 #[.val (.ref a1)] [])) t := fun t k => P1 t (st2 _ k)
  have P4 : ∀ t, Steps p.tables e below (T2.setTop (mkF m 8 #[.val (.ref a1)] [(.ref a1)])) t → Steps p.tables e below (s₁.setTop (mkF m 0 #[.val (.ref a1)] [])) t := fun t k => by
    refine P3 t ?_
    show Steps p.tables e below (T2.setTop (mkF m 4 #[.val (.ref a1)] [(.ref v2), (.ref a1)])) t
    refine Jvm.RoadKit.acmp (g := (mkF m 4 #[.val (.ref a1)] [(.ref v2), (.ref a1)])) X2 hx rfl rfl rfl (pc0 := 4) (pc' := 7) (same := false) rfl (hb hby d1_4) rfl (decide_eq_false fun q => h2 (Value.ref.inj q)) (by decide) (by decide) ?_
    show Steps p.tables e below (T2.setTop (mkF m 7 #[.val (.ref a1)] [])) t
    refine XS.aloadN X2.here hx rfl (hb hby d1_7) rfl rfl ?_
    exact k
  obtain ⟨T5, X5, e5, st5⟩ := getS2 X2 hx hZ hown (host := "") (Or.inl (hw _ (List.mem_of_getElem? (i := 23) rfl))) Via.refl e2 S3 (g := (mkF m 8 #[.val (.ref a1)] [(.ref a1)])) rfl (hb hby d1_8)
  have P6 : ∀ t, Steps p.tables e below (T5.setTop (mkF m 11 #[.val (.ref a1)] [(.ref v3), (.ref a1)])) t → Steps p.tables e below (s₁.setTop (mkF m 0 #[.val (.ref a1)] [])) t := fun t k => P4 t (st5 _ k)
  have P7 : ∀ t, Steps p.tables e below (T5.setTop (mkF m 19 #[.val (.ref a1)] [(.int (0 : Int32))])) t → Steps p.tables e below (s₁.setTop (mkF m 0 #[.val (.ref a1)] [])) t := fun t k => by
    refine P6 t ?_
    show Steps p.tables e below (T5.setTop (mkF m 11 #[.val (.ref a1)] [(.ref v3), (.ref a1)])) t
    refine Jvm.RoadKit.acmp (g := (mkF m 11 #[.val (.ref a1)] [(.ref v3), (.ref a1)])) X5 hx rfl rfl rfl (pc0 := 11) (pc' := 18) (same := false) rfl (hb hby d1_11) rfl (decide_eq_false fun q => h3 (Value.ref.inj q)) (by decide) (by decide) ?_
    show Steps p.tables e below (T5.setTop (mkF m 18 #[.val (.ref a1)] [])) t
    refine XS.iconst X5.here hx rfl (hb hby d1_18) ?_
    exact k
  obtain ⟨fs, hr, hrun, hended, hW, hsame⟩ := X5.leave (v := some (.int (0 : Int32))) (fun h => by rw [Bd.returns] at h; cases h)
  refine ⟨_, _, pre0 _ (P7 _ ?_), hrun, hended, _, _, rfl, ?_, ⟨_, rfl⟩, hW, hsame.mono (by decide) (by decide)⟩
  · exact retN X5 hx (t := .boolean) Bd.returns (by simp) (hb hby d1_19) hr
  · show Q1n Z a1 v2 v3 h0 n0 _ T5.heap _
    rw [e5]
    exact ⟨rfl, N0, rfl⟩
theorem pn_2 : plainName "com/example/watermark/watermark/server/TransactionState$Phase" = true := by first | (simp [plainName, overriddenIn]; done) | decide +kernel
theorem ef_2 (m : MethodId) (x0 : Int32) : entryFrame m #[(.int x0)] 1 = mkF m 0 #[.val (.int x0)] [] := by first | (simp [entryFrame, mkF, argsToLocals, Value.category]; done) | rfl
theorem d2_0 : decode prog_120_method_4_code 0 = .ok (.iload_n 0, 1) := by decide +kernel
theorem d2_1 : decode prog_120_method_4_code 1 = .ok (.ifCond .eq 9, 3) := by decide +kernel
theorem d2_4 : decode prog_120_method_4_code 4 = .ok (.getstatic 10, 3) := by decide +kernel
theorem d2_7 : decode prog_120_method_4_code 7 = .ok (.goto 6, 3) := by decide +kernel
theorem d2_13 : decode prog_120_method_4_code 13 = .ok (.areturn, 1) := by decide +kernel
def Q2t (Z : State) (p1 : Int32) (v2 : Addr) (h0 : Heap) (n0 : Nat) (v : Option Value) (h : Heap) (L : List Loc) : Prop := v = some (.ref v2) ∧ Fr n0 L ∧ h = h0
set_option maxRecDepth 65536 in
set_option maxHeartbeats 40000000 in
theorem rm2t (l : Launch) (Z : State) (a0 : Array Value) (hw : ∀ d ∈ tables_1, d.before a0 Z = true) (ws : List Jvm.Cond) (p1 : Int32) (v2 : Addr) (h0 : Heap) (n0 : Nat) (Z0 : n0 ≤ h0.size) (S2 : Sta Z h0 "com/example/watermark/watermark/server/TransactionState$Phase" "PREPARE_COMMIT" "Lcom/example/watermark/watermark/server/TransactionState$Phase;" (.ref v2)) (hk : ¬ p1 = 0) :
    MetFree l (⟨"com/example/watermark/watermark/server/TransactionState$Phase", "prepare", "(Z)Lcom/example/watermark/watermark/server/TransactionState$Phase;"⟩ : MethodName) (head1 (Jvm.Cond.code (⟨"com/example/watermark/watermark/server/TransactionState$Phase", "prepare", "(Z)Lcom/example/watermark/watermark/server/TransactionState$Phase;"⟩ : MethodName) prog_120_method_4_code 1 (some (.object "com/example/watermark/watermark/server/TransactionState$Phase")) :: ws) ({ frames := 0, cells := 0, slots := 0, locals := 0 } : Room)) (fun a U => a = #[(.int p1)] ∧ Z.Warmed39 U.vm ∧ U.heap = h0) (fun _ _ _ _ _ => True) (fun _ U o U' => ∃ v L, o = .returned v ∧ Q2t Z p1 v2 h0 n0 v U'.heap L ∧ FrameEnd U o U' L ({ frames := 0, cells := 0, slots := 0, locals := 0 } : Room).cells ({ frames := 0, cells := 0, slots := 0, locals := 0 } : Room).slots) := by
  refine MetFree.of_bodySF (plainFor_of_name pn_2) hisR ?_
  intro p e s m args below meth c s₁ Bd hml0 hP hK
  obtain ⟨rfl, hZ, hh⟩ := hP
  have hx := Bd.exec
  have hby := Bd.bytes
  have hml : c.maxLocals = 1 := hml0
  have hown : s.vm.findClass "com/example/watermark/watermark/server/TransactionState$Phase" = some m.cls := findClass_of_methodNamed Bd.named
  have hnm := (name_of_methodNamed Bd.named Bd.method).1
  have X0 : Stand p l e ({ frames := 0, cells := 0, slots := 0, locals := 0 } : Room) s m #[(.int p1)] below meth c s₁ [] 0 0 := Stand.of_body Bd
  have e0 : s₁.heap = h0 := by rw [← hh, Bd.state]; rfl
  have N0 := Fr.nil n0
  have pre0 : ∀ t, Steps p.tables e below (s₁.setTop (mkF m 0 #[.val (.int p1)] [])) t → Steps p.tables e below (s₁.setTop (entryFrame m #[(.int p1)] 1)) t := fun t k => castTop (ef_2 m p1) k
  have P1 : ∀ t, Steps p.tables e below (s₁.setTop (mkF m 4 #[.val (.int p1)] [])) t → Steps p.tables e below (s₁.setTop (mkF m 0 #[.val (.int p1)] [])) t := fun t k => by
    show Steps p.tables e below (s₁.setTop (mkF m 0 #[.val (.int p1)] [])) t
    refine XS.iloadN X0.here hx rfl (hb hby d2_0) rfl ?_
    show Steps p.tables e below (s₁.setTop (mkF m 1 #[.val (.int p1)] [(.int p1)])) t
    refine XS.ifNo X0.here hx rfl (hb hby d2_1) rfl ((if0 _ _).trans (feq hk).1) ?_
    exact k
  obtain ⟨T2, X2, e2, st2⟩ := getS2 X0 hx hZ hown (host := "") (Or.inl (hw _ (List.mem_of_getElem? (i := 22) rfl))) Via.refl e0 S2 (g := (mkF m 4 #[.val (.int p1)] [])) rfl (hb hby d2_4)
  have P3 : ∀ t, Steps p.tables e below (T2.setTop (mkF m 7 #[.val (.int p1)] [(.ref v2)])) t → Steps p.tables e below (s₁.setTop (mkF m 0 #[.val (.int p1)] [])) t := fun t k => P1 t (st2 _ k)
  have P4 : ∀ t, Steps p.tables e below (T2.setTop (mkF m 13 #[.val (.int p1)] [(.ref v2)])) t → Steps p.tables e below (s₁.setTop (mkF m 0 #[.val (.int p1)] [])) t := fun t k => by
    refine P3 t ?_
    show Steps p.tables e below (T2.setTop (mkF m 7 #[.val (.int p1)] [(.ref v2)])) t
    refine XS.goto X2.here hx rfl (pc0 := 7) (pc' := 13) rfl (hb hby d2_7) (by decide) (by decide) ?_
    exact k
  obtain ⟨fs, hr, hrun, hended, hW, hsame⟩ := X2.leave (v := some (.ref v2)) (fun h => by rw [Bd.returns] at h; cases h)
  refine ⟨_, _, pre0 _ (P4 _ ?_), hrun, hended, _, _, rfl, ?_, ⟨_, rfl⟩, hW, hsame.mono (by decide) (by decide)⟩
  · jvm_step X2.here [X2.here.top, hx, (hb hby d2_13), X2.method', Bd.returns, Value.isRef, FieldType.isReference]
    first | (intro acts; rw [hr _ acts rfl rfl rfl]) | rw [hr _ _ rfl rfl rfl]
    exact Steps.refl _
  · show Q2t Z p1 v2 h0 n0 _ T2.heap _
    rw [e2]
    exact ⟨rfl, N0, rfl⟩
theorem d2_10 : decode prog_120_method_4_code 10 = .ok (.getstatic 13, 3) := by decide +kernel
def Q2f (Z : State) (p1 : Int32) (v3 : Addr) (h0 : Heap) (n0 : Nat) (v : Option Value) (h : Heap) (L : List Loc) : Prop := v = some (.ref v3) ∧ Fr n0 L ∧ h = h0
set_option maxRecDepth 65536 in
set_option maxHeartbeats 40000000 in
theorem rm2f (l : Launch) (Z : State) (a0 : Array Value) (hw : ∀ d ∈ tables_1, d.before a0 Z = true) (ws : List Jvm.Cond) (p1 : Int32) (v3 : Addr) (h0 : Heap) (n0 : Nat) (Z0 : n0 ≤ h0.size) (S3 : Sta Z h0 "com/example/watermark/watermark/server/TransactionState$Phase" "PREPARE_ABORT" "Lcom/example/watermark/watermark/server/TransactionState$Phase;" (.ref v3)) (hk : p1 = 0) :
    MetFree l (⟨"com/example/watermark/watermark/server/TransactionState$Phase", "prepare", "(Z)Lcom/example/watermark/watermark/server/TransactionState$Phase;"⟩ : MethodName) (head1 (Jvm.Cond.code (⟨"com/example/watermark/watermark/server/TransactionState$Phase", "prepare", "(Z)Lcom/example/watermark/watermark/server/TransactionState$Phase;"⟩ : MethodName) prog_120_method_4_code 1 (some (.object "com/example/watermark/watermark/server/TransactionState$Phase")) :: ws) ({ frames := 0, cells := 0, slots := 0, locals := 0 } : Room)) (fun a U => a = #[(.int p1)] ∧ Z.Warmed39 U.vm ∧ U.heap = h0) (fun _ _ _ _ _ => True) (fun _ U o U' => ∃ v L, o = .returned v ∧ Q2f Z p1 v3 h0 n0 v U'.heap L ∧ FrameEnd U o U' L ({ frames := 0, cells := 0, slots := 0, locals := 0 } : Room).cells ({ frames := 0, cells := 0, slots := 0, locals := 0 } : Room).slots) := by
  refine MetFree.of_bodySF (plainFor_of_name pn_2) hisR ?_
  intro p e s m args below meth c s₁ Bd hml0 hP hK
  obtain ⟨rfl, hZ, hh⟩ := hP
  have hx := Bd.exec
  have hby := Bd.bytes
  have hml : c.maxLocals = 1 := hml0
  have hown : s.vm.findClass "com/example/watermark/watermark/server/TransactionState$Phase" = some m.cls := findClass_of_methodNamed Bd.named
  have hnm := (name_of_methodNamed Bd.named Bd.method).1
  have X0 : Stand p l e ({ frames := 0, cells := 0, slots := 0, locals := 0 } : Room) s m #[(.int p1)] below meth c s₁ [] 0 0 := Stand.of_body Bd
  have e0 : s₁.heap = h0 := by rw [← hh, Bd.state]; rfl
  have N0 := Fr.nil n0
  have pre0 : ∀ t, Steps p.tables e below (s₁.setTop (mkF m 0 #[.val (.int p1)] [])) t → Steps p.tables e below (s₁.setTop (entryFrame m #[(.int p1)] 1)) t := fun t k => castTop (ef_2 m p1) k
  have P1 : ∀ t, Steps p.tables e below (s₁.setTop (mkF m 10 #[.val (.int p1)] [])) t → Steps p.tables e below (s₁.setTop (mkF m 0 #[.val (.int p1)] [])) t := fun t k => by
    show Steps p.tables e below (s₁.setTop (mkF m 0 #[.val (.int p1)] [])) t
    refine XS.iloadN X0.here hx rfl (hb hby d2_0) rfl ?_
    show Steps p.tables e below (s₁.setTop (mkF m 1 #[.val (.int p1)] [(.int p1)])) t
    refine XS.ifYes X0.here hx rfl (pc0 := 1) (pc' := 10) rfl (hb hby d2_1) rfl ((if0 _ _).trans (teq hk).1) (by decide) (by decide) ?_
    exact k
  obtain ⟨T2, X2, e2, st2⟩ := getS2 X0 hx hZ hown (host := "") (Or.inl (hw _ (List.mem_of_getElem? (i := 23) rfl))) Via.refl e0 S3 (g := (mkF m 10 #[.val (.int p1)] [])) rfl (hb hby d2_10)
  have P3 : ∀ t, Steps p.tables e below (T2.setTop (mkF m 13 #[.val (.int p1)] [(.ref v3)])) t → Steps p.tables e below (s₁.setTop (mkF m 0 #[.val (.int p1)] [])) t := fun t k => P1 t (st2 _ k)
  obtain ⟨fs, hr, hrun, hended, hW, hsame⟩ := X2.leave (v := some (.ref v3)) (fun h => by rw [Bd.returns] at h; cases h)
  refine ⟨_, _, pre0 _ (P3 _ ?_), hrun, hended, _, _, rfl, ?_, ⟨_, rfl⟩, hW, hsame.mono (by decide) (by decide)⟩
  · jvm_step X2.here [X2.here.top, hx, (hb hby d2_13), X2.method', Bd.returns, Value.isRef, FieldType.isReference]
    first | (intro acts; rw [hr _ acts rfl rfl rfl]) | rw [hr _ _ rfl rfl rfl]
    exact Steps.refl _
  · show Q2f Z p1 v3 h0 n0 _ T2.heap _
    rw [e2]
    exact ⟨rfl, N0, rfl⟩
theorem pn_3 : plainName "com/example/watermark/watermark/server/TransactionState$Phase" = true := by first | (simp [plainName, overriddenIn]; done) | decide +kernel
theorem ef_3 (m : MethodId) (x0 : Int32) : entryFrame m #[(.int x0)] 1 = mkF m 0 #[.val (.int x0)] [] := by first | (simp [entryFrame, mkF, argsToLocals, Value.category]; done) | rfl
theorem d3_0 : decode prog_120_method_5_code 0 = .ok (.iload_n 0, 1) := by decide +kernel
theorem d3_1 : decode prog_120_method_5_code 1 = .ok (.ifCond .eq 9, 3) := by decide +kernel
theorem d3_4 : decode prog_120_method_5_code 4 = .ok (.getstatic 16, 3) := by decide +kernel
theorem d3_7 : decode prog_120_method_5_code 7 = .ok (.goto 6, 3) := by decide +kernel
theorem d3_13 : decode prog_120_method_5_code 13 = .ok (.areturn, 1) := by decide +kernel
def Q3t (Z : State) (p1 : Int32) (v4 : Addr) (h0 : Heap) (n0 : Nat) (v : Option Value) (h : Heap) (L : List Loc) : Prop := v = some (.ref v4) ∧ Fr n0 L ∧ h = h0
set_option maxRecDepth 65536 in
set_option maxHeartbeats 40000000 in
theorem rm3t (l : Launch) (Z : State) (a0 : Array Value) (hw : ∀ d ∈ tables_1, d.before a0 Z = true) (ws : List Jvm.Cond) (p1 : Int32) (v4 : Addr) (h0 : Heap) (n0 : Nat) (Z0 : n0 ≤ h0.size) (S4 : Sta Z h0 "com/example/watermark/watermark/server/TransactionState$Phase" "COMPLETE_COMMIT" "Lcom/example/watermark/watermark/server/TransactionState$Phase;" (.ref v4)) (hk : ¬ p1 = 0) :
    MetFree l (⟨"com/example/watermark/watermark/server/TransactionState$Phase", "complete", "(Z)Lcom/example/watermark/watermark/server/TransactionState$Phase;"⟩ : MethodName) (head1 (Jvm.Cond.code (⟨"com/example/watermark/watermark/server/TransactionState$Phase", "complete", "(Z)Lcom/example/watermark/watermark/server/TransactionState$Phase;"⟩ : MethodName) prog_120_method_5_code 1 (some (.object "com/example/watermark/watermark/server/TransactionState$Phase")) :: ws) ({ frames := 0, cells := 0, slots := 0, locals := 0 } : Room)) (fun a U => a = #[(.int p1)] ∧ Z.Warmed39 U.vm ∧ U.heap = h0) (fun _ _ _ _ _ => True) (fun _ U o U' => ∃ v L, o = .returned v ∧ Q3t Z p1 v4 h0 n0 v U'.heap L ∧ FrameEnd U o U' L ({ frames := 0, cells := 0, slots := 0, locals := 0 } : Room).cells ({ frames := 0, cells := 0, slots := 0, locals := 0 } : Room).slots) := by
  refine MetFree.of_bodySF (plainFor_of_name pn_3) hisR ?_
  intro p e s m args below meth c s₁ Bd hml0 hP hK
  obtain ⟨rfl, hZ, hh⟩ := hP
  have hx := Bd.exec
  have hby := Bd.bytes
  have hml : c.maxLocals = 1 := hml0
  have hown : s.vm.findClass "com/example/watermark/watermark/server/TransactionState$Phase" = some m.cls := findClass_of_methodNamed Bd.named
  have hnm := (name_of_methodNamed Bd.named Bd.method).1
  have X0 : Stand p l e ({ frames := 0, cells := 0, slots := 0, locals := 0 } : Room) s m #[(.int p1)] below meth c s₁ [] 0 0 := Stand.of_body Bd
  have e0 : s₁.heap = h0 := by rw [← hh, Bd.state]; rfl
  have N0 := Fr.nil n0
  have pre0 : ∀ t, Steps p.tables e below (s₁.setTop (mkF m 0 #[.val (.int p1)] [])) t → Steps p.tables e below (s₁.setTop (entryFrame m #[(.int p1)] 1)) t := fun t k => castTop (ef_3 m p1) k
  have P1 : ∀ t, Steps p.tables e below (s₁.setTop (mkF m 4 #[.val (.int p1)] [])) t → Steps p.tables e below (s₁.setTop (mkF m 0 #[.val (.int p1)] [])) t := fun t k => by
    show Steps p.tables e below (s₁.setTop (mkF m 0 #[.val (.int p1)] [])) t
    refine XS.iloadN X0.here hx rfl (hb hby d3_0) rfl ?_
    show Steps p.tables e below (s₁.setTop (mkF m 1 #[.val (.int p1)] [(.int p1)])) t
    refine XS.ifNo X0.here hx rfl (hb hby d3_1) rfl ((if0 _ _).trans (feq hk).1) ?_
    exact k
  obtain ⟨T2, X2, e2, st2⟩ := getS2 X0 hx hZ hown (host := "") (Or.inl (hw _ (List.mem_of_getElem? (i := 30) rfl))) Via.refl e0 S4 (g := (mkF m 4 #[.val (.int p1)] [])) rfl (hb hby d3_4)
  have P3 : ∀ t, Steps p.tables e below (T2.setTop (mkF m 7 #[.val (.int p1)] [(.ref v4)])) t → Steps p.tables e below (s₁.setTop (mkF m 0 #[.val (.int p1)] [])) t := fun t k => P1 t (st2 _ k)
  have P4 : ∀ t, Steps p.tables e below (T2.setTop (mkF m 13 #[.val (.int p1)] [(.ref v4)])) t → Steps p.tables e below (s₁.setTop (mkF m 0 #[.val (.int p1)] [])) t := fun t k => by
    refine P3 t ?_
    show Steps p.tables e below (T2.setTop (mkF m 7 #[.val (.int p1)] [(.ref v4)])) t
    refine XS.goto X2.here hx rfl (pc0 := 7) (pc' := 13) rfl (hb hby d3_7) (by decide) (by decide) ?_
    exact k
  obtain ⟨fs, hr, hrun, hended, hW, hsame⟩ := X2.leave (v := some (.ref v4)) (fun h => by rw [Bd.returns] at h; cases h)
  refine ⟨_, _, pre0 _ (P4 _ ?_), hrun, hended, _, _, rfl, ?_, ⟨_, rfl⟩, hW, hsame.mono (by decide) (by decide)⟩
  · jvm_step X2.here [X2.here.top, hx, (hb hby d3_13), X2.method', Bd.returns, Value.isRef, FieldType.isReference]
    first | (intro acts; rw [hr _ acts rfl rfl rfl]) | rw [hr _ _ rfl rfl rfl]
    exact Steps.refl _
  · show Q3t Z p1 v4 h0 n0 _ T2.heap _
    rw [e2]
    exact ⟨rfl, N0, rfl⟩
theorem d3_10 : decode prog_120_method_5_code 10 = .ok (.getstatic 19, 3) := by decide +kernel
def Q3f (Z : State) (p1 : Int32) (v5 : Addr) (h0 : Heap) (n0 : Nat) (v : Option Value) (h : Heap) (L : List Loc) : Prop := v = some (.ref v5) ∧ Fr n0 L ∧ h = h0
set_option maxRecDepth 65536 in
set_option maxHeartbeats 40000000 in
theorem rm3f (l : Launch) (Z : State) (a0 : Array Value) (hw : ∀ d ∈ tables_1, d.before a0 Z = true) (ws : List Jvm.Cond) (p1 : Int32) (v5 : Addr) (h0 : Heap) (n0 : Nat) (Z0 : n0 ≤ h0.size) (S5 : Sta Z h0 "com/example/watermark/watermark/server/TransactionState$Phase" "COMPLETE_ABORT" "Lcom/example/watermark/watermark/server/TransactionState$Phase;" (.ref v5)) (hk : p1 = 0) :
    MetFree l (⟨"com/example/watermark/watermark/server/TransactionState$Phase", "complete", "(Z)Lcom/example/watermark/watermark/server/TransactionState$Phase;"⟩ : MethodName) (head1 (Jvm.Cond.code (⟨"com/example/watermark/watermark/server/TransactionState$Phase", "complete", "(Z)Lcom/example/watermark/watermark/server/TransactionState$Phase;"⟩ : MethodName) prog_120_method_5_code 1 (some (.object "com/example/watermark/watermark/server/TransactionState$Phase")) :: ws) ({ frames := 0, cells := 0, slots := 0, locals := 0 } : Room)) (fun a U => a = #[(.int p1)] ∧ Z.Warmed39 U.vm ∧ U.heap = h0) (fun _ _ _ _ _ => True) (fun _ U o U' => ∃ v L, o = .returned v ∧ Q3f Z p1 v5 h0 n0 v U'.heap L ∧ FrameEnd U o U' L ({ frames := 0, cells := 0, slots := 0, locals := 0 } : Room).cells ({ frames := 0, cells := 0, slots := 0, locals := 0 } : Room).slots) := by
  refine MetFree.of_bodySF (plainFor_of_name pn_3) hisR ?_
  intro p e s m args below meth c s₁ Bd hml0 hP hK
  obtain ⟨rfl, hZ, hh⟩ := hP
  have hx := Bd.exec
  have hby := Bd.bytes
  have hml : c.maxLocals = 1 := hml0
  have hown : s.vm.findClass "com/example/watermark/watermark/server/TransactionState$Phase" = some m.cls := findClass_of_methodNamed Bd.named
  have hnm := (name_of_methodNamed Bd.named Bd.method).1
  have X0 : Stand p l e ({ frames := 0, cells := 0, slots := 0, locals := 0 } : Room) s m #[(.int p1)] below meth c s₁ [] 0 0 := Stand.of_body Bd
  have e0 : s₁.heap = h0 := by rw [← hh, Bd.state]; rfl
  have N0 := Fr.nil n0
  have pre0 : ∀ t, Steps p.tables e below (s₁.setTop (mkF m 0 #[.val (.int p1)] [])) t → Steps p.tables e below (s₁.setTop (entryFrame m #[(.int p1)] 1)) t := fun t k => castTop (ef_3 m p1) k
  have P1 : ∀ t, Steps p.tables e below (s₁.setTop (mkF m 10 #[.val (.int p1)] [])) t → Steps p.tables e below (s₁.setTop (mkF m 0 #[.val (.int p1)] [])) t := fun t k => by
    show Steps p.tables e below (s₁.setTop (mkF m 0 #[.val (.int p1)] [])) t
    refine XS.iloadN X0.here hx rfl (hb hby d3_0) rfl ?_
    show Steps p.tables e below (s₁.setTop (mkF m 1 #[.val (.int p1)] [(.int p1)])) t
    refine XS.ifYes X0.here hx rfl (pc0 := 1) (pc' := 10) rfl (hb hby d3_1) rfl ((if0 _ _).trans (teq hk).1) (by decide) (by decide) ?_
    exact k
  obtain ⟨T2, X2, e2, st2⟩ := getS2 X0 hx hZ hown (host := "") (Or.inl (hw _ (List.mem_of_getElem? (i := 31) rfl))) Via.refl e0 S5 (g := (mkF m 10 #[.val (.int p1)] [])) rfl (hb hby d3_10)
  have P3 : ∀ t, Steps p.tables e below (T2.setTop (mkF m 13 #[.val (.int p1)] [(.ref v5)])) t → Steps p.tables e below (s₁.setTop (mkF m 0 #[.val (.int p1)] [])) t := fun t k => P1 t (st2 _ k)
  obtain ⟨fs, hr, hrun, hended, hW, hsame⟩ := X2.leave (v := some (.ref v5)) (fun h => by rw [Bd.returns] at h; cases h)
  refine ⟨_, _, pre0 _ (P3 _ ?_), hrun, hended, _, _, rfl, ?_, ⟨_, rfl⟩, hW, hsame.mono (by decide) (by decide)⟩
  · jvm_step X2.here [X2.here.top, hx, (hb hby d3_13), X2.method', Bd.returns, Value.isRef, FieldType.isReference]
    first | (intro acts; rw [hr _ acts rfl rfl rfl]) | rw [hr _ _ rfl rfl rfl]
    exact Steps.refl _
  · show Q3f Z p1 v5 h0 n0 _ T2.heap _
    rw [e2]
    exact ⟨rfl, N0, rfl⟩
theorem own_mod6 (x : Int32) : ((x &&& (2147483647 : Int32)) % (6 : Int32)) = 0 ∨ ((x &&& (2147483647 : Int32)) % (6 : Int32)) = 1 ∨ ((x &&& (2147483647 : Int32)) % (6 : Int32)) = 2 ∨ ((x &&& (2147483647 : Int32)) % (6 : Int32)) = 3 ∨ ((x &&& (2147483647 : Int32)) % (6 : Int32)) = 4 ∨ ((x &&& (2147483647 : Int32)) % (6 : Int32)) = 5 := by
  have h := (c_and x 2147483647 (by decide)).1
  have g := (c_irem (x &&& 2147483647) 6 6 rfl).1 h
  simp only [← Int32.toInt_inj]
  have e0 : (0 : Int32).toInt = 0 := rfl
  have e1 : (1 : Int32).toInt = 1 := rfl
  have e2 : (2 : Int32).toInt = 2 := rfl
  have e3 : (3 : Int32).toInt = 3 := rfl
  have e4 : (4 : Int32).toInt = 4 := rfl
  have e5 : (5 : Int32).toInt = 5 := rfl
  omega
theorem pn_0 : plainName "com/example/watermark/watermark/server/PhaseIsEndingPinLaw" = true := by first | (simp [plainName, overriddenIn]; done) | decide +kernel
theorem ef_0 (m : MethodId) (x0 : Int32) (x1 : Int32) : entryFrame m #[(.int x0), (.int x1)] maxLocals = mkF m 0 #[.val (.int x0), .val (.int x1), .unset, .unset, .unset, .unset, .unset, .unset, .unset, .unset, .unset] [] := by first | (simp [entryFrame, mkF, argsToLocals, Value.category, maxLocals]; done) | rfl
theorem pd___Z : parseMethodDescriptor "()Z" = some ⟨[], some .boolean⟩ := by decide +kernel
theorem pd__Z_Lcom_example_watermark_watermark_server_TransactionState_Phase_ : parseMethodDescriptor "(Z)Lcom/example/watermark/watermark/server/TransactionState$Phase;" = some ⟨[.boolean], some (.object "com/example/watermark/watermark/server/TransactionState$Phase")⟩ := by decide +kernel
def Q0 (Z : State) (p1 p2 : Int32) (v0 v1 v2 v3 v4 v5 : Addr) (h0 : Heap) (n0 : Nat) (v : Option Value) (h : Heap) (L : List Loc) : Prop := v = some (.int 1) ∧ Fr n0 L
set_option maxRecDepth 65536 in
set_option maxHeartbeats 40000000 in
theorem rm0 (l : Launch) (Z : State) (a0 : Array Value) (hw : ∀ d ∈ tables_1, d.before a0 Z = true) (ws : List Jvm.Cond) (p1 p2 : Int32) (v0 v1 v2 v3 v4 v5 : Addr) (h0 : Heap) (n0 : Nat) (Z0 : n0 ≤ h0.size) (S0 : Sta Z h0 "com/example/watermark/watermark/server/TransactionState$Phase" "EMPTY" "Lcom/example/watermark/watermark/server/TransactionState$Phase;" (.ref v0)) (EX0 : Exa Z h0 v0 "com/example/watermark/watermark/server/TransactionState$Phase") (S1 : Sta Z h0 "com/example/watermark/watermark/server/TransactionState$Phase" "ONGOING" "Lcom/example/watermark/watermark/server/TransactionState$Phase;" (.ref v1)) (EX1 : Exa Z h0 v1 "com/example/watermark/watermark/server/TransactionState$Phase") (S2 : Sta Z h0 "com/example/watermark/watermark/server/TransactionState$Phase" "PREPARE_COMMIT" "Lcom/example/watermark/watermark/server/TransactionState$Phase;" (.ref v2)) (EX2 : Exa Z h0 v2 "com/example/watermark/watermark/server/TransactionState$Phase") (S3 : Sta Z h0 "com/example/watermark/watermark/server/TransactionState$Phase" "PREPARE_ABORT" "Lcom/example/watermark/watermark/server/TransactionState$Phase;" (.ref v3)) (EX3 : Exa Z h0 v3 "com/example/watermark/watermark/server/TransactionState$Phase") (S4 : Sta Z h0 "com/example/watermark/watermark/server/TransactionState$Phase" "COMPLETE_COMMIT" "Lcom/example/watermark/watermark/server/TransactionState$Phase;" (.ref v4)) (EX4 : Exa Z h0 v4 "com/example/watermark/watermark/server/TransactionState$Phase") (S5 : Sta Z h0 "com/example/watermark/watermark/server/TransactionState$Phase" "COMPLETE_ABORT" "Lcom/example/watermark/watermark/server/TransactionState$Phase;" (.ref v5)) (EX5 : Exa Z h0 v5 "com/example/watermark/watermark/server/TransactionState$Phase") (n2_0 : ¬ v0 = v2) (n2_1 : ¬ v1 = v2) (n2_3 : ¬ v3 = v2) (n2_4 : ¬ v4 = v2) (n2_5 : ¬ v5 = v2) (n3_0 : ¬ v0 = v3) (n3_1 : ¬ v1 = v3) (n3_2 : ¬ v2 = v3) (n3_4 : ¬ v4 = v3) (n3_5 : ¬ v5 = v3) :
    MetFree l x (head1 (Jvm.Cond.code x code maxLocals ret :: ws) room_1) (fun a U => a = #[(.int p1), (.int p2)] ∧ Z.Warmed39 U.vm ∧ U.heap = h0) (fun _ _ _ _ _ => True) (fun _ U o U' => ∃ v L, o = .returned v ∧ Q0 Z p1 p2 v0 v1 v2 v3 v4 v5 h0 n0 v U'.heap L ∧ FrameEnd U o U' L room_1.cells room_1.slots) := by
  refine MetFree.of_bodySF (plainFor_of_name pn_0) hisR ?_
  intro p e s m args below meth c s₁ Bd hml0 hP hK
  obtain ⟨rfl, hZ, hh⟩ := hP
  have hx := Bd.exec
  have hby := Bd.bytes
  have hml : c.maxLocals = 11 := hml0
  have hown : s.vm.findClass "com/example/watermark/watermark/server/PhaseIsEndingPinLaw" = some m.cls := findClass_of_methodNamed Bd.named
  have hnm := (name_of_methodNamed Bd.named Bd.method).1
  have X0 : Stand p l e room_1 s m #[(.int p1), (.int p2)] below meth c s₁ [] 0 0 := Stand.of_body Bd
  have e0 : s₁.heap = h0 := by rw [← hh, Bd.state]; rfl
  have N0 := Fr.nil n0
  have pre0 : ∀ t, Steps p.tables e below (s₁.setTop (mkF m 0 #[.val (.int p1), .val (.int p2), .unset, .unset, .unset, .unset, .unset, .unset, .unset, .unset, .unset] [])) t → Steps p.tables e below (s₁.setTop (entryFrame m #[(.int p1), (.int p2)] maxLocals)) t := fun t k => castTop (ef_0 m p1 p2) k
  have P1 : ∀ t, Steps p.tables e below (s₁.setTop (mkF m 2 #[.val (.int p1), .val (.int p2), .unset, .unset, .unset, .unset, .unset, .unset, .unset, .unset, .unset] [(.int (6 : Int32))])) t → Steps p.tables e below (s₁.setTop (mkF m 0 #[.val (.int p1), .val (.int p2), .unset, .unset, .unset, .unset, .unset, .unset, .unset, .unset, .unset] [])) t := fun t k => by
    show Steps p.tables e below (s₁.setTop (mkF m 0 #[.val (.int p1), .val (.int p2), .unset, .unset, .unset, .unset, .unset, .unset, .unset, .unset, .unset] [])) t
    refine XS.bipush X0.here hx rfl (hb hby at_0) ?_
    exact k
  obtain ⟨T2, h2, k2, X2, e2, E2, A2, O2, st2⟩ := newR X0 hx hZ hown (hw _ (List.mem_of_getElem? (i := 0) rfl)) (hw _ (List.mem_of_getElem? (i := 1) rfl)) e0 (g := (mkF m 2 #[.val (.int p1), .val (.int p2), .unset, .unset, .unset, .unset, .unset, .unset, .unset, .unset, .unset] [(.int (6 : Int32))])) rfl (hb hby at_2) rfl (by decide) (cap := 6) (by decide) (by decide) (by decide) (by decide)
  obtain ⟨b2, g2⟩ : ∃ z, z = h0.size := ⟨_, rfl⟩
  rw [← g2] at A2 st2
  have ne_v0_b2 : v0 ≠ b2 := Nat.ne_of_lt (Nat.lt_of_lt_of_le EX0.lt (Nat.le_of_eq g2.symm))
  have ne_v1_b2 : v1 ≠ b2 := Nat.ne_of_lt (Nat.lt_of_lt_of_le EX1.lt (Nat.le_of_eq g2.symm))
  have ne_v2_b2 : v2 ≠ b2 := Nat.ne_of_lt (Nat.lt_of_lt_of_le EX2.lt (Nat.le_of_eq g2.symm))
  have ne_v3_b2 : v3 ≠ b2 := Nat.ne_of_lt (Nat.lt_of_lt_of_le EX3.lt (Nat.le_of_eq g2.symm))
  have ne_v4_b2 : v4 ≠ b2 := Nat.ne_of_lt (Nat.lt_of_lt_of_le EX4.lt (Nat.le_of_eq g2.symm))
  have ne_v5_b2 : v5 ≠ b2 := Nat.ne_of_lt (Nat.lt_of_lt_of_le EX5.lt (Nat.le_of_eq g2.symm))
  have g_b2 : n0 ≤ b2 := Nat.le_trans Z0 (Nat.le_of_eq g2.symm)
  have S0_2 := S0.ext E2
  have S1_2 := S1.ext E2
  have S2_2 := S2.ext E2
  have S3_2 := S3.ext E2
  have S4_2 := S4.ext E2
  have S5_2 := S5.ext E2
  have EX0_2 := EX0.ext E2
  have EX1_2 := EX1.ext E2
  have EX2_2 := EX2.ext E2
  have EX3_2 := EX3.ext E2
  have EX4_2 := EX4.ext E2
  have EX5_2 := EX5.ext E2
  have Z_3 : n0 ≤ h2.size := Nat.le_trans Z0 E2.1
  have V_b2_0 := Arv.new A2 (by decide)
  have P4 : ∀ t, Steps p.tables e below (T2.setTop (mkF m 5 #[.val (.int p1), .val (.int p2), .unset, .unset, .unset, .unset, .unset, .unset, .unset, .unset, .unset] [(.ref b2)])) t → Steps p.tables e below (s₁.setTop (mkF m 0 #[.val (.int p1), .val (.int p2), .unset, .unset, .unset, .unset, .unset, .unset, .unset, .unset, .unset] [])) t := fun t k => P1 t (st2 _ k)
  have V_b2_p : Arv Z h2 b2 k2 (.object "com/example/watermark/watermark/server/TransactionState$Phase") (6 : Int32) [.null, .null, .null, .null, .null, .null] .null := V_b2_0.pad (pad_rep [] .null 6)
  have P5 : ∀ t, Steps p.tables e below (T2.setTop (mkF m 7 #[.val (.int p1), .val (.int p2), .unset, .unset, .unset, .unset, .unset, .unset, .unset, .unset, .unset] [(.int (0 : Int32)), (.ref b2), (.ref b2)])) t → Steps p.tables e below (s₁.setTop (mkF m 0 #[.val (.int p1), .val (.int p2), .unset, .unset, .unset, .unset, .unset, .unset, .unset, .unset, .unset] [])) t := fun t k => by
    refine P4 t ?_
    show Steps p.tables e below (T2.setTop (mkF m 5 #[.val (.int p1), .val (.int p2), .unset, .unset, .unset, .unset, .unset, .unset, .unset, .unset, .unset] [(.ref b2)])) t
    refine XS.dup X2.here hx rfl (hb hby at_5) rfl rfl ?_
    show Steps p.tables e below (T2.setTop (mkF m 6 #[.val (.int p1), .val (.int p2), .unset, .unset, .unset, .unset, .unset, .unset, .unset, .unset, .unset] [(.ref b2), (.ref b2)])) t
    refine XS.iconst X2.here hx rfl (hb hby at_6) ?_
    exact k
  obtain ⟨T6, X6, e6, st6⟩ := getS2 X2 hx hZ hown (host := "") (Or.inl (hw _ (List.mem_of_getElem? (i := 2) rfl))) Via.refl e2 S0_2 (g := (mkF m 7 #[.val (.int p1), .val (.int p2), .unset, .unset, .unset, .unset, .unset, .unset, .unset, .unset, .unset] [(.int (0 : Int32)), (.ref b2), (.ref b2)])) rfl (hb hby at_7)
  have P7 : ∀ t, Steps p.tables e below (T6.setTop (mkF m 10 #[.val (.int p1), .val (.int p2), .unset, .unset, .unset, .unset, .unset, .unset, .unset, .unset, .unset] [(.ref v0), (.int (0 : Int32)), (.ref b2), (.ref b2)])) t → Steps p.tables e below (s₁.setTop (mkF m 0 #[.val (.int p1), .val (.int p2), .unset, .unset, .unset, .unset, .unset, .unset, .unset, .unset, .unset] [])) t := fun t k => P5 t (st6 _ k)
  obtain ⟨cl8, Ar8, q8, S8_, N8_, H8_, G8_⟩ := V_b2_p
  have hin8 : ¬ ((0 : Int32) < 0 ∨ cl8.slots.size ≤ ((0 : Int32)).toNatClampNeg) := inb_of S8_ ⟨by decide, by decide⟩
  obtain ⟨T8, h8, X8, e8, W8, st8⟩ := stR X6 hx hZ e6 Ar8 (j := (0 : Int32)) hin8 rfl (Sto.ofV Ar8 q8 O2 (Ins.self EX0_2)) (g := (mkF m 10 #[.val (.int p1), .val (.int p2), .unset, .unset, .unset, .unset, .unset, .unset, .unset, .unset, .unset] [(.ref v0), (.int (0 : Int32)), (.ref b2), (.ref b2)])) rfl rfl (hb hby at_10)
  have S0_8 := S0_2.wr W8
  have S1_8 := S1_2.wr W8
  have S2_8 := S2_2.wr W8
  have S3_8 := S3_2.wr W8
  have S4_8 := S4_2.wr W8
  have S5_8 := S5_2.wr W8
  have EX0_8 := EX0_2.wr W8
  have EX1_8 := EX1_2.wr W8
  have EX2_8 := EX2_2.wr W8
  have EX3_8 := EX3_2.wr W8
  have EX4_8 := EX4_2.wr W8
  have EX5_8 := EX5_2.wr W8
  have Z_9 : n0 ≤ h8.size := Nat.le_trans Z_3 (Keep.of_wr W8).1
  have N8 := Fr.snoc X8 N0 g_b2
  have V_b2_8 : Arv Z h8 b2 k2 (.object "com/example/watermark/watermark/server/TransactionState$Phase") (6 : Int32) [(.ref v0), .null, .null, .null, .null, .null] .null := Arv.set Ar8 q8 S8_ N8_ H8_ G8_ rfl W8 0 rfl (Nat.le_of_ble_eq_true rfl)
  have P10 : ∀ t, Steps p.tables e below (T8.setTop (mkF m 11 #[.val (.int p1), .val (.int p2), .unset, .unset, .unset, .unset, .unset, .unset, .unset, .unset, .unset] [(.ref b2)])) t → Steps p.tables e below (s₁.setTop (mkF m 0 #[.val (.int p1), .val (.int p2), .unset, .unset, .unset, .unset, .unset, .unset, .unset, .unset, .unset] [])) t := fun t k => P7 t (st8 _ k)
  have P11 : ∀ t, Steps p.tables e below (T8.setTop (mkF m 13 #[.val (.int p1), .val (.int p2), .unset, .unset, .unset, .unset, .unset, .unset, .unset, .unset, .unset] [(.int (1 : Int32)), (.ref b2), (.ref b2)])) t → Steps p.tables e below (s₁.setTop (mkF m 0 #[.val (.int p1), .val (.int p2), .unset, .unset, .unset, .unset, .unset, .unset, .unset, .unset, .unset] [])) t := fun t k => by
    refine P10 t ?_
    show Steps p.tables e below (T8.setTop (mkF m 11 #[.val (.int p1), .val (.int p2), .unset, .unset, .unset, .unset, .unset, .unset, .unset, .unset, .unset] [(.ref b2)])) t
    refine XS.dup X8.here hx rfl (hb hby at_11) rfl rfl ?_
    show Steps p.tables e below (T8.setTop (mkF m 12 #[.val (.int p1), .val (.int p2), .unset, .unset, .unset, .unset, .unset, .unset, .unset, .unset, .unset] [(.ref b2), (.ref b2)])) t
    refine XS.iconst X8.here hx rfl (hb hby at_12) ?_
    exact k
  obtain ⟨T12, X12, e12, st12⟩ := getS2 X8 hx hZ hown (host := "") (Or.inl (hw _ (List.mem_of_getElem? (i := 6) rfl))) Via.refl e8 S1_8 (g := (mkF m 13 #[.val (.int p1), .val (.int p2), .unset, .unset, .unset, .unset, .unset, .unset, .unset, .unset, .unset] [(.int (1 : Int32)), (.ref b2), (.ref b2)])) rfl (hb hby at_13)
  have P13 : ∀ t, Steps p.tables e below (T12.setTop (mkF m 16 #[.val (.int p1), .val (.int p2), .unset, .unset, .unset, .unset, .unset, .unset, .unset, .unset, .unset] [(.ref v1), (.int (1 : Int32)), (.ref b2), (.ref b2)])) t → Steps p.tables e below (s₁.setTop (mkF m 0 #[.val (.int p1), .val (.int p2), .unset, .unset, .unset, .unset, .unset, .unset, .unset, .unset, .unset] [])) t := fun t k => P11 t (st12 _ k)
  obtain ⟨cl14, Ar14, q14, S14_, N14_, H14_, G14_⟩ := V_b2_8
  have hin14 : ¬ ((1 : Int32) < 0 ∨ cl14.slots.size ≤ ((1 : Int32)).toNatClampNeg) := inb_of S14_ ⟨by decide, by decide⟩
  obtain ⟨T14, h14, X14, e14, W14, st14⟩ := stR X12 hx hZ e12 Ar14 (j := (1 : Int32)) hin14 rfl (Sto.ofV Ar14 q14 O2 (Ins.self EX1_8)) (g := (mkF m 16 #[.val (.int p1), .val (.int p2), .unset, .unset, .unset, .unset, .unset, .unset, .unset, .unset, .unset] [(.ref v1), (.int (1 : Int32)), (.ref b2), (.ref b2)])) rfl rfl (hb hby at_16)
  have S0_14 := S0_8.wr W14
  have S1_14 := S1_8.wr W14
  have S2_14 := S2_8.wr W14
  have S3_14 := S3_8.wr W14
  have S4_14 := S4_8.wr W14
  have S5_14 := S5_8.wr W14
  have EX0_14 := EX0_8.wr W14
  have EX1_14 := EX1_8.wr W14
  have EX2_14 := EX2_8.wr W14
  have EX3_14 := EX3_8.wr W14
  have EX4_14 := EX4_8.wr W14
  have EX5_14 := EX5_8.wr W14
  have Z_15 : n0 ≤ h14.size := Nat.le_trans Z_9 (Keep.of_wr W14).1
  have N14 := Fr.snoc X14 N8 g_b2
  have V_b2_14 : Arv Z h14 b2 k2 (.object "com/example/watermark/watermark/server/TransactionState$Phase") (6 : Int32) [(.ref v0), (.ref v1), .null, .null, .null, .null] .null := Arv.set Ar14 q14 S14_ N14_ H14_ G14_ rfl W14 1 rfl (Nat.le_of_ble_eq_true rfl)
  have P16 : ∀ t, Steps p.tables e below (T14.setTop (mkF m 17 #[.val (.int p1), .val (.int p2), .unset, .unset, .unset, .unset, .unset, .unset, .unset, .unset, .unset] [(.ref b2)])) t → Steps p.tables e below (s₁.setTop (mkF m 0 #[.val (.int p1), .val (.int p2), .unset, .unset, .unset, .unset, .unset, .unset, .unset, .unset, .unset] [])) t := fun t k => P13 t (st14 _ k)
  have P17 : ∀ t, Steps p.tables e below (T14.setTop (mkF m 19 #[.val (.int p1), .val (.int p2), .unset, .unset, .unset, .unset, .unset, .unset, .unset, .unset, .unset] [(.int (2 : Int32)), (.ref b2), (.ref b2)])) t → Steps p.tables e below (s₁.setTop (mkF m 0 #[.val (.int p1), .val (.int p2), .unset, .unset, .unset, .unset, .unset, .unset, .unset, .unset, .unset] [])) t := fun t k => by
    refine P16 t ?_
    show Steps p.tables e below (T14.setTop (mkF m 17 #[.val (.int p1), .val (.int p2), .unset, .unset, .unset, .unset, .unset, .unset, .unset, .unset, .unset] [(.ref b2)])) t
    refine XS.dup X14.here hx rfl (hb hby at_17) rfl rfl ?_
    show Steps p.tables e below (T14.setTop (mkF m 18 #[.val (.int p1), .val (.int p2), .unset, .unset, .unset, .unset, .unset, .unset, .unset, .unset, .unset] [(.ref b2), (.ref b2)])) t
    refine XS.iconst X14.here hx rfl (hb hby at_18) ?_
    exact k
  obtain ⟨T18, X18, e18, st18⟩ := getS2 X14 hx hZ hown (host := "") (Or.inl (hw _ (List.mem_of_getElem? (i := 8) rfl))) Via.refl e14 S2_14 (g := (mkF m 19 #[.val (.int p1), .val (.int p2), .unset, .unset, .unset, .unset, .unset, .unset, .unset, .unset, .unset] [(.int (2 : Int32)), (.ref b2), (.ref b2)])) rfl (hb hby at_19)
  have P19 : ∀ t, Steps p.tables e below (T18.setTop (mkF m 22 #[.val (.int p1), .val (.int p2), .unset, .unset, .unset, .unset, .unset, .unset, .unset, .unset, .unset] [(.ref v2), (.int (2 : Int32)), (.ref b2), (.ref b2)])) t → Steps p.tables e below (s₁.setTop (mkF m 0 #[.val (.int p1), .val (.int p2), .unset, .unset, .unset, .unset, .unset, .unset, .unset, .unset, .unset] [])) t := fun t k => P17 t (st18 _ k)
  obtain ⟨cl20, Ar20, q20, S20_, N20_, H20_, G20_⟩ := V_b2_14
  have hin20 : ¬ ((2 : Int32) < 0 ∨ cl20.slots.size ≤ ((2 : Int32)).toNatClampNeg) := inb_of S20_ ⟨by decide, by decide⟩
  obtain ⟨T20, h20, X20, e20, W20, st20⟩ := stR X18 hx hZ e18 Ar20 (j := (2 : Int32)) hin20 rfl (Sto.ofV Ar20 q20 O2 (Ins.self EX2_14)) (g := (mkF m 22 #[.val (.int p1), .val (.int p2), .unset, .unset, .unset, .unset, .unset, .unset, .unset, .unset, .unset] [(.ref v2), (.int (2 : Int32)), (.ref b2), (.ref b2)])) rfl rfl (hb hby at_22)
  have S0_20 := S0_14.wr W20
  have S1_20 := S1_14.wr W20
  have S2_20 := S2_14.wr W20
  have S3_20 := S3_14.wr W20
  have S4_20 := S4_14.wr W20
  have S5_20 := S5_14.wr W20
  have EX0_20 := EX0_14.wr W20
  have EX1_20 := EX1_14.wr W20
  have EX2_20 := EX2_14.wr W20
  have EX3_20 := EX3_14.wr W20
  have EX4_20 := EX4_14.wr W20
  have EX5_20 := EX5_14.wr W20
  have Z_21 : n0 ≤ h20.size := Nat.le_trans Z_15 (Keep.of_wr W20).1
  have N20 := Fr.snoc X20 N14 g_b2
  have V_b2_20 : Arv Z h20 b2 k2 (.object "com/example/watermark/watermark/server/TransactionState$Phase") (6 : Int32) [(.ref v0), (.ref v1), (.ref v2), .null, .null, .null] .null := Arv.set Ar20 q20 S20_ N20_ H20_ G20_ rfl W20 2 rfl (Nat.le_of_ble_eq_true rfl)
  have P22 : ∀ t, Steps p.tables e below (T20.setTop (mkF m 23 #[.val (.int p1), .val (.int p2), .unset, .unset, .unset, .unset, .unset, .unset, .unset, .unset, .unset] [(.ref b2)])) t → Steps p.tables e below (s₁.setTop (mkF m 0 #[.val (.int p1), .val (.int p2), .unset, .unset, .unset, .unset, .unset, .unset, .unset, .unset, .unset] [])) t := fun t k => P19 t (st20 _ k)
  have P23 : ∀ t, Steps p.tables e below (T20.setTop (mkF m 25 #[.val (.int p1), .val (.int p2), .unset, .unset, .unset, .unset, .unset, .unset, .unset, .unset, .unset] [(.int (3 : Int32)), (.ref b2), (.ref b2)])) t → Steps p.tables e below (s₁.setTop (mkF m 0 #[.val (.int p1), .val (.int p2), .unset, .unset, .unset, .unset, .unset, .unset, .unset, .unset, .unset] [])) t := fun t k => by
    refine P22 t ?_
    show Steps p.tables e below (T20.setTop (mkF m 23 #[.val (.int p1), .val (.int p2), .unset, .unset, .unset, .unset, .unset, .unset, .unset, .unset, .unset] [(.ref b2)])) t
    refine XS.dup X20.here hx rfl (hb hby at_23) rfl rfl ?_
    show Steps p.tables e below (T20.setTop (mkF m 24 #[.val (.int p1), .val (.int p2), .unset, .unset, .unset, .unset, .unset, .unset, .unset, .unset, .unset] [(.ref b2), (.ref b2)])) t
    refine XS.iconst X20.here hx rfl (hb hby at_24) ?_
    exact k
  obtain ⟨T24, X24, e24, st24⟩ := getS2 X20 hx hZ hown (host := "") (Or.inl (hw _ (List.mem_of_getElem? (i := 10) rfl))) Via.refl e20 S3_20 (g := (mkF m 25 #[.val (.int p1), .val (.int p2), .unset, .unset, .unset, .unset, .unset, .unset, .unset, .unset, .unset] [(.int (3 : Int32)), (.ref b2), (.ref b2)])) rfl (hb hby at_25)
  have P25 : ∀ t, Steps p.tables e below (T24.setTop (mkF m 28 #[.val (.int p1), .val (.int p2), .unset, .unset, .unset, .unset, .unset, .unset, .unset, .unset, .unset] [(.ref v3), (.int (3 : Int32)), (.ref b2), (.ref b2)])) t → Steps p.tables e below (s₁.setTop (mkF m 0 #[.val (.int p1), .val (.int p2), .unset, .unset, .unset, .unset, .unset, .unset, .unset, .unset, .unset] [])) t := fun t k => P23 t (st24 _ k)
  obtain ⟨cl26, Ar26, q26, S26_, N26_, H26_, G26_⟩ := V_b2_20
  have hin26 : ¬ ((3 : Int32) < 0 ∨ cl26.slots.size ≤ ((3 : Int32)).toNatClampNeg) := inb_of S26_ ⟨by decide, by decide⟩
  obtain ⟨T26, h26, X26, e26, W26, st26⟩ := stR X24 hx hZ e24 Ar26 (j := (3 : Int32)) hin26 rfl (Sto.ofV Ar26 q26 O2 (Ins.self EX3_20)) (g := (mkF m 28 #[.val (.int p1), .val (.int p2), .unset, .unset, .unset, .unset, .unset, .unset, .unset, .unset, .unset] [(.ref v3), (.int (3 : Int32)), (.ref b2), (.ref b2)])) rfl rfl (hb hby at_28)
  have S0_26 := S0_20.wr W26
  have S1_26 := S1_20.wr W26
  have S2_26 := S2_20.wr W26
  have S3_26 := S3_20.wr W26
  have S4_26 := S4_20.wr W26
  have S5_26 := S5_20.wr W26
  have EX0_26 := EX0_20.wr W26
  have EX1_26 := EX1_20.wr W26
  have EX2_26 := EX2_20.wr W26
  have EX3_26 := EX3_20.wr W26
  have EX4_26 := EX4_20.wr W26
  have EX5_26 := EX5_20.wr W26
  have Z_27 : n0 ≤ h26.size := Nat.le_trans Z_21 (Keep.of_wr W26).1
  have N26 := Fr.snoc X26 N20 g_b2
  have V_b2_26 : Arv Z h26 b2 k2 (.object "com/example/watermark/watermark/server/TransactionState$Phase") (6 : Int32) [(.ref v0), (.ref v1), (.ref v2), (.ref v3), .null, .null] .null := Arv.set Ar26 q26 S26_ N26_ H26_ G26_ rfl W26 3 rfl (Nat.le_of_ble_eq_true rfl)
  have P28 : ∀ t, Steps p.tables e below (T26.setTop (mkF m 29 #[.val (.int p1), .val (.int p2), .unset, .unset, .unset, .unset, .unset, .unset, .unset, .unset, .unset] [(.ref b2)])) t → Steps p.tables e below (s₁.setTop (mkF m 0 #[.val (.int p1), .val (.int p2), .unset, .unset, .unset, .unset, .unset, .unset, .unset, .unset, .unset] [])) t := fun t k => P25 t (st26 _ k)
  have P29 : ∀ t, Steps p.tables e below (T26.setTop (mkF m 31 #[.val (.int p1), .val (.int p2), .unset, .unset, .unset, .unset, .unset, .unset, .unset, .unset, .unset] [(.int (4 : Int32)), (.ref b2), (.ref b2)])) t → Steps p.tables e below (s₁.setTop (mkF m 0 #[.val (.int p1), .val (.int p2), .unset, .unset, .unset, .unset, .unset, .unset, .unset, .unset, .unset] [])) t := fun t k => by
    refine P28 t ?_
    show Steps p.tables e below (T26.setTop (mkF m 29 #[.val (.int p1), .val (.int p2), .unset, .unset, .unset, .unset, .unset, .unset, .unset, .unset, .unset] [(.ref b2)])) t
    refine XS.dup X26.here hx rfl (hb hby at_29) rfl rfl ?_
    show Steps p.tables e below (T26.setTop (mkF m 30 #[.val (.int p1), .val (.int p2), .unset, .unset, .unset, .unset, .unset, .unset, .unset, .unset, .unset] [(.ref b2), (.ref b2)])) t
    refine XS.iconst X26.here hx rfl (hb hby at_30) ?_
    exact k
  obtain ⟨T30, X30, e30, st30⟩ := getS2 X26 hx hZ hown (host := "") (Or.inl (hw _ (List.mem_of_getElem? (i := 12) rfl))) Via.refl e26 S4_26 (g := (mkF m 31 #[.val (.int p1), .val (.int p2), .unset, .unset, .unset, .unset, .unset, .unset, .unset, .unset, .unset] [(.int (4 : Int32)), (.ref b2), (.ref b2)])) rfl (hb hby at_31)
  have P31 : ∀ t, Steps p.tables e below (T30.setTop (mkF m 34 #[.val (.int p1), .val (.int p2), .unset, .unset, .unset, .unset, .unset, .unset, .unset, .unset, .unset] [(.ref v4), (.int (4 : Int32)), (.ref b2), (.ref b2)])) t → Steps p.tables e below (s₁.setTop (mkF m 0 #[.val (.int p1), .val (.int p2), .unset, .unset, .unset, .unset, .unset, .unset, .unset, .unset, .unset] [])) t := fun t k => P29 t (st30 _ k)
  obtain ⟨cl32, Ar32, q32, S32_, N32_, H32_, G32_⟩ := V_b2_26
  have hin32 : ¬ ((4 : Int32) < 0 ∨ cl32.slots.size ≤ ((4 : Int32)).toNatClampNeg) := inb_of S32_ ⟨by decide, by decide⟩
  obtain ⟨T32, h32, X32, e32, W32, st32⟩ := stR X30 hx hZ e30 Ar32 (j := (4 : Int32)) hin32 rfl (Sto.ofV Ar32 q32 O2 (Ins.self EX4_26)) (g := (mkF m 34 #[.val (.int p1), .val (.int p2), .unset, .unset, .unset, .unset, .unset, .unset, .unset, .unset, .unset] [(.ref v4), (.int (4 : Int32)), (.ref b2), (.ref b2)])) rfl rfl (hb hby at_34)
  have S0_32 := S0_26.wr W32
  have S1_32 := S1_26.wr W32
  have S2_32 := S2_26.wr W32
  have S3_32 := S3_26.wr W32
  have S4_32 := S4_26.wr W32
  have S5_32 := S5_26.wr W32
  have EX0_32 := EX0_26.wr W32
  have EX1_32 := EX1_26.wr W32
  have EX2_32 := EX2_26.wr W32
  have EX3_32 := EX3_26.wr W32
  have EX4_32 := EX4_26.wr W32
  have EX5_32 := EX5_26.wr W32
  have Z_33 : n0 ≤ h32.size := Nat.le_trans Z_27 (Keep.of_wr W32).1
  have N32 := Fr.snoc X32 N26 g_b2
  have V_b2_32 : Arv Z h32 b2 k2 (.object "com/example/watermark/watermark/server/TransactionState$Phase") (6 : Int32) [(.ref v0), (.ref v1), (.ref v2), (.ref v3), (.ref v4), .null] .null := Arv.set Ar32 q32 S32_ N32_ H32_ G32_ rfl W32 4 rfl (Nat.le_of_ble_eq_true rfl)
  have P34 : ∀ t, Steps p.tables e below (T32.setTop (mkF m 35 #[.val (.int p1), .val (.int p2), .unset, .unset, .unset, .unset, .unset, .unset, .unset, .unset, .unset] [(.ref b2)])) t → Steps p.tables e below (s₁.setTop (mkF m 0 #[.val (.int p1), .val (.int p2), .unset, .unset, .unset, .unset, .unset, .unset, .unset, .unset, .unset] [])) t := fun t k => P31 t (st32 _ k)
  have P35 : ∀ t, Steps p.tables e below (T32.setTop (mkF m 37 #[.val (.int p1), .val (.int p2), .unset, .unset, .unset, .unset, .unset, .unset, .unset, .unset, .unset] [(.int (5 : Int32)), (.ref b2), (.ref b2)])) t → Steps p.tables e below (s₁.setTop (mkF m 0 #[.val (.int p1), .val (.int p2), .unset, .unset, .unset, .unset, .unset, .unset, .unset, .unset, .unset] [])) t := fun t k => by
    refine P34 t ?_
    show Steps p.tables e below (T32.setTop (mkF m 35 #[.val (.int p1), .val (.int p2), .unset, .unset, .unset, .unset, .unset, .unset, .unset, .unset, .unset] [(.ref b2)])) t
    refine XS.dup X32.here hx rfl (hb hby at_35) rfl rfl ?_
    show Steps p.tables e below (T32.setTop (mkF m 36 #[.val (.int p1), .val (.int p2), .unset, .unset, .unset, .unset, .unset, .unset, .unset, .unset, .unset] [(.ref b2), (.ref b2)])) t
    refine XS.iconst X32.here hx rfl (hb hby at_36) ?_
    exact k
  obtain ⟨T36, X36, e36, st36⟩ := getS2 X32 hx hZ hown (host := "") (Or.inl (hw _ (List.mem_of_getElem? (i := 14) rfl))) Via.refl e32 S5_32 (g := (mkF m 37 #[.val (.int p1), .val (.int p2), .unset, .unset, .unset, .unset, .unset, .unset, .unset, .unset, .unset] [(.int (5 : Int32)), (.ref b2), (.ref b2)])) rfl (hb hby at_37)
  have P37 : ∀ t, Steps p.tables e below (T36.setTop (mkF m 40 #[.val (.int p1), .val (.int p2), .unset, .unset, .unset, .unset, .unset, .unset, .unset, .unset, .unset] [(.ref v5), (.int (5 : Int32)), (.ref b2), (.ref b2)])) t → Steps p.tables e below (s₁.setTop (mkF m 0 #[.val (.int p1), .val (.int p2), .unset, .unset, .unset, .unset, .unset, .unset, .unset, .unset, .unset] [])) t := fun t k => P35 t (st36 _ k)
  obtain ⟨cl38, Ar38, q38, S38_, N38_, H38_, G38_⟩ := V_b2_32
  have hin38 : ¬ ((5 : Int32) < 0 ∨ cl38.slots.size ≤ ((5 : Int32)).toNatClampNeg) := inb_of S38_ ⟨by decide, by decide⟩
  obtain ⟨T38, h38, X38, e38, W38, st38⟩ := stR X36 hx hZ e36 Ar38 (j := (5 : Int32)) hin38 rfl (Sto.ofV Ar38 q38 O2 (Ins.self EX5_32)) (g := (mkF m 40 #[.val (.int p1), .val (.int p2), .unset, .unset, .unset, .unset, .unset, .unset, .unset, .unset, .unset] [(.ref v5), (.int (5 : Int32)), (.ref b2), (.ref b2)])) rfl rfl (hb hby at_40)
  have S0_38 := S0_32.wr W38
  have S1_38 := S1_32.wr W38
  have S2_38 := S2_32.wr W38
  have S3_38 := S3_32.wr W38
  have S4_38 := S4_32.wr W38
  have S5_38 := S5_32.wr W38
  have EX0_38 := EX0_32.wr W38
  have EX1_38 := EX1_32.wr W38
  have EX2_38 := EX2_32.wr W38
  have EX3_38 := EX3_32.wr W38
  have EX4_38 := EX4_32.wr W38
  have EX5_38 := EX5_32.wr W38
  have Z_39 : n0 ≤ h38.size := Nat.le_trans Z_33 (Keep.of_wr W38).1
  have N38 := Fr.snoc X38 N32 g_b2
  have V_b2_38 : Arv Z h38 b2 k2 (.object "com/example/watermark/watermark/server/TransactionState$Phase") (6 : Int32) [(.ref v0), (.ref v1), (.ref v2), (.ref v3), (.ref v4), (.ref v5)] .null := Arv.set Ar38 q38 S38_ N38_ H38_ G38_ rfl W38 5 rfl (Nat.le_of_ble_eq_true rfl)
  have P40 : ∀ t, Steps p.tables e below (T38.setTop (mkF m 41 #[.val (.int p1), .val (.int p2), .unset, .unset, .unset, .unset, .unset, .unset, .unset, .unset, .unset] [(.ref b2)])) t → Steps p.tables e below (s₁.setTop (mkF m 0 #[.val (.int p1), .val (.int p2), .unset, .unset, .unset, .unset, .unset, .unset, .unset, .unset, .unset] [])) t := fun t k => P37 t (st38 _ k)
  have P41 : ∀ t, Steps p.tables e below (T38.setTop (mkF m 50 #[.val (.int p1), .val (.int p2), .val (.ref b2), .val (.int ((p1 &&& (2147483647 : Int32)) % (6 : Int32))), .unset, .unset, .unset, .unset, .unset, .unset, .unset] [])) t → Steps p.tables e below (s₁.setTop (mkF m 0 #[.val (.int p1), .val (.int p2), .unset, .unset, .unset, .unset, .unset, .unset, .unset, .unset, .unset] [])) t := fun t k => by
    refine P40 t ?_
    show Steps p.tables e below (T38.setTop (mkF m 41 #[.val (.int p1), .val (.int p2), .unset, .unset, .unset, .unset, .unset, .unset, .unset, .unset, .unset] [(.ref b2)])) t
    refine XS.astoreN X38.here hx rfl (hb hby at_41) rfl rfl (l' := #[.val (.int p1), .val (.int p2), .val (.ref b2), .unset, .unset, .unset, .unset, .unset, .unset, .unset, .unset]) rfl ?_
    show Steps p.tables e below (T38.setTop (mkF m 42 #[.val (.int p1), .val (.int p2), .val (.ref b2), .unset, .unset, .unset, .unset, .unset, .unset, .unset, .unset] [])) t
    refine XS.iloadN X38.here hx rfl (hb hby at_42) rfl ?_
    show Steps p.tables e below (T38.setTop (mkF m 43 #[.val (.int p1), .val (.int p2), .val (.ref b2), .unset, .unset, .unset, .unset, .unset, .unset, .unset, .unset] [(.int p1)])) t
    refine X38.ldcInt hx hown (mvT hZ (hw _ (List.mem_of_getElem? (i := 16) rfl))) (g := (mkF m 43 #[.val (.int p1), .val (.int p2), .val (.ref b2), .unset, .unset, .unset, .unset, .unset, .unset, .unset, .unset] [(.int p1)])) rfl (hb hby at_43) _ ?_
    show Steps p.tables e below (T38.setTop (mkF m 45 #[.val (.int p1), .val (.int p2), .val (.ref b2), .unset, .unset, .unset, .unset, .unset, .unset, .unset, .unset] [(.int (2147483647 : Int32)), (.int p1)])) t
    refine XS.iand X38.here hx rfl (hb hby at_45) rfl ?_
    show Steps p.tables e below (T38.setTop (mkF m 46 #[.val (.int p1), .val (.int p2), .val (.ref b2), .unset, .unset, .unset, .unset, .unset, .unset, .unset, .unset] [(.int (p1 &&& (2147483647 : Int32)))])) t
    refine XS.bipush X38.here hx rfl (hb hby at_46) ?_
    show Steps p.tables e below (T38.setTop (mkF m 48 #[.val (.int p1), .val (.int p2), .val (.ref b2), .unset, .unset, .unset, .unset, .unset, .unset, .unset, .unset] [(.int (6 : Int32)), (.int (p1 &&& (2147483647 : Int32)))])) t
    refine iremM (g := (mkF m 48 #[.val (.int p1), .val (.int p2), .val (.ref b2), .unset, .unset, .unset, .unset, .unset, .unset, .unset, .unset] [(.int (6 : Int32)), (.int (p1 &&& (2147483647 : Int32)))])) X38 hx rfl (hb hby at_48) rfl (by decide) ?_
    show Steps p.tables e below (T38.setTop (mkF m 49 #[.val (.int p1), .val (.int p2), .val (.ref b2), .unset, .unset, .unset, .unset, .unset, .unset, .unset, .unset] [(.int ((p1 &&& (2147483647 : Int32)) % (6 : Int32)))])) t
    refine XS.istoreN X38.here hx rfl (hb hby at_49) rfl (l' := #[.val (.int p1), .val (.int p2), .val (.ref b2), .val (.int ((p1 &&& (2147483647 : Int32)) % (6 : Int32))), .unset, .unset, .unset, .unset, .unset, .unset, .unset]) rfl ?_
    exact k
  obtain ⟨ix, hv_ix⟩ : ∃ z, z = ((p1 &&& (2147483647 : Int32)) % (6 : Int32)) := ⟨_, rfl⟩
  rw [← hv_ix] at P41
  have hcs := own_mod6 p1
  rw [← hv_ix] at hcs
  have P42 : ∀ t, Steps p.tables e below (T38.setTop (mkF m 53 #[.val (.int p1), .val (.int p2), .val (.ref b2), .val (.int ix), .unset, .unset, .unset, .unset, .unset, .unset, .unset] [(.int (p2 &&& (1 : Int32)))])) t → Steps p.tables e below (s₁.setTop (mkF m 0 #[.val (.int p1), .val (.int p2), .unset, .unset, .unset, .unset, .unset, .unset, .unset, .unset, .unset] [])) t := fun t k => by
    refine P41 t ?_
    show Steps p.tables e below (T38.setTop (mkF m 50 #[.val (.int p1), .val (.int p2), .val (.ref b2), .val (.int ix), .unset, .unset, .unset, .unset, .unset, .unset, .unset] [])) t
    refine XS.iloadN X38.here hx rfl (hb hby at_50) rfl ?_
    show Steps p.tables e below (T38.setTop (mkF m 51 #[.val (.int p1), .val (.int p2), .val (.ref b2), .val (.int ix), .unset, .unset, .unset, .unset, .unset, .unset, .unset] [(.int p2)])) t
    refine XS.iconst X38.here hx rfl (hb hby at_51) ?_
    show Steps p.tables e below (T38.setTop (mkF m 52 #[.val (.int p1), .val (.int p2), .val (.ref b2), .val (.int ix), .unset, .unset, .unset, .unset, .unset, .unset, .unset] [(.int (1 : Int32)), (.int p2)])) t
    refine XS.iand X38.here hx rfl (hb hby at_52) rfl ?_
    exact k
  by_cases hc43 : (p2 &&& (1 : Int32)) = (0 : Int32)
  · have P44 : ∀ t, Steps p.tables e below (T38.setTop (mkF m 63 #[.val (.int p1), .val (.int p2), .val (.ref b2), .val (.int ix), .val (.int (0 : Int32)), .unset, .unset, .unset, .unset, .unset, .unset] [])) t → Steps p.tables e below (s₁.setTop (mkF m 0 #[.val (.int p1), .val (.int p2), .unset, .unset, .unset, .unset, .unset, .unset, .unset, .unset, .unset] [])) t := fun t k => by
      refine P42 t ?_
      show Steps p.tables e below (T38.setTop (mkF m 53 #[.val (.int p1), .val (.int p2), .val (.ref b2), .val (.int ix), .unset, .unset, .unset, .unset, .unset, .unset, .unset] [(.int (p2 &&& (1 : Int32)))])) t
      refine XS.ifYes X38.here hx rfl (pc0 := 53) (pc' := 60) rfl (hb hby at_53) rfl ((if0 _ _).trans (teq hc43).1) (by decide) (by decide) ?_
      show Steps p.tables e below (T38.setTop (mkF m 60 #[.val (.int p1), .val (.int p2), .val (.ref b2), .val (.int ix), .unset, .unset, .unset, .unset, .unset, .unset, .unset] [])) t
      refine XS.iconst X38.here hx rfl (hb hby at_60) ?_
      show Steps p.tables e below (T38.setTop (mkF m 61 #[.val (.int p1), .val (.int p2), .val (.ref b2), .val (.int ix), .unset, .unset, .unset, .unset, .unset, .unset, .unset] [(.int (0 : Int32))])) t
      refine XS.istore X38.here hx rfl (hb hby at_61) rfl (l' := #[.val (.int p1), .val (.int p2), .val (.ref b2), .val (.int ix), .val (.int (0 : Int32)), .unset, .unset, .unset, .unset, .unset, .unset]) rfl ?_
      exact k
    rcases hcs with rfl | rfl | rfl | rfl | rfl | rfl
    · obtain ⟨cl45, Ar45, q45, S45_, N45_, H45_, G45_⟩ := V_b2_38
      have hin45 : ¬ ((0 : Int32) < 0 ∨ cl45.slots.size ≤ ((0 : Int32)).toNatClampNeg) := inb_of S45_ ⟨by decide, by decide⟩
      have P46 : ∀ t, Steps p.tables e below (T38.setTop (mkF m 87 #[.val (.int p1), .val (.int p2), .val (.ref b2), .val (.int (0 : Int32)), .val (.int (0 : Int32)), .val (.ref v0), .val (.int (0 : Int32)), .unset, .unset, .unset, .unset] [(.ref v0)])) t → Steps p.tables e below (s₁.setTop (mkF m 0 #[.val (.int p1), .val (.int p2), .unset, .unset, .unset, .unset, .unset, .unset, .unset, .unset, .unset] [])) t := fun t k => by
        refine P44 t ?_
        show Steps p.tables e below (T38.setTop (mkF m 63 #[.val (.int p1), .val (.int p2), .val (.ref b2), .val (.int (0 : Int32)), .val (.int (0 : Int32)), .unset, .unset, .unset, .unset, .unset, .unset] [])) t
        refine XS.aloadN X38.here hx rfl (hb hby at_63) rfl rfl ?_
        show Steps p.tables e below (T38.setTop (mkF m 64 #[.val (.int p1), .val (.int p2), .val (.ref b2), .val (.int (0 : Int32)), .val (.int (0 : Int32)), .unset, .unset, .unset, .unset, .unset, .unset] [(.ref b2)])) t
        refine XS.iloadN X38.here hx rfl (hb hby at_64) rfl ?_
        show Steps p.tables e below (T38.setTop (mkF m 65 #[.val (.int p1), .val (.int p2), .val (.ref b2), .val (.int (0 : Int32)), .val (.int (0 : Int32)), .unset, .unset, .unset, .unset, .unset, .unset] [(.int (0 : Int32)), (.ref b2)])) t
        refine X38.aaload hx (j := (0 : Int32)) (v := (.ref v0)) (by rw [e38]; exact Ar45.1) (State.isArrayOf_alike hZ.alike Ar45.2.1) rfl Ar45.2.2 hin45 (Has.at H45_ hin45 rfl) (g := (mkF m 65 #[.val (.int p1), .val (.int p2), .val (.ref b2), .val (.int (0 : Int32)), .val (.int (0 : Int32)), .unset, .unset, .unset, .unset, .unset, .unset] [(.int (0 : Int32)), (.ref b2)])) rfl rfl (hb hby at_65) _ ?_
        show Steps p.tables e below (T38.setTop (mkF m 66 #[.val (.int p1), .val (.int p2), .val (.ref b2), .val (.int (0 : Int32)), .val (.int (0 : Int32)), .unset, .unset, .unset, .unset, .unset, .unset] [(.ref v0)])) t
        refine XS.astore X38.here hx rfl (hb hby at_66) rfl rfl (l' := #[.val (.int p1), .val (.int p2), .val (.ref b2), .val (.int (0 : Int32)), .val (.int (0 : Int32)), .val (.ref v0), .unset, .unset, .unset, .unset, .unset]) rfl ?_
        show Steps p.tables e below (T38.setTop (mkF m 68 #[.val (.int p1), .val (.int p2), .val (.ref b2), .val (.int (0 : Int32)), .val (.int (0 : Int32)), .val (.ref v0), .unset, .unset, .unset, .unset, .unset] [])) t
        refine XS.iloadN X38.here hx rfl (hb hby at_68) rfl ?_
        show Steps p.tables e below (T38.setTop (mkF m 69 #[.val (.int p1), .val (.int p2), .val (.ref b2), .val (.int (0 : Int32)), .val (.int (0 : Int32)), .val (.ref v0), .unset, .unset, .unset, .unset, .unset] [(.int (0 : Int32))])) t
        refine XS.iconst X38.here hx rfl (hb hby at_69) ?_
        show Steps p.tables e below (T38.setTop (mkF m 70 #[.val (.int p1), .val (.int p2), .val (.ref b2), .val (.int (0 : Int32)), .val (.int (0 : Int32)), .val (.ref v0), .unset, .unset, .unset, .unset, .unset] [(.int (2 : Int32)), (.int (0 : Int32))])) t
        refine XS.icmpNo X38.here hx rfl (hb hby at_70) rfl (feq (by decide)).1 ?_
        show Steps p.tables e below (T38.setTop (mkF m 73 #[.val (.int p1), .val (.int p2), .val (.ref b2), .val (.int (0 : Int32)), .val (.int (0 : Int32)), .val (.ref v0), .unset, .unset, .unset, .unset, .unset] [])) t
        refine XS.iloadN X38.here hx rfl (hb hby at_73) rfl ?_
        show Steps p.tables e below (T38.setTop (mkF m 74 #[.val (.int p1), .val (.int p2), .val (.ref b2), .val (.int (0 : Int32)), .val (.int (0 : Int32)), .val (.ref v0), .unset, .unset, .unset, .unset, .unset] [(.int (0 : Int32))])) t
        refine XS.iconst X38.here hx rfl (hb hby at_74) ?_
        show Steps p.tables e below (T38.setTop (mkF m 75 #[.val (.int p1), .val (.int p2), .val (.ref b2), .val (.int (0 : Int32)), .val (.int (0 : Int32)), .val (.ref v0), .unset, .unset, .unset, .unset, .unset] [(.int (3 : Int32)), (.int (0 : Int32))])) t
        refine XS.icmpYes X38.here hx rfl (pc0 := 75) (pc' := 82) rfl (hb hby at_75) rfl (feq (by decide)).2 (by decide) (by decide) ?_
        show Steps p.tables e below (T38.setTop (mkF m 82 #[.val (.int p1), .val (.int p2), .val (.ref b2), .val (.int (0 : Int32)), .val (.int (0 : Int32)), .val (.ref v0), .unset, .unset, .unset, .unset, .unset] [])) t
        refine XS.iconst X38.here hx rfl (hb hby at_82) ?_
        show Steps p.tables e below (T38.setTop (mkF m 83 #[.val (.int p1), .val (.int p2), .val (.ref b2), .val (.int (0 : Int32)), .val (.int (0 : Int32)), .val (.ref v0), .unset, .unset, .unset, .unset, .unset] [(.int (0 : Int32))])) t
        refine XS.istore X38.here hx rfl (hb hby at_83) rfl (l' := #[.val (.int p1), .val (.int p2), .val (.ref b2), .val (.int (0 : Int32)), .val (.int (0 : Int32)), .val (.ref v0), .val (.int (0 : Int32)), .unset, .unset, .unset, .unset]) rfl ?_
        show Steps p.tables e below (T38.setTop (mkF m 85 #[.val (.int p1), .val (.int p2), .val (.ref b2), .val (.int (0 : Int32)), .val (.int (0 : Int32)), .val (.ref v0), .val (.int (0 : Int32)), .unset, .unset, .unset, .unset] [])) t
        refine XS.aload X38.here hx rfl (hb hby at_85) rfl rfl ?_
        exact k
      obtain ⟨cq47, kq47, q47a, q47b, q47c⟩ := isOf hZ e38 EX0_38
      obtain ⟨_, _, ⟨T47, L47, k47, n47⟩, -, X47, ⟨Lc47, hQ47, l47, y47, z47⟩, st47⟩ := X38.virtualBack hx (y := (⟨"com/example/watermark/watermark/server/TransactionState$Phase", "isEnding", "()Z"⟩ : MethodName)) (z := (⟨"com/example/watermark/watermark/server/TransactionState$Phase", "isEnding", "()Z"⟩ : MethodName)) hown (mvT hZ (hw _ (List.mem_of_getElem? (i := 17) rfl))) (mvT hZ (hw _ (List.mem_of_getElem? (i := 18) rfl))) (notFace_of_selects (args := #[]) (mvT hZ (hw _ (List.mem_of_getElem? (i := 20) rfl)))) (mvT hZ (hw _ (List.mem_of_getElem? (i := 20) rfl))) (mvT hZ (hw _ (List.mem_of_getElem? (i := 19) rfl))) (by decide) (backOf (W := 0) (rm1n l Z a0 hw [] v0 v2 v3 h38 n0 Z_39 S2_38 S3_38 n2_0 n3_0) hZ (hw _ (List.mem_of_getElem? (i := 21) rfl)) (hw _ (List.mem_of_getElem? (i := 3) rfl)) (by decide) (by decide)) q47a q47c (g := (mkF m 87 #[.val (.int p1), .val (.int p2), .val (.ref b2), .val (.int (0 : Int32)), .val (.int (0 : Int32)), .val (.ref v0), .val (.int (0 : Int32)), .unset, .unset, .unset, .unset] [(.ref v0)])) rfl (by rw [hml]; rfl) (Steps.refl _) (argsL := []) (rest := []) (lenOf pd___Z rfl) rfl (by show 2 * 0 + _ ≤ _; exact Nat.le_of_eq rfl) (hb hby at_87) (fun _ _ => ⟨rfl, e38, (by decide : 1 + 0 ≤ _), (by decide : 6 + 0 ≤ _)⟩)
      dsimp only [Pt.U, Pt.locs, Pt.cells, Pt.slots] at X47 l47 y47 z47 st47 hQ47
      subst l47 y47 z47
      obtain ⟨rfl, N47q, e47⟩ := hQ47
      have N47 := Fr.app N38 N47q
      have P48 : ∀ t, Steps p.tables e below (T47.setTop (mkF m 90 #[.val (.int p1), .val (.int p2), .val (.ref b2), .val (.int (0 : Int32)), .val (.int (0 : Int32)), .val (.ref v0), .val (.int (0 : Int32)), .unset, .unset, .unset, .unset] [(.int (0 : Int32))])) t → Steps p.tables e below (s₁.setTop (mkF m 0 #[.val (.int p1), .val (.int p2), .unset, .unset, .unset, .unset, .unset, .unset, .unset, .unset, .unset] [])) t := fun t k => P46 t (st47.trans k)
      have P49 : ∀ t, Steps p.tables e below (T47.setTop (mkF m 96 #[.val (.int p1), .val (.int p2), .val (.ref b2), .val (.int (0 : Int32)), .val (.int (0 : Int32)), .val (.ref v0), .val (.int (0 : Int32)), .val (.int (0 : Int32)), .unset, .unset, .unset] [(.int (0 : Int32)), (.ref v0)])) t → Steps p.tables e below (s₁.setTop (mkF m 0 #[.val (.int p1), .val (.int p2), .unset, .unset, .unset, .unset, .unset, .unset, .unset, .unset, .unset] [])) t := fun t k => by
        refine P48 t ?_
        show Steps p.tables e below (T47.setTop (mkF m 90 #[.val (.int p1), .val (.int p2), .val (.ref b2), .val (.int (0 : Int32)), .val (.int (0 : Int32)), .val (.ref v0), .val (.int (0 : Int32)), .unset, .unset, .unset, .unset] [(.int (0 : Int32))])) t
        refine XS.istore X47.here hx rfl (hb hby at_90) rfl (l' := #[.val (.int p1), .val (.int p2), .val (.ref b2), .val (.int (0 : Int32)), .val (.int (0 : Int32)), .val (.ref v0), .val (.int (0 : Int32)), .val (.int (0 : Int32)), .unset, .unset, .unset]) rfl ?_
        show Steps p.tables e below (T47.setTop (mkF m 92 #[.val (.int p1), .val (.int p2), .val (.ref b2), .val (.int (0 : Int32)), .val (.int (0 : Int32)), .val (.ref v0), .val (.int (0 : Int32)), .val (.int (0 : Int32)), .unset, .unset, .unset] [])) t
        refine XS.aload X47.here hx rfl (hb hby at_92) rfl rfl ?_
        show Steps p.tables e below (T47.setTop (mkF m 94 #[.val (.int p1), .val (.int p2), .val (.ref b2), .val (.int (0 : Int32)), .val (.int (0 : Int32)), .val (.ref v0), .val (.int (0 : Int32)), .val (.int (0 : Int32)), .unset, .unset, .unset] [(.ref v0)])) t
        refine XS.iload X47.here hx rfl (hb hby at_94) rfl ?_
        exact k
      obtain ⟨_, _, ⟨T50, L50, k50, n50⟩, -, X50, ⟨Lc50, hQ50, l50, y50, z50⟩, st50⟩ := Jvm.LawKit.callS X47 hx (y := (⟨"com/example/watermark/watermark/server/TransactionState$Phase", "prepare", "(Z)Lcom/example/watermark/watermark/server/TransactionState$Phase;"⟩ : MethodName)) hown (mvT hZ (hw _ (List.mem_of_getElem? (i := 24) rfl))) (mvT hZ (hw _ (List.mem_of_getElem? (i := 25) rfl))) (mvT hZ (hw _ (List.mem_of_getElem? (i := 3) rfl))) (mvT hZ (hw _ (List.mem_of_getElem? (i := 26) rfl))) (by decide) (backOf (W := 1) (rm2f l Z a0 hw [] (0 : Int32) v3 h38 n0 Z_39 S3_38 rfl) hZ (hw _ (List.mem_of_getElem? (i := 26) rfl)) (hw _ (List.mem_of_getElem? (i := 3) rfl)) (by decide) (by decide)) (g := (mkF m 96 #[.val (.int p1), .val (.int p2), .val (.ref b2), .val (.int (0 : Int32)), .val (.int (0 : Int32)), .val (.ref v0), .val (.int (0 : Int32)), .val (.int (0 : Int32)), .unset, .unset, .unset] [(.int (0 : Int32)), (.ref v0)])) rfl (by rw [hml]; rfl) (argsL := [(.int (0 : Int32))]) (rest := [(.ref v0)]) (lenOf pd__Z_Lcom_example_watermark_watermark_server_TransactionState_Phase_ rfl) rfl (by show 2 * 0 + _ ≤ _; exact Nat.le_of_eq rfl) (hb hby at_96) (fun _ _ => ⟨rfl, e47, (by decide : 1 + 0 ≤ _), (by decide : 6 + 0 ≤ _)⟩)
      dsimp only [Pt.U, Pt.locs, Pt.cells, Pt.slots] at X50 l50 y50 z50 st50 hQ50
      subst l50 y50 z50
      obtain ⟨rfl, N50q, e50⟩ := hQ50
      have N50 := Fr.app N47 N50q
      have P51 : ∀ t, Steps p.tables e below (T50.setTop (mkF m 99 #[.val (.int p1), .val (.int p2), .val (.ref b2), .val (.int (0 : Int32)), .val (.int (0 : Int32)), .val (.ref v0), .val (.int (0 : Int32)), .val (.int (0 : Int32)), .unset, .unset, .unset] [(.ref v3), (.ref v0)])) t → Steps p.tables e below (s₁.setTop (mkF m 0 #[.val (.int p1), .val (.int p2), .unset, .unset, .unset, .unset, .unset, .unset, .unset, .unset, .unset] [])) t := fun t k => P49 t (st50 _ k)
      have P52 : ∀ t, Steps p.tables e below (T50.setTop (mkF m 114 #[.val (.int p1), .val (.int p2), .val (.ref b2), .val (.int (0 : Int32)), .val (.int (0 : Int32)), .val (.ref v0), .val (.int (0 : Int32)), .val (.int (0 : Int32)), .unset, .unset, .unset] [(.int (1 : Int32)), (.ref v0)])) t → Steps p.tables e below (s₁.setTop (mkF m 0 #[.val (.int p1), .val (.int p2), .unset, .unset, .unset, .unset, .unset, .unset, .unset, .unset, .unset] [])) t := fun t k => by
        refine P51 t ?_
        show Steps p.tables e below (T50.setTop (mkF m 99 #[.val (.int p1), .val (.int p2), .val (.ref b2), .val (.int (0 : Int32)), .val (.int (0 : Int32)), .val (.ref v0), .val (.int (0 : Int32)), .val (.int (0 : Int32)), .unset, .unset, .unset] [(.ref v3), (.ref v0)])) t
        refine Jvm.RoadKit.acmp (g := (mkF m 99 #[.val (.int p1), .val (.int p2), .val (.ref b2), .val (.int (0 : Int32)), .val (.int (0 : Int32)), .val (.ref v0), .val (.int (0 : Int32)), .val (.int (0 : Int32)), .unset, .unset, .unset] [(.ref v3), (.ref v0)])) X50 hx rfl rfl rfl (pc0 := 99) (pc' := 102) (same := false) rfl (hb hby at_99) rfl (decide_eq_false fun q => n3_0 (Value.ref.inj q)) (by decide) (by decide) ?_
        show Steps p.tables e below (T50.setTop (mkF m 102 #[.val (.int p1), .val (.int p2), .val (.ref b2), .val (.int (0 : Int32)), .val (.int (0 : Int32)), .val (.ref v0), .val (.int (0 : Int32)), .val (.int (0 : Int32)), .unset, .unset, .unset] [])) t
        refine XS.aload X50.here hx rfl (hb hby at_102) rfl rfl ?_
        show Steps p.tables e below (T50.setTop (mkF m 104 #[.val (.int p1), .val (.int p2), .val (.ref b2), .val (.int (0 : Int32)), .val (.int (0 : Int32)), .val (.ref v0), .val (.int (0 : Int32)), .val (.int (0 : Int32)), .unset, .unset, .unset] [(.ref v0)])) t
        refine XS.iload X50.here hx rfl (hb hby at_104) rfl ?_
        show Steps p.tables e below (T50.setTop (mkF m 106 #[.val (.int p1), .val (.int p2), .val (.ref b2), .val (.int (0 : Int32)), .val (.int (0 : Int32)), .val (.ref v0), .val (.int (0 : Int32)), .val (.int (0 : Int32)), .unset, .unset, .unset] [(.int (0 : Int32)), (.ref v0)])) t
        refine XS.ifNo X50.here hx rfl (hb hby at_106) rfl ((if0 _ _).trans (teq rfl).2) ?_
        show Steps p.tables e below (T50.setTop (mkF m 109 #[.val (.int p1), .val (.int p2), .val (.ref b2), .val (.int (0 : Int32)), .val (.int (0 : Int32)), .val (.ref v0), .val (.int (0 : Int32)), .val (.int (0 : Int32)), .unset, .unset, .unset] [(.ref v0)])) t
        refine XS.iconst X50.here hx rfl (hb hby at_109) ?_
        show Steps p.tables e below (T50.setTop (mkF m 110 #[.val (.int p1), .val (.int p2), .val (.ref b2), .val (.int (0 : Int32)), .val (.int (0 : Int32)), .val (.ref v0), .val (.int (0 : Int32)), .val (.int (0 : Int32)), .unset, .unset, .unset] [(.int (1 : Int32)), (.ref v0)])) t
        refine XS.goto X50.here hx rfl (pc0 := 110) (pc' := 114) rfl (hb hby at_110) (by decide) (by decide) ?_
        exact k
      obtain ⟨_, _, ⟨T53, L53, k53, n53⟩, -, X53, ⟨Lc53, hQ53, l53, y53, z53⟩, st53⟩ := Jvm.LawKit.callS X50 hx (y := (⟨"com/example/watermark/watermark/server/TransactionState$Phase", "prepare", "(Z)Lcom/example/watermark/watermark/server/TransactionState$Phase;"⟩ : MethodName)) hown (mvT hZ (hw _ (List.mem_of_getElem? (i := 24) rfl))) (mvT hZ (hw _ (List.mem_of_getElem? (i := 25) rfl))) (mvT hZ (hw _ (List.mem_of_getElem? (i := 3) rfl))) (mvT hZ (hw _ (List.mem_of_getElem? (i := 26) rfl))) (by decide) (backOf (W := 1) (rm2t l Z a0 hw [] (1 : Int32) v2 h38 n0 Z_39 S2_38 (by decide)) hZ (hw _ (List.mem_of_getElem? (i := 26) rfl)) (hw _ (List.mem_of_getElem? (i := 3) rfl)) (by decide) (by decide)) (g := (mkF m 114 #[.val (.int p1), .val (.int p2), .val (.ref b2), .val (.int (0 : Int32)), .val (.int (0 : Int32)), .val (.ref v0), .val (.int (0 : Int32)), .val (.int (0 : Int32)), .unset, .unset, .unset] [(.int (1 : Int32)), (.ref v0)])) rfl (by rw [hml]; rfl) (argsL := [(.int (1 : Int32))]) (rest := [(.ref v0)]) (lenOf pd__Z_Lcom_example_watermark_watermark_server_TransactionState_Phase_ rfl) rfl (by show 2 * 0 + _ ≤ _; exact Nat.le_of_eq rfl) (hb hby at_114) (fun _ _ => ⟨rfl, e50, (by decide : 1 + 0 ≤ _), (by decide : 6 + 0 ≤ _)⟩)
      dsimp only [Pt.U, Pt.locs, Pt.cells, Pt.slots] at X53 l53 y53 z53 st53 hQ53
      subst l53 y53 z53
      obtain ⟨rfl, N53q, e53⟩ := hQ53
      have N53 := Fr.app N50 N53q
      have P54 : ∀ t, Steps p.tables e below (T53.setTop (mkF m 117 #[.val (.int p1), .val (.int p2), .val (.ref b2), .val (.int (0 : Int32)), .val (.int (0 : Int32)), .val (.ref v0), .val (.int (0 : Int32)), .val (.int (0 : Int32)), .unset, .unset, .unset] [(.ref v2), (.ref v0)])) t → Steps p.tables e below (s₁.setTop (mkF m 0 #[.val (.int p1), .val (.int p2), .unset, .unset, .unset, .unset, .unset, .unset, .unset, .unset, .unset] [])) t := fun t k => P52 t (st53 _ k)
      have P55 : ∀ t, Steps p.tables e below (T53.setTop (mkF m 129 #[.val (.int p1), .val (.int p2), .val (.ref b2), .val (.int (0 : Int32)), .val (.int (0 : Int32)), .val (.ref v0), .val (.int (0 : Int32)), .val (.int (0 : Int32)), .val (.int (0 : Int32)), .unset, .unset] [(.int (0 : Int32))])) t → Steps p.tables e below (s₁.setTop (mkF m 0 #[.val (.int p1), .val (.int p2), .unset, .unset, .unset, .unset, .unset, .unset, .unset, .unset, .unset] [])) t := fun t k => by
        refine P54 t ?_
        show Steps p.tables e below (T53.setTop (mkF m 117 #[.val (.int p1), .val (.int p2), .val (.ref b2), .val (.int (0 : Int32)), .val (.int (0 : Int32)), .val (.ref v0), .val (.int (0 : Int32)), .val (.int (0 : Int32)), .unset, .unset, .unset] [(.ref v2), (.ref v0)])) t
        refine Jvm.RoadKit.acmp (g := (mkF m 117 #[.val (.int p1), .val (.int p2), .val (.ref b2), .val (.int (0 : Int32)), .val (.int (0 : Int32)), .val (.ref v0), .val (.int (0 : Int32)), .val (.int (0 : Int32)), .unset, .unset, .unset] [(.ref v2), (.ref v0)])) X53 hx rfl rfl rfl (pc0 := 117) (pc' := 124) (same := false) rfl (hb hby at_117) rfl (decide_eq_false fun q => n2_0 (Value.ref.inj q)) (by decide) (by decide) ?_
        show Steps p.tables e below (T53.setTop (mkF m 124 #[.val (.int p1), .val (.int p2), .val (.ref b2), .val (.int (0 : Int32)), .val (.int (0 : Int32)), .val (.ref v0), .val (.int (0 : Int32)), .val (.int (0 : Int32)), .unset, .unset, .unset] [])) t
        refine XS.iconst X53.here hx rfl (hb hby at_124) ?_
        show Steps p.tables e below (T53.setTop (mkF m 125 #[.val (.int p1), .val (.int p2), .val (.ref b2), .val (.int (0 : Int32)), .val (.int (0 : Int32)), .val (.ref v0), .val (.int (0 : Int32)), .val (.int (0 : Int32)), .unset, .unset, .unset] [(.int (0 : Int32))])) t
        refine XS.istore X53.here hx rfl (hb hby at_125) rfl (l' := #[.val (.int p1), .val (.int p2), .val (.ref b2), .val (.int (0 : Int32)), .val (.int (0 : Int32)), .val (.ref v0), .val (.int (0 : Int32)), .val (.int (0 : Int32)), .val (.int (0 : Int32)), .unset, .unset]) rfl ?_
        show Steps p.tables e below (T53.setTop (mkF m 127 #[.val (.int p1), .val (.int p2), .val (.ref b2), .val (.int (0 : Int32)), .val (.int (0 : Int32)), .val (.ref v0), .val (.int (0 : Int32)), .val (.int (0 : Int32)), .val (.int (0 : Int32)), .unset, .unset] [])) t
        refine XS.iload X53.here hx rfl (hb hby at_127) rfl ?_
        exact k
      obtain ⟨_, _, ⟨T56, L56, k56, n56⟩, -, X56, ⟨Lc56, hQ56, l56, y56, z56⟩, st56⟩ := Jvm.LawKit.callS X53 hx (y := (⟨"com/example/watermark/watermark/server/TransactionState$Phase", "prepare", "(Z)Lcom/example/watermark/watermark/server/TransactionState$Phase;"⟩ : MethodName)) hown (mvT hZ (hw _ (List.mem_of_getElem? (i := 24) rfl))) (mvT hZ (hw _ (List.mem_of_getElem? (i := 25) rfl))) (mvT hZ (hw _ (List.mem_of_getElem? (i := 3) rfl))) (mvT hZ (hw _ (List.mem_of_getElem? (i := 26) rfl))) (by decide) (backOf (W := 0) (rm2f l Z a0 hw [] (0 : Int32) v3 h38 n0 Z_39 S3_38 rfl) hZ (hw _ (List.mem_of_getElem? (i := 26) rfl)) (hw _ (List.mem_of_getElem? (i := 3) rfl)) (by decide) (by decide)) (g := (mkF m 129 #[.val (.int p1), .val (.int p2), .val (.ref b2), .val (.int (0 : Int32)), .val (.int (0 : Int32)), .val (.ref v0), .val (.int (0 : Int32)), .val (.int (0 : Int32)), .val (.int (0 : Int32)), .unset, .unset] [(.int (0 : Int32))])) rfl (by rw [hml]; rfl) (argsL := [(.int (0 : Int32))]) (rest := []) (lenOf pd__Z_Lcom_example_watermark_watermark_server_TransactionState_Phase_ rfl) rfl (by show 2 * 0 + _ ≤ _; exact Nat.le_of_eq rfl) (hb hby at_129) (fun _ _ => ⟨rfl, e53, (by decide : 1 + 0 ≤ _), (by decide : 6 + 0 ≤ _)⟩)
      dsimp only [Pt.U, Pt.locs, Pt.cells, Pt.slots] at X56 l56 y56 z56 st56 hQ56
      subst l56 y56 z56
      obtain ⟨rfl, N56q, e56⟩ := hQ56
      have N56 := Fr.app N53 N56q
      have P57 : ∀ t, Steps p.tables e below (T56.setTop (mkF m 132 #[.val (.int p1), .val (.int p2), .val (.ref b2), .val (.int (0 : Int32)), .val (.int (0 : Int32)), .val (.ref v0), .val (.int (0 : Int32)), .val (.int (0 : Int32)), .val (.int (0 : Int32)), .unset, .unset] [(.ref v3)])) t → Steps p.tables e below (s₁.setTop (mkF m 0 #[.val (.int p1), .val (.int p2), .unset, .unset, .unset, .unset, .unset, .unset, .unset, .unset, .unset] [])) t := fun t k => P55 t (st56 _ k)
      obtain ⟨cq58, kq58, q58a, q58b, q58c⟩ := isOf hZ e56 EX3_38
      obtain ⟨_, _, ⟨T58, L58, k58, n58⟩, -, X58, ⟨Lc58, hQ58, l58, y58, z58⟩, st58⟩ := X56.virtualBack hx (y := (⟨"com/example/watermark/watermark/server/TransactionState$Phase", "isEnding", "()Z"⟩ : MethodName)) (z := (⟨"com/example/watermark/watermark/server/TransactionState$Phase", "isEnding", "()Z"⟩ : MethodName)) hown (mvT hZ (hw _ (List.mem_of_getElem? (i := 17) rfl))) (mvT hZ (hw _ (List.mem_of_getElem? (i := 18) rfl))) (notFace_of_selects (args := #[]) (mvT hZ (hw _ (List.mem_of_getElem? (i := 20) rfl)))) (mvT hZ (hw _ (List.mem_of_getElem? (i := 20) rfl))) (mvT hZ (hw _ (List.mem_of_getElem? (i := 19) rfl))) (by decide) (backOf (W := 0) (rm1s l Z a0 hw [] v3 v2 v3 h38 n0 Z_39 S2_38 S3_38 n2_3 rfl) hZ (hw _ (List.mem_of_getElem? (i := 21) rfl)) (hw _ (List.mem_of_getElem? (i := 3) rfl)) (by decide) (by decide)) q58a q58c (g := (mkF m 132 #[.val (.int p1), .val (.int p2), .val (.ref b2), .val (.int (0 : Int32)), .val (.int (0 : Int32)), .val (.ref v0), .val (.int (0 : Int32)), .val (.int (0 : Int32)), .val (.int (0 : Int32)), .unset, .unset] [(.ref v3)])) rfl (by rw [hml]; rfl) (Steps.refl _) (argsL := []) (rest := []) (lenOf pd___Z rfl) rfl (by show 2 * 0 + _ ≤ _; exact Nat.le_of_eq rfl) (hb hby at_132) (fun _ _ => ⟨rfl, e56, (by decide : 1 + 0 ≤ _), (by decide : 6 + 0 ≤ _)⟩)
      dsimp only [Pt.U, Pt.locs, Pt.cells, Pt.slots] at X58 l58 y58 z58 st58 hQ58
      subst l58 y58 z58
      obtain ⟨rfl, N58q, e58⟩ := hQ58
      have N58 := Fr.app N56 N58q
      have P59 : ∀ t, Steps p.tables e below (T58.setTop (mkF m 135 #[.val (.int p1), .val (.int p2), .val (.ref b2), .val (.int (0 : Int32)), .val (.int (0 : Int32)), .val (.ref v0), .val (.int (0 : Int32)), .val (.int (0 : Int32)), .val (.int (0 : Int32)), .unset, .unset] [(.int (1 : Int32))])) t → Steps p.tables e below (s₁.setTop (mkF m 0 #[.val (.int p1), .val (.int p2), .unset, .unset, .unset, .unset, .unset, .unset, .unset, .unset, .unset] [])) t := fun t k => P57 t (st58.trans k)
      have P60 : ∀ t, Steps p.tables e below (T58.setTop (mkF m 139 #[.val (.int p1), .val (.int p2), .val (.ref b2), .val (.int (0 : Int32)), .val (.int (0 : Int32)), .val (.ref v0), .val (.int (0 : Int32)), .val (.int (0 : Int32)), .val (.int (0 : Int32)), .val (.int (1 : Int32)), .unset] [(.int (0 : Int32))])) t → Steps p.tables e below (s₁.setTop (mkF m 0 #[.val (.int p1), .val (.int p2), .unset, .unset, .unset, .unset, .unset, .unset, .unset, .unset, .unset] [])) t := fun t k => by
        refine P59 t ?_
        show Steps p.tables e below (T58.setTop (mkF m 135 #[.val (.int p1), .val (.int p2), .val (.ref b2), .val (.int (0 : Int32)), .val (.int (0 : Int32)), .val (.ref v0), .val (.int (0 : Int32)), .val (.int (0 : Int32)), .val (.int (0 : Int32)), .unset, .unset] [(.int (1 : Int32))])) t
        refine XS.istore X58.here hx rfl (hb hby at_135) rfl (l' := #[.val (.int p1), .val (.int p2), .val (.ref b2), .val (.int (0 : Int32)), .val (.int (0 : Int32)), .val (.ref v0), .val (.int (0 : Int32)), .val (.int (0 : Int32)), .val (.int (0 : Int32)), .val (.int (1 : Int32)), .unset]) rfl ?_
        show Steps p.tables e below (T58.setTop (mkF m 137 #[.val (.int p1), .val (.int p2), .val (.ref b2), .val (.int (0 : Int32)), .val (.int (0 : Int32)), .val (.ref v0), .val (.int (0 : Int32)), .val (.int (0 : Int32)), .val (.int (0 : Int32)), .val (.int (1 : Int32)), .unset] [])) t
        refine XS.iload X58.here hx rfl (hb hby at_137) rfl ?_
        exact k
      obtain ⟨_, _, ⟨T61, L61, k61, n61⟩, -, X61, ⟨Lc61, hQ61, l61, y61, z61⟩, st61⟩ := Jvm.LawKit.callS X58 hx (y := (⟨"com/example/watermark/watermark/server/TransactionState$Phase", "complete", "(Z)Lcom/example/watermark/watermark/server/TransactionState$Phase;"⟩ : MethodName)) hown (mvT hZ (hw _ (List.mem_of_getElem? (i := 27) rfl))) (mvT hZ (hw _ (List.mem_of_getElem? (i := 28) rfl))) (mvT hZ (hw _ (List.mem_of_getElem? (i := 3) rfl))) (mvT hZ (hw _ (List.mem_of_getElem? (i := 29) rfl))) (by decide) (backOf (W := 0) (rm3f l Z a0 hw [] (0 : Int32) v5 h38 n0 Z_39 S5_38 rfl) hZ (hw _ (List.mem_of_getElem? (i := 29) rfl)) (hw _ (List.mem_of_getElem? (i := 3) rfl)) (by decide) (by decide)) (g := (mkF m 139 #[.val (.int p1), .val (.int p2), .val (.ref b2), .val (.int (0 : Int32)), .val (.int (0 : Int32)), .val (.ref v0), .val (.int (0 : Int32)), .val (.int (0 : Int32)), .val (.int (0 : Int32)), .val (.int (1 : Int32)), .unset] [(.int (0 : Int32))])) rfl (by rw [hml]; rfl) (argsL := [(.int (0 : Int32))]) (rest := []) (lenOf pd__Z_Lcom_example_watermark_watermark_server_TransactionState_Phase_ rfl) rfl (by show 2 * 0 + _ ≤ _; exact Nat.le_of_eq rfl) (hb hby at_139) (fun _ _ => ⟨rfl, e58, (by decide : 1 + 0 ≤ _), (by decide : 6 + 0 ≤ _)⟩)
      dsimp only [Pt.U, Pt.locs, Pt.cells, Pt.slots] at X61 l61 y61 z61 st61 hQ61
      subst l61 y61 z61
      obtain ⟨rfl, N61q, e61⟩ := hQ61
      have N61 := Fr.app N58 N61q
      have P62 : ∀ t, Steps p.tables e below (T61.setTop (mkF m 142 #[.val (.int p1), .val (.int p2), .val (.ref b2), .val (.int (0 : Int32)), .val (.int (0 : Int32)), .val (.ref v0), .val (.int (0 : Int32)), .val (.int (0 : Int32)), .val (.int (0 : Int32)), .val (.int (1 : Int32)), .unset] [(.ref v5)])) t → Steps p.tables e below (s₁.setTop (mkF m 0 #[.val (.int p1), .val (.int p2), .unset, .unset, .unset, .unset, .unset, .unset, .unset, .unset, .unset] [])) t := fun t k => P60 t (st61 _ k)
      obtain ⟨cq63, kq63, q63a, q63b, q63c⟩ := isOf hZ e61 EX5_38
      obtain ⟨_, _, ⟨T63, L63, k63, n63⟩, -, X63, ⟨Lc63, hQ63, l63, y63, z63⟩, st63⟩ := X61.virtualBack hx (y := (⟨"com/example/watermark/watermark/server/TransactionState$Phase", "isEnding", "()Z"⟩ : MethodName)) (z := (⟨"com/example/watermark/watermark/server/TransactionState$Phase", "isEnding", "()Z"⟩ : MethodName)) hown (mvT hZ (hw _ (List.mem_of_getElem? (i := 17) rfl))) (mvT hZ (hw _ (List.mem_of_getElem? (i := 18) rfl))) (notFace_of_selects (args := #[]) (mvT hZ (hw _ (List.mem_of_getElem? (i := 20) rfl)))) (mvT hZ (hw _ (List.mem_of_getElem? (i := 20) rfl))) (mvT hZ (hw _ (List.mem_of_getElem? (i := 19) rfl))) (by decide) (backOf (W := 0) (rm1n l Z a0 hw [] v5 v2 v3 h38 n0 Z_39 S2_38 S3_38 n2_5 n3_5) hZ (hw _ (List.mem_of_getElem? (i := 21) rfl)) (hw _ (List.mem_of_getElem? (i := 3) rfl)) (by decide) (by decide)) q63a q63c (g := (mkF m 142 #[.val (.int p1), .val (.int p2), .val (.ref b2), .val (.int (0 : Int32)), .val (.int (0 : Int32)), .val (.ref v0), .val (.int (0 : Int32)), .val (.int (0 : Int32)), .val (.int (0 : Int32)), .val (.int (1 : Int32)), .unset] [(.ref v5)])) rfl (by rw [hml]; rfl) (Steps.refl _) (argsL := []) (rest := []) (lenOf pd___Z rfl) rfl (by show 2 * 0 + _ ≤ _; exact Nat.le_of_eq rfl) (hb hby at_142) (fun _ _ => ⟨rfl, e61, (by decide : 1 + 0 ≤ _), (by decide : 6 + 0 ≤ _)⟩)
      dsimp only [Pt.U, Pt.locs, Pt.cells, Pt.slots] at X63 l63 y63 z63 st63 hQ63
      subst l63 y63 z63
      obtain ⟨rfl, N63q, e63⟩ := hQ63
      have N63 := Fr.app N61 N63q
      have P64 : ∀ t, Steps p.tables e below (T63.setTop (mkF m 145 #[.val (.int p1), .val (.int p2), .val (.ref b2), .val (.int (0 : Int32)), .val (.int (0 : Int32)), .val (.ref v0), .val (.int (0 : Int32)), .val (.int (0 : Int32)), .val (.int (0 : Int32)), .val (.int (1 : Int32)), .unset] [(.int (0 : Int32))])) t → Steps p.tables e below (s₁.setTop (mkF m 0 #[.val (.int p1), .val (.int p2), .unset, .unset, .unset, .unset, .unset, .unset, .unset, .unset, .unset] [])) t := fun t k => P62 t (st63.trans k)
      have P65 : ∀ t, Steps p.tables e below (T63.setTop (mkF m 176 #[.val (.int p1), .val (.int p2), .val (.ref b2), .val (.int (0 : Int32)), .val (.int (0 : Int32)), .val (.ref v0), .val (.int (0 : Int32)), .val (.int (0 : Int32)), .val (.int (0 : Int32)), .val (.int (1 : Int32)), .val (.int (0 : Int32))] [(.int (1 : Int32))])) t → Steps p.tables e below (s₁.setTop (mkF m 0 #[.val (.int p1), .val (.int p2), .unset, .unset, .unset, .unset, .unset, .unset, .unset, .unset, .unset] [])) t := fun t k => by
        refine P64 t ?_
        show Steps p.tables e below (T63.setTop (mkF m 145 #[.val (.int p1), .val (.int p2), .val (.ref b2), .val (.int (0 : Int32)), .val (.int (0 : Int32)), .val (.ref v0), .val (.int (0 : Int32)), .val (.int (0 : Int32)), .val (.int (0 : Int32)), .val (.int (1 : Int32)), .unset] [(.int (0 : Int32))])) t
        refine XS.istore X63.here hx rfl (hb hby at_145) rfl (l' := #[.val (.int p1), .val (.int p2), .val (.ref b2), .val (.int (0 : Int32)), .val (.int (0 : Int32)), .val (.ref v0), .val (.int (0 : Int32)), .val (.int (0 : Int32)), .val (.int (0 : Int32)), .val (.int (1 : Int32)), .val (.int (0 : Int32))]) rfl ?_
        show Steps p.tables e below (T63.setTop (mkF m 147 #[.val (.int p1), .val (.int p2), .val (.ref b2), .val (.int (0 : Int32)), .val (.int (0 : Int32)), .val (.ref v0), .val (.int (0 : Int32)), .val (.int (0 : Int32)), .val (.int (0 : Int32)), .val (.int (1 : Int32)), .val (.int (0 : Int32))] [])) t
        refine XS.iload X63.here hx rfl (hb hby at_147) rfl ?_
        show Steps p.tables e below (T63.setTop (mkF m 149 #[.val (.int p1), .val (.int p2), .val (.ref b2), .val (.int (0 : Int32)), .val (.int (0 : Int32)), .val (.ref v0), .val (.int (0 : Int32)), .val (.int (0 : Int32)), .val (.int (0 : Int32)), .val (.int (1 : Int32)), .val (.int (0 : Int32))] [(.int (0 : Int32))])) t
        refine XS.iload X63.here hx rfl (hb hby at_149) rfl ?_
        show Steps p.tables e below (T63.setTop (mkF m 151 #[.val (.int p1), .val (.int p2), .val (.ref b2), .val (.int (0 : Int32)), .val (.int (0 : Int32)), .val (.ref v0), .val (.int (0 : Int32)), .val (.int (0 : Int32)), .val (.int (0 : Int32)), .val (.int (1 : Int32)), .val (.int (0 : Int32))] [(.int (0 : Int32)), (.int (0 : Int32))])) t
        refine XS.icmpNo X63.here hx rfl (hb hby at_151) rfl (teq rfl).2 ?_
        show Steps p.tables e below (T63.setTop (mkF m 154 #[.val (.int p1), .val (.int p2), .val (.ref b2), .val (.int (0 : Int32)), .val (.int (0 : Int32)), .val (.ref v0), .val (.int (0 : Int32)), .val (.int (0 : Int32)), .val (.int (0 : Int32)), .val (.int (1 : Int32)), .val (.int (0 : Int32))] [])) t
        refine XS.iload X63.here hx rfl (hb hby at_154) rfl ?_
        show Steps p.tables e below (T63.setTop (mkF m 156 #[.val (.int p1), .val (.int p2), .val (.ref b2), .val (.int (0 : Int32)), .val (.int (0 : Int32)), .val (.ref v0), .val (.int (0 : Int32)), .val (.int (0 : Int32)), .val (.int (0 : Int32)), .val (.int (1 : Int32)), .val (.int (0 : Int32))] [(.int (0 : Int32))])) t
        refine XS.iload X63.here hx rfl (hb hby at_156) rfl ?_
        show Steps p.tables e below (T63.setTop (mkF m 158 #[.val (.int p1), .val (.int p2), .val (.ref b2), .val (.int (0 : Int32)), .val (.int (0 : Int32)), .val (.ref v0), .val (.int (0 : Int32)), .val (.int (0 : Int32)), .val (.int (0 : Int32)), .val (.int (1 : Int32)), .val (.int (0 : Int32))] [(.int (0 : Int32)), (.int (0 : Int32))])) t
        refine XS.icmpNo X63.here hx rfl (hb hby at_158) rfl (teq rfl).2 ?_
        show Steps p.tables e below (T63.setTop (mkF m 161 #[.val (.int p1), .val (.int p2), .val (.ref b2), .val (.int (0 : Int32)), .val (.int (0 : Int32)), .val (.ref v0), .val (.int (0 : Int32)), .val (.int (0 : Int32)), .val (.int (0 : Int32)), .val (.int (1 : Int32)), .val (.int (0 : Int32))] [])) t
        refine XS.iload X63.here hx rfl (hb hby at_161) rfl ?_
        show Steps p.tables e below (T63.setTop (mkF m 163 #[.val (.int p1), .val (.int p2), .val (.ref b2), .val (.int (0 : Int32)), .val (.int (0 : Int32)), .val (.ref v0), .val (.int (0 : Int32)), .val (.int (0 : Int32)), .val (.int (0 : Int32)), .val (.int (1 : Int32)), .val (.int (0 : Int32))] [(.int (1 : Int32))])) t
        refine XS.ifNo X63.here hx rfl (hb hby at_163) rfl ((if0 _ _).trans (feq (by decide)).1) ?_
        show Steps p.tables e below (T63.setTop (mkF m 166 #[.val (.int p1), .val (.int p2), .val (.ref b2), .val (.int (0 : Int32)), .val (.int (0 : Int32)), .val (.ref v0), .val (.int (0 : Int32)), .val (.int (0 : Int32)), .val (.int (0 : Int32)), .val (.int (1 : Int32)), .val (.int (0 : Int32))] [])) t
        refine XS.iload X63.here hx rfl (hb hby at_166) rfl ?_
        show Steps p.tables e below (T63.setTop (mkF m 168 #[.val (.int p1), .val (.int p2), .val (.ref b2), .val (.int (0 : Int32)), .val (.int (0 : Int32)), .val (.ref v0), .val (.int (0 : Int32)), .val (.int (0 : Int32)), .val (.int (0 : Int32)), .val (.int (1 : Int32)), .val (.int (0 : Int32))] [(.int (0 : Int32))])) t
        refine XS.ifNo X63.here hx rfl (hb hby at_168) rfl ((if0 _ _).trans (teq rfl).2) ?_
        show Steps p.tables e below (T63.setTop (mkF m 171 #[.val (.int p1), .val (.int p2), .val (.ref b2), .val (.int (0 : Int32)), .val (.int (0 : Int32)), .val (.ref v0), .val (.int (0 : Int32)), .val (.int (0 : Int32)), .val (.int (0 : Int32)), .val (.int (1 : Int32)), .val (.int (0 : Int32))] [])) t
        refine XS.iconst X63.here hx rfl (hb hby at_171) ?_
        show Steps p.tables e below (T63.setTop (mkF m 172 #[.val (.int p1), .val (.int p2), .val (.ref b2), .val (.int (0 : Int32)), .val (.int (0 : Int32)), .val (.ref v0), .val (.int (0 : Int32)), .val (.int (0 : Int32)), .val (.int (0 : Int32)), .val (.int (1 : Int32)), .val (.int (0 : Int32))] [(.int (1 : Int32))])) t
        refine XS.goto X63.here hx rfl (pc0 := 172) (pc' := 176) rfl (hb hby at_172) (by decide) (by decide) ?_
        exact k
      obtain ⟨fs, hr, hrun, hended, hW, hsame⟩ := X63.leave (v := some (.int (1 : Int32))) (fun h => by rw [Bd.returns] at h; cases h)
      refine ⟨_, _, pre0 _ (P65 _ ?_), hrun, hended, _, _, rfl, ?_, ⟨_, rfl⟩, hW, hsame.mono (by decide) (by decide)⟩
      · exact retN X63 hx (t := .boolean) Bd.returns (by simp) (hb hby at_176) hr
      · show Q0 Z p1 p2 v0 v1 v2 v3 v4 v5 h0 n0 _ T63.heap _
        rw [e63]
        exact ⟨rfl, N63⟩
    · obtain ⟨cl66, Ar66, q66, S66_, N66_, H66_, G66_⟩ := V_b2_38
      have hin66 : ¬ ((1 : Int32) < 0 ∨ cl66.slots.size ≤ ((1 : Int32)).toNatClampNeg) := inb_of S66_ ⟨by decide, by decide⟩
      have P67 : ∀ t, Steps p.tables e below (T38.setTop (mkF m 87 #[.val (.int p1), .val (.int p2), .val (.ref b2), .val (.int (1 : Int32)), .val (.int (0 : Int32)), .val (.ref v1), .val (.int (0 : Int32)), .unset, .unset, .unset, .unset] [(.ref v1)])) t → Steps p.tables e below (s₁.setTop (mkF m 0 #[.val (.int p1), .val (.int p2), .unset, .unset, .unset, .unset, .unset, .unset, .unset, .unset, .unset] [])) t := fun t k => by
        refine P44 t ?_
        show Steps p.tables e below (T38.setTop (mkF m 63 #[.val (.int p1), .val (.int p2), .val (.ref b2), .val (.int (1 : Int32)), .val (.int (0 : Int32)), .unset, .unset, .unset, .unset, .unset, .unset] [])) t
        refine XS.aloadN X38.here hx rfl (hb hby at_63) rfl rfl ?_
        show Steps p.tables e below (T38.setTop (mkF m 64 #[.val (.int p1), .val (.int p2), .val (.ref b2), .val (.int (1 : Int32)), .val (.int (0 : Int32)), .unset, .unset, .unset, .unset, .unset, .unset] [(.ref b2)])) t
        refine XS.iloadN X38.here hx rfl (hb hby at_64) rfl ?_
        show Steps p.tables e below (T38.setTop (mkF m 65 #[.val (.int p1), .val (.int p2), .val (.ref b2), .val (.int (1 : Int32)), .val (.int (0 : Int32)), .unset, .unset, .unset, .unset, .unset, .unset] [(.int (1 : Int32)), (.ref b2)])) t
        refine X38.aaload hx (j := (1 : Int32)) (v := (.ref v1)) (by rw [e38]; exact Ar66.1) (State.isArrayOf_alike hZ.alike Ar66.2.1) rfl Ar66.2.2 hin66 (Has.at H66_ hin66 rfl) (g := (mkF m 65 #[.val (.int p1), .val (.int p2), .val (.ref b2), .val (.int (1 : Int32)), .val (.int (0 : Int32)), .unset, .unset, .unset, .unset, .unset, .unset] [(.int (1 : Int32)), (.ref b2)])) rfl rfl (hb hby at_65) _ ?_
        show Steps p.tables e below (T38.setTop (mkF m 66 #[.val (.int p1), .val (.int p2), .val (.ref b2), .val (.int (1 : Int32)), .val (.int (0 : Int32)), .unset, .unset, .unset, .unset, .unset, .unset] [(.ref v1)])) t
        refine XS.astore X38.here hx rfl (hb hby at_66) rfl rfl (l' := #[.val (.int p1), .val (.int p2), .val (.ref b2), .val (.int (1 : Int32)), .val (.int (0 : Int32)), .val (.ref v1), .unset, .unset, .unset, .unset, .unset]) rfl ?_
        show Steps p.tables e below (T38.setTop (mkF m 68 #[.val (.int p1), .val (.int p2), .val (.ref b2), .val (.int (1 : Int32)), .val (.int (0 : Int32)), .val (.ref v1), .unset, .unset, .unset, .unset, .unset] [])) t
        refine XS.iloadN X38.here hx rfl (hb hby at_68) rfl ?_
        show Steps p.tables e below (T38.setTop (mkF m 69 #[.val (.int p1), .val (.int p2), .val (.ref b2), .val (.int (1 : Int32)), .val (.int (0 : Int32)), .val (.ref v1), .unset, .unset, .unset, .unset, .unset] [(.int (1 : Int32))])) t
        refine XS.iconst X38.here hx rfl (hb hby at_69) ?_
        show Steps p.tables e below (T38.setTop (mkF m 70 #[.val (.int p1), .val (.int p2), .val (.ref b2), .val (.int (1 : Int32)), .val (.int (0 : Int32)), .val (.ref v1), .unset, .unset, .unset, .unset, .unset] [(.int (2 : Int32)), (.int (1 : Int32))])) t
        refine XS.icmpNo X38.here hx rfl (hb hby at_70) rfl (feq (by decide)).1 ?_
        show Steps p.tables e below (T38.setTop (mkF m 73 #[.val (.int p1), .val (.int p2), .val (.ref b2), .val (.int (1 : Int32)), .val (.int (0 : Int32)), .val (.ref v1), .unset, .unset, .unset, .unset, .unset] [])) t
        refine XS.iloadN X38.here hx rfl (hb hby at_73) rfl ?_
        show Steps p.tables e below (T38.setTop (mkF m 74 #[.val (.int p1), .val (.int p2), .val (.ref b2), .val (.int (1 : Int32)), .val (.int (0 : Int32)), .val (.ref v1), .unset, .unset, .unset, .unset, .unset] [(.int (1 : Int32))])) t
        refine XS.iconst X38.here hx rfl (hb hby at_74) ?_
        show Steps p.tables e below (T38.setTop (mkF m 75 #[.val (.int p1), .val (.int p2), .val (.ref b2), .val (.int (1 : Int32)), .val (.int (0 : Int32)), .val (.ref v1), .unset, .unset, .unset, .unset, .unset] [(.int (3 : Int32)), (.int (1 : Int32))])) t
        refine XS.icmpYes X38.here hx rfl (pc0 := 75) (pc' := 82) rfl (hb hby at_75) rfl (feq (by decide)).2 (by decide) (by decide) ?_
        show Steps p.tables e below (T38.setTop (mkF m 82 #[.val (.int p1), .val (.int p2), .val (.ref b2), .val (.int (1 : Int32)), .val (.int (0 : Int32)), .val (.ref v1), .unset, .unset, .unset, .unset, .unset] [])) t
        refine XS.iconst X38.here hx rfl (hb hby at_82) ?_
        show Steps p.tables e below (T38.setTop (mkF m 83 #[.val (.int p1), .val (.int p2), .val (.ref b2), .val (.int (1 : Int32)), .val (.int (0 : Int32)), .val (.ref v1), .unset, .unset, .unset, .unset, .unset] [(.int (0 : Int32))])) t
        refine XS.istore X38.here hx rfl (hb hby at_83) rfl (l' := #[.val (.int p1), .val (.int p2), .val (.ref b2), .val (.int (1 : Int32)), .val (.int (0 : Int32)), .val (.ref v1), .val (.int (0 : Int32)), .unset, .unset, .unset, .unset]) rfl ?_
        show Steps p.tables e below (T38.setTop (mkF m 85 #[.val (.int p1), .val (.int p2), .val (.ref b2), .val (.int (1 : Int32)), .val (.int (0 : Int32)), .val (.ref v1), .val (.int (0 : Int32)), .unset, .unset, .unset, .unset] [])) t
        refine XS.aload X38.here hx rfl (hb hby at_85) rfl rfl ?_
        exact k
      obtain ⟨cq68, kq68, q68a, q68b, q68c⟩ := isOf hZ e38 EX1_38
      obtain ⟨_, _, ⟨T68, L68, k68, n68⟩, -, X68, ⟨Lc68, hQ68, l68, y68, z68⟩, st68⟩ := X38.virtualBack hx (y := (⟨"com/example/watermark/watermark/server/TransactionState$Phase", "isEnding", "()Z"⟩ : MethodName)) (z := (⟨"com/example/watermark/watermark/server/TransactionState$Phase", "isEnding", "()Z"⟩ : MethodName)) hown (mvT hZ (hw _ (List.mem_of_getElem? (i := 17) rfl))) (mvT hZ (hw _ (List.mem_of_getElem? (i := 18) rfl))) (notFace_of_selects (args := #[]) (mvT hZ (hw _ (List.mem_of_getElem? (i := 20) rfl)))) (mvT hZ (hw _ (List.mem_of_getElem? (i := 20) rfl))) (mvT hZ (hw _ (List.mem_of_getElem? (i := 19) rfl))) (by decide) (backOf (W := 0) (rm1n l Z a0 hw [] v1 v2 v3 h38 n0 Z_39 S2_38 S3_38 n2_1 n3_1) hZ (hw _ (List.mem_of_getElem? (i := 21) rfl)) (hw _ (List.mem_of_getElem? (i := 3) rfl)) (by decide) (by decide)) q68a q68c (g := (mkF m 87 #[.val (.int p1), .val (.int p2), .val (.ref b2), .val (.int (1 : Int32)), .val (.int (0 : Int32)), .val (.ref v1), .val (.int (0 : Int32)), .unset, .unset, .unset, .unset] [(.ref v1)])) rfl (by rw [hml]; rfl) (Steps.refl _) (argsL := []) (rest := []) (lenOf pd___Z rfl) rfl (by show 2 * 0 + _ ≤ _; exact Nat.le_of_eq rfl) (hb hby at_87) (fun _ _ => ⟨rfl, e38, (by decide : 1 + 0 ≤ _), (by decide : 6 + 0 ≤ _)⟩)
      dsimp only [Pt.U, Pt.locs, Pt.cells, Pt.slots] at X68 l68 y68 z68 st68 hQ68
      subst l68 y68 z68
      obtain ⟨rfl, N68q, e68⟩ := hQ68
      have N68 := Fr.app N38 N68q
      have P69 : ∀ t, Steps p.tables e below (T68.setTop (mkF m 90 #[.val (.int p1), .val (.int p2), .val (.ref b2), .val (.int (1 : Int32)), .val (.int (0 : Int32)), .val (.ref v1), .val (.int (0 : Int32)), .unset, .unset, .unset, .unset] [(.int (0 : Int32))])) t → Steps p.tables e below (s₁.setTop (mkF m 0 #[.val (.int p1), .val (.int p2), .unset, .unset, .unset, .unset, .unset, .unset, .unset, .unset, .unset] [])) t := fun t k => P67 t (st68.trans k)
      have P70 : ∀ t, Steps p.tables e below (T68.setTop (mkF m 96 #[.val (.int p1), .val (.int p2), .val (.ref b2), .val (.int (1 : Int32)), .val (.int (0 : Int32)), .val (.ref v1), .val (.int (0 : Int32)), .val (.int (0 : Int32)), .unset, .unset, .unset] [(.int (0 : Int32)), (.ref v1)])) t → Steps p.tables e below (s₁.setTop (mkF m 0 #[.val (.int p1), .val (.int p2), .unset, .unset, .unset, .unset, .unset, .unset, .unset, .unset, .unset] [])) t := fun t k => by
        refine P69 t ?_
        show Steps p.tables e below (T68.setTop (mkF m 90 #[.val (.int p1), .val (.int p2), .val (.ref b2), .val (.int (1 : Int32)), .val (.int (0 : Int32)), .val (.ref v1), .val (.int (0 : Int32)), .unset, .unset, .unset, .unset] [(.int (0 : Int32))])) t
        refine XS.istore X68.here hx rfl (hb hby at_90) rfl (l' := #[.val (.int p1), .val (.int p2), .val (.ref b2), .val (.int (1 : Int32)), .val (.int (0 : Int32)), .val (.ref v1), .val (.int (0 : Int32)), .val (.int (0 : Int32)), .unset, .unset, .unset]) rfl ?_
        show Steps p.tables e below (T68.setTop (mkF m 92 #[.val (.int p1), .val (.int p2), .val (.ref b2), .val (.int (1 : Int32)), .val (.int (0 : Int32)), .val (.ref v1), .val (.int (0 : Int32)), .val (.int (0 : Int32)), .unset, .unset, .unset] [])) t
        refine XS.aload X68.here hx rfl (hb hby at_92) rfl rfl ?_
        show Steps p.tables e below (T68.setTop (mkF m 94 #[.val (.int p1), .val (.int p2), .val (.ref b2), .val (.int (1 : Int32)), .val (.int (0 : Int32)), .val (.ref v1), .val (.int (0 : Int32)), .val (.int (0 : Int32)), .unset, .unset, .unset] [(.ref v1)])) t
        refine XS.iload X68.here hx rfl (hb hby at_94) rfl ?_
        exact k
      obtain ⟨_, _, ⟨T71, L71, k71, n71⟩, -, X71, ⟨Lc71, hQ71, l71, y71, z71⟩, st71⟩ := Jvm.LawKit.callS X68 hx (y := (⟨"com/example/watermark/watermark/server/TransactionState$Phase", "prepare", "(Z)Lcom/example/watermark/watermark/server/TransactionState$Phase;"⟩ : MethodName)) hown (mvT hZ (hw _ (List.mem_of_getElem? (i := 24) rfl))) (mvT hZ (hw _ (List.mem_of_getElem? (i := 25) rfl))) (mvT hZ (hw _ (List.mem_of_getElem? (i := 3) rfl))) (mvT hZ (hw _ (List.mem_of_getElem? (i := 26) rfl))) (by decide) (backOf (W := 1) (rm2f l Z a0 hw [] (0 : Int32) v3 h38 n0 Z_39 S3_38 rfl) hZ (hw _ (List.mem_of_getElem? (i := 26) rfl)) (hw _ (List.mem_of_getElem? (i := 3) rfl)) (by decide) (by decide)) (g := (mkF m 96 #[.val (.int p1), .val (.int p2), .val (.ref b2), .val (.int (1 : Int32)), .val (.int (0 : Int32)), .val (.ref v1), .val (.int (0 : Int32)), .val (.int (0 : Int32)), .unset, .unset, .unset] [(.int (0 : Int32)), (.ref v1)])) rfl (by rw [hml]; rfl) (argsL := [(.int (0 : Int32))]) (rest := [(.ref v1)]) (lenOf pd__Z_Lcom_example_watermark_watermark_server_TransactionState_Phase_ rfl) rfl (by show 2 * 0 + _ ≤ _; exact Nat.le_of_eq rfl) (hb hby at_96) (fun _ _ => ⟨rfl, e68, (by decide : 1 + 0 ≤ _), (by decide : 6 + 0 ≤ _)⟩)
      dsimp only [Pt.U, Pt.locs, Pt.cells, Pt.slots] at X71 l71 y71 z71 st71 hQ71
      subst l71 y71 z71
      obtain ⟨rfl, N71q, e71⟩ := hQ71
      have N71 := Fr.app N68 N71q
      have P72 : ∀ t, Steps p.tables e below (T71.setTop (mkF m 99 #[.val (.int p1), .val (.int p2), .val (.ref b2), .val (.int (1 : Int32)), .val (.int (0 : Int32)), .val (.ref v1), .val (.int (0 : Int32)), .val (.int (0 : Int32)), .unset, .unset, .unset] [(.ref v3), (.ref v1)])) t → Steps p.tables e below (s₁.setTop (mkF m 0 #[.val (.int p1), .val (.int p2), .unset, .unset, .unset, .unset, .unset, .unset, .unset, .unset, .unset] [])) t := fun t k => P70 t (st71 _ k)
      have P73 : ∀ t, Steps p.tables e below (T71.setTop (mkF m 114 #[.val (.int p1), .val (.int p2), .val (.ref b2), .val (.int (1 : Int32)), .val (.int (0 : Int32)), .val (.ref v1), .val (.int (0 : Int32)), .val (.int (0 : Int32)), .unset, .unset, .unset] [(.int (1 : Int32)), (.ref v1)])) t → Steps p.tables e below (s₁.setTop (mkF m 0 #[.val (.int p1), .val (.int p2), .unset, .unset, .unset, .unset, .unset, .unset, .unset, .unset, .unset] [])) t := fun t k => by
        refine P72 t ?_
        show Steps p.tables e below (T71.setTop (mkF m 99 #[.val (.int p1), .val (.int p2), .val (.ref b2), .val (.int (1 : Int32)), .val (.int (0 : Int32)), .val (.ref v1), .val (.int (0 : Int32)), .val (.int (0 : Int32)), .unset, .unset, .unset] [(.ref v3), (.ref v1)])) t
        refine Jvm.RoadKit.acmp (g := (mkF m 99 #[.val (.int p1), .val (.int p2), .val (.ref b2), .val (.int (1 : Int32)), .val (.int (0 : Int32)), .val (.ref v1), .val (.int (0 : Int32)), .val (.int (0 : Int32)), .unset, .unset, .unset] [(.ref v3), (.ref v1)])) X71 hx rfl rfl rfl (pc0 := 99) (pc' := 102) (same := false) rfl (hb hby at_99) rfl (decide_eq_false fun q => n3_1 (Value.ref.inj q)) (by decide) (by decide) ?_
        show Steps p.tables e below (T71.setTop (mkF m 102 #[.val (.int p1), .val (.int p2), .val (.ref b2), .val (.int (1 : Int32)), .val (.int (0 : Int32)), .val (.ref v1), .val (.int (0 : Int32)), .val (.int (0 : Int32)), .unset, .unset, .unset] [])) t
        refine XS.aload X71.here hx rfl (hb hby at_102) rfl rfl ?_
        show Steps p.tables e below (T71.setTop (mkF m 104 #[.val (.int p1), .val (.int p2), .val (.ref b2), .val (.int (1 : Int32)), .val (.int (0 : Int32)), .val (.ref v1), .val (.int (0 : Int32)), .val (.int (0 : Int32)), .unset, .unset, .unset] [(.ref v1)])) t
        refine XS.iload X71.here hx rfl (hb hby at_104) rfl ?_
        show Steps p.tables e below (T71.setTop (mkF m 106 #[.val (.int p1), .val (.int p2), .val (.ref b2), .val (.int (1 : Int32)), .val (.int (0 : Int32)), .val (.ref v1), .val (.int (0 : Int32)), .val (.int (0 : Int32)), .unset, .unset, .unset] [(.int (0 : Int32)), (.ref v1)])) t
        refine XS.ifNo X71.here hx rfl (hb hby at_106) rfl ((if0 _ _).trans (teq rfl).2) ?_
        show Steps p.tables e below (T71.setTop (mkF m 109 #[.val (.int p1), .val (.int p2), .val (.ref b2), .val (.int (1 : Int32)), .val (.int (0 : Int32)), .val (.ref v1), .val (.int (0 : Int32)), .val (.int (0 : Int32)), .unset, .unset, .unset] [(.ref v1)])) t
        refine XS.iconst X71.here hx rfl (hb hby at_109) ?_
        show Steps p.tables e below (T71.setTop (mkF m 110 #[.val (.int p1), .val (.int p2), .val (.ref b2), .val (.int (1 : Int32)), .val (.int (0 : Int32)), .val (.ref v1), .val (.int (0 : Int32)), .val (.int (0 : Int32)), .unset, .unset, .unset] [(.int (1 : Int32)), (.ref v1)])) t
        refine XS.goto X71.here hx rfl (pc0 := 110) (pc' := 114) rfl (hb hby at_110) (by decide) (by decide) ?_
        exact k
      obtain ⟨_, _, ⟨T74, L74, k74, n74⟩, -, X74, ⟨Lc74, hQ74, l74, y74, z74⟩, st74⟩ := Jvm.LawKit.callS X71 hx (y := (⟨"com/example/watermark/watermark/server/TransactionState$Phase", "prepare", "(Z)Lcom/example/watermark/watermark/server/TransactionState$Phase;"⟩ : MethodName)) hown (mvT hZ (hw _ (List.mem_of_getElem? (i := 24) rfl))) (mvT hZ (hw _ (List.mem_of_getElem? (i := 25) rfl))) (mvT hZ (hw _ (List.mem_of_getElem? (i := 3) rfl))) (mvT hZ (hw _ (List.mem_of_getElem? (i := 26) rfl))) (by decide) (backOf (W := 1) (rm2t l Z a0 hw [] (1 : Int32) v2 h38 n0 Z_39 S2_38 (by decide)) hZ (hw _ (List.mem_of_getElem? (i := 26) rfl)) (hw _ (List.mem_of_getElem? (i := 3) rfl)) (by decide) (by decide)) (g := (mkF m 114 #[.val (.int p1), .val (.int p2), .val (.ref b2), .val (.int (1 : Int32)), .val (.int (0 : Int32)), .val (.ref v1), .val (.int (0 : Int32)), .val (.int (0 : Int32)), .unset, .unset, .unset] [(.int (1 : Int32)), (.ref v1)])) rfl (by rw [hml]; rfl) (argsL := [(.int (1 : Int32))]) (rest := [(.ref v1)]) (lenOf pd__Z_Lcom_example_watermark_watermark_server_TransactionState_Phase_ rfl) rfl (by show 2 * 0 + _ ≤ _; exact Nat.le_of_eq rfl) (hb hby at_114) (fun _ _ => ⟨rfl, e71, (by decide : 1 + 0 ≤ _), (by decide : 6 + 0 ≤ _)⟩)
      dsimp only [Pt.U, Pt.locs, Pt.cells, Pt.slots] at X74 l74 y74 z74 st74 hQ74
      subst l74 y74 z74
      obtain ⟨rfl, N74q, e74⟩ := hQ74
      have N74 := Fr.app N71 N74q
      have P75 : ∀ t, Steps p.tables e below (T74.setTop (mkF m 117 #[.val (.int p1), .val (.int p2), .val (.ref b2), .val (.int (1 : Int32)), .val (.int (0 : Int32)), .val (.ref v1), .val (.int (0 : Int32)), .val (.int (0 : Int32)), .unset, .unset, .unset] [(.ref v2), (.ref v1)])) t → Steps p.tables e below (s₁.setTop (mkF m 0 #[.val (.int p1), .val (.int p2), .unset, .unset, .unset, .unset, .unset, .unset, .unset, .unset, .unset] [])) t := fun t k => P73 t (st74 _ k)
      have P76 : ∀ t, Steps p.tables e below (T74.setTop (mkF m 129 #[.val (.int p1), .val (.int p2), .val (.ref b2), .val (.int (1 : Int32)), .val (.int (0 : Int32)), .val (.ref v1), .val (.int (0 : Int32)), .val (.int (0 : Int32)), .val (.int (0 : Int32)), .unset, .unset] [(.int (0 : Int32))])) t → Steps p.tables e below (s₁.setTop (mkF m 0 #[.val (.int p1), .val (.int p2), .unset, .unset, .unset, .unset, .unset, .unset, .unset, .unset, .unset] [])) t := fun t k => by
        refine P75 t ?_
        show Steps p.tables e below (T74.setTop (mkF m 117 #[.val (.int p1), .val (.int p2), .val (.ref b2), .val (.int (1 : Int32)), .val (.int (0 : Int32)), .val (.ref v1), .val (.int (0 : Int32)), .val (.int (0 : Int32)), .unset, .unset, .unset] [(.ref v2), (.ref v1)])) t
        refine Jvm.RoadKit.acmp (g := (mkF m 117 #[.val (.int p1), .val (.int p2), .val (.ref b2), .val (.int (1 : Int32)), .val (.int (0 : Int32)), .val (.ref v1), .val (.int (0 : Int32)), .val (.int (0 : Int32)), .unset, .unset, .unset] [(.ref v2), (.ref v1)])) X74 hx rfl rfl rfl (pc0 := 117) (pc' := 124) (same := false) rfl (hb hby at_117) rfl (decide_eq_false fun q => n2_1 (Value.ref.inj q)) (by decide) (by decide) ?_
        show Steps p.tables e below (T74.setTop (mkF m 124 #[.val (.int p1), .val (.int p2), .val (.ref b2), .val (.int (1 : Int32)), .val (.int (0 : Int32)), .val (.ref v1), .val (.int (0 : Int32)), .val (.int (0 : Int32)), .unset, .unset, .unset] [])) t
        refine XS.iconst X74.here hx rfl (hb hby at_124) ?_
        show Steps p.tables e below (T74.setTop (mkF m 125 #[.val (.int p1), .val (.int p2), .val (.ref b2), .val (.int (1 : Int32)), .val (.int (0 : Int32)), .val (.ref v1), .val (.int (0 : Int32)), .val (.int (0 : Int32)), .unset, .unset, .unset] [(.int (0 : Int32))])) t
        refine XS.istore X74.here hx rfl (hb hby at_125) rfl (l' := #[.val (.int p1), .val (.int p2), .val (.ref b2), .val (.int (1 : Int32)), .val (.int (0 : Int32)), .val (.ref v1), .val (.int (0 : Int32)), .val (.int (0 : Int32)), .val (.int (0 : Int32)), .unset, .unset]) rfl ?_
        show Steps p.tables e below (T74.setTop (mkF m 127 #[.val (.int p1), .val (.int p2), .val (.ref b2), .val (.int (1 : Int32)), .val (.int (0 : Int32)), .val (.ref v1), .val (.int (0 : Int32)), .val (.int (0 : Int32)), .val (.int (0 : Int32)), .unset, .unset] [])) t
        refine XS.iload X74.here hx rfl (hb hby at_127) rfl ?_
        exact k
      obtain ⟨_, _, ⟨T77, L77, k77, n77⟩, -, X77, ⟨Lc77, hQ77, l77, y77, z77⟩, st77⟩ := Jvm.LawKit.callS X74 hx (y := (⟨"com/example/watermark/watermark/server/TransactionState$Phase", "prepare", "(Z)Lcom/example/watermark/watermark/server/TransactionState$Phase;"⟩ : MethodName)) hown (mvT hZ (hw _ (List.mem_of_getElem? (i := 24) rfl))) (mvT hZ (hw _ (List.mem_of_getElem? (i := 25) rfl))) (mvT hZ (hw _ (List.mem_of_getElem? (i := 3) rfl))) (mvT hZ (hw _ (List.mem_of_getElem? (i := 26) rfl))) (by decide) (backOf (W := 0) (rm2f l Z a0 hw [] (0 : Int32) v3 h38 n0 Z_39 S3_38 rfl) hZ (hw _ (List.mem_of_getElem? (i := 26) rfl)) (hw _ (List.mem_of_getElem? (i := 3) rfl)) (by decide) (by decide)) (g := (mkF m 129 #[.val (.int p1), .val (.int p2), .val (.ref b2), .val (.int (1 : Int32)), .val (.int (0 : Int32)), .val (.ref v1), .val (.int (0 : Int32)), .val (.int (0 : Int32)), .val (.int (0 : Int32)), .unset, .unset] [(.int (0 : Int32))])) rfl (by rw [hml]; rfl) (argsL := [(.int (0 : Int32))]) (rest := []) (lenOf pd__Z_Lcom_example_watermark_watermark_server_TransactionState_Phase_ rfl) rfl (by show 2 * 0 + _ ≤ _; exact Nat.le_of_eq rfl) (hb hby at_129) (fun _ _ => ⟨rfl, e74, (by decide : 1 + 0 ≤ _), (by decide : 6 + 0 ≤ _)⟩)
      dsimp only [Pt.U, Pt.locs, Pt.cells, Pt.slots] at X77 l77 y77 z77 st77 hQ77
      subst l77 y77 z77
      obtain ⟨rfl, N77q, e77⟩ := hQ77
      have N77 := Fr.app N74 N77q
      have P78 : ∀ t, Steps p.tables e below (T77.setTop (mkF m 132 #[.val (.int p1), .val (.int p2), .val (.ref b2), .val (.int (1 : Int32)), .val (.int (0 : Int32)), .val (.ref v1), .val (.int (0 : Int32)), .val (.int (0 : Int32)), .val (.int (0 : Int32)), .unset, .unset] [(.ref v3)])) t → Steps p.tables e below (s₁.setTop (mkF m 0 #[.val (.int p1), .val (.int p2), .unset, .unset, .unset, .unset, .unset, .unset, .unset, .unset, .unset] [])) t := fun t k => P76 t (st77 _ k)
      obtain ⟨cq79, kq79, q79a, q79b, q79c⟩ := isOf hZ e77 EX3_38
      obtain ⟨_, _, ⟨T79, L79, k79, n79⟩, -, X79, ⟨Lc79, hQ79, l79, y79, z79⟩, st79⟩ := X77.virtualBack hx (y := (⟨"com/example/watermark/watermark/server/TransactionState$Phase", "isEnding", "()Z"⟩ : MethodName)) (z := (⟨"com/example/watermark/watermark/server/TransactionState$Phase", "isEnding", "()Z"⟩ : MethodName)) hown (mvT hZ (hw _ (List.mem_of_getElem? (i := 17) rfl))) (mvT hZ (hw _ (List.mem_of_getElem? (i := 18) rfl))) (notFace_of_selects (args := #[]) (mvT hZ (hw _ (List.mem_of_getElem? (i := 20) rfl)))) (mvT hZ (hw _ (List.mem_of_getElem? (i := 20) rfl))) (mvT hZ (hw _ (List.mem_of_getElem? (i := 19) rfl))) (by decide) (backOf (W := 0) (rm1s l Z a0 hw [] v3 v2 v3 h38 n0 Z_39 S2_38 S3_38 n2_3 rfl) hZ (hw _ (List.mem_of_getElem? (i := 21) rfl)) (hw _ (List.mem_of_getElem? (i := 3) rfl)) (by decide) (by decide)) q79a q79c (g := (mkF m 132 #[.val (.int p1), .val (.int p2), .val (.ref b2), .val (.int (1 : Int32)), .val (.int (0 : Int32)), .val (.ref v1), .val (.int (0 : Int32)), .val (.int (0 : Int32)), .val (.int (0 : Int32)), .unset, .unset] [(.ref v3)])) rfl (by rw [hml]; rfl) (Steps.refl _) (argsL := []) (rest := []) (lenOf pd___Z rfl) rfl (by show 2 * 0 + _ ≤ _; exact Nat.le_of_eq rfl) (hb hby at_132) (fun _ _ => ⟨rfl, e77, (by decide : 1 + 0 ≤ _), (by decide : 6 + 0 ≤ _)⟩)
      dsimp only [Pt.U, Pt.locs, Pt.cells, Pt.slots] at X79 l79 y79 z79 st79 hQ79
      subst l79 y79 z79
      obtain ⟨rfl, N79q, e79⟩ := hQ79
      have N79 := Fr.app N77 N79q
      have P80 : ∀ t, Steps p.tables e below (T79.setTop (mkF m 135 #[.val (.int p1), .val (.int p2), .val (.ref b2), .val (.int (1 : Int32)), .val (.int (0 : Int32)), .val (.ref v1), .val (.int (0 : Int32)), .val (.int (0 : Int32)), .val (.int (0 : Int32)), .unset, .unset] [(.int (1 : Int32))])) t → Steps p.tables e below (s₁.setTop (mkF m 0 #[.val (.int p1), .val (.int p2), .unset, .unset, .unset, .unset, .unset, .unset, .unset, .unset, .unset] [])) t := fun t k => P78 t (st79.trans k)
      have P81 : ∀ t, Steps p.tables e below (T79.setTop (mkF m 139 #[.val (.int p1), .val (.int p2), .val (.ref b2), .val (.int (1 : Int32)), .val (.int (0 : Int32)), .val (.ref v1), .val (.int (0 : Int32)), .val (.int (0 : Int32)), .val (.int (0 : Int32)), .val (.int (1 : Int32)), .unset] [(.int (0 : Int32))])) t → Steps p.tables e below (s₁.setTop (mkF m 0 #[.val (.int p1), .val (.int p2), .unset, .unset, .unset, .unset, .unset, .unset, .unset, .unset, .unset] [])) t := fun t k => by
        refine P80 t ?_
        show Steps p.tables e below (T79.setTop (mkF m 135 #[.val (.int p1), .val (.int p2), .val (.ref b2), .val (.int (1 : Int32)), .val (.int (0 : Int32)), .val (.ref v1), .val (.int (0 : Int32)), .val (.int (0 : Int32)), .val (.int (0 : Int32)), .unset, .unset] [(.int (1 : Int32))])) t
        refine XS.istore X79.here hx rfl (hb hby at_135) rfl (l' := #[.val (.int p1), .val (.int p2), .val (.ref b2), .val (.int (1 : Int32)), .val (.int (0 : Int32)), .val (.ref v1), .val (.int (0 : Int32)), .val (.int (0 : Int32)), .val (.int (0 : Int32)), .val (.int (1 : Int32)), .unset]) rfl ?_
        show Steps p.tables e below (T79.setTop (mkF m 137 #[.val (.int p1), .val (.int p2), .val (.ref b2), .val (.int (1 : Int32)), .val (.int (0 : Int32)), .val (.ref v1), .val (.int (0 : Int32)), .val (.int (0 : Int32)), .val (.int (0 : Int32)), .val (.int (1 : Int32)), .unset] [])) t
        refine XS.iload X79.here hx rfl (hb hby at_137) rfl ?_
        exact k
      obtain ⟨_, _, ⟨T82, L82, k82, n82⟩, -, X82, ⟨Lc82, hQ82, l82, y82, z82⟩, st82⟩ := Jvm.LawKit.callS X79 hx (y := (⟨"com/example/watermark/watermark/server/TransactionState$Phase", "complete", "(Z)Lcom/example/watermark/watermark/server/TransactionState$Phase;"⟩ : MethodName)) hown (mvT hZ (hw _ (List.mem_of_getElem? (i := 27) rfl))) (mvT hZ (hw _ (List.mem_of_getElem? (i := 28) rfl))) (mvT hZ (hw _ (List.mem_of_getElem? (i := 3) rfl))) (mvT hZ (hw _ (List.mem_of_getElem? (i := 29) rfl))) (by decide) (backOf (W := 0) (rm3f l Z a0 hw [] (0 : Int32) v5 h38 n0 Z_39 S5_38 rfl) hZ (hw _ (List.mem_of_getElem? (i := 29) rfl)) (hw _ (List.mem_of_getElem? (i := 3) rfl)) (by decide) (by decide)) (g := (mkF m 139 #[.val (.int p1), .val (.int p2), .val (.ref b2), .val (.int (1 : Int32)), .val (.int (0 : Int32)), .val (.ref v1), .val (.int (0 : Int32)), .val (.int (0 : Int32)), .val (.int (0 : Int32)), .val (.int (1 : Int32)), .unset] [(.int (0 : Int32))])) rfl (by rw [hml]; rfl) (argsL := [(.int (0 : Int32))]) (rest := []) (lenOf pd__Z_Lcom_example_watermark_watermark_server_TransactionState_Phase_ rfl) rfl (by show 2 * 0 + _ ≤ _; exact Nat.le_of_eq rfl) (hb hby at_139) (fun _ _ => ⟨rfl, e79, (by decide : 1 + 0 ≤ _), (by decide : 6 + 0 ≤ _)⟩)
      dsimp only [Pt.U, Pt.locs, Pt.cells, Pt.slots] at X82 l82 y82 z82 st82 hQ82
      subst l82 y82 z82
      obtain ⟨rfl, N82q, e82⟩ := hQ82
      have N82 := Fr.app N79 N82q
      have P83 : ∀ t, Steps p.tables e below (T82.setTop (mkF m 142 #[.val (.int p1), .val (.int p2), .val (.ref b2), .val (.int (1 : Int32)), .val (.int (0 : Int32)), .val (.ref v1), .val (.int (0 : Int32)), .val (.int (0 : Int32)), .val (.int (0 : Int32)), .val (.int (1 : Int32)), .unset] [(.ref v5)])) t → Steps p.tables e below (s₁.setTop (mkF m 0 #[.val (.int p1), .val (.int p2), .unset, .unset, .unset, .unset, .unset, .unset, .unset, .unset, .unset] [])) t := fun t k => P81 t (st82 _ k)
      obtain ⟨cq84, kq84, q84a, q84b, q84c⟩ := isOf hZ e82 EX5_38
      obtain ⟨_, _, ⟨T84, L84, k84, n84⟩, -, X84, ⟨Lc84, hQ84, l84, y84, z84⟩, st84⟩ := X82.virtualBack hx (y := (⟨"com/example/watermark/watermark/server/TransactionState$Phase", "isEnding", "()Z"⟩ : MethodName)) (z := (⟨"com/example/watermark/watermark/server/TransactionState$Phase", "isEnding", "()Z"⟩ : MethodName)) hown (mvT hZ (hw _ (List.mem_of_getElem? (i := 17) rfl))) (mvT hZ (hw _ (List.mem_of_getElem? (i := 18) rfl))) (notFace_of_selects (args := #[]) (mvT hZ (hw _ (List.mem_of_getElem? (i := 20) rfl)))) (mvT hZ (hw _ (List.mem_of_getElem? (i := 20) rfl))) (mvT hZ (hw _ (List.mem_of_getElem? (i := 19) rfl))) (by decide) (backOf (W := 0) (rm1n l Z a0 hw [] v5 v2 v3 h38 n0 Z_39 S2_38 S3_38 n2_5 n3_5) hZ (hw _ (List.mem_of_getElem? (i := 21) rfl)) (hw _ (List.mem_of_getElem? (i := 3) rfl)) (by decide) (by decide)) q84a q84c (g := (mkF m 142 #[.val (.int p1), .val (.int p2), .val (.ref b2), .val (.int (1 : Int32)), .val (.int (0 : Int32)), .val (.ref v1), .val (.int (0 : Int32)), .val (.int (0 : Int32)), .val (.int (0 : Int32)), .val (.int (1 : Int32)), .unset] [(.ref v5)])) rfl (by rw [hml]; rfl) (Steps.refl _) (argsL := []) (rest := []) (lenOf pd___Z rfl) rfl (by show 2 * 0 + _ ≤ _; exact Nat.le_of_eq rfl) (hb hby at_142) (fun _ _ => ⟨rfl, e82, (by decide : 1 + 0 ≤ _), (by decide : 6 + 0 ≤ _)⟩)
      dsimp only [Pt.U, Pt.locs, Pt.cells, Pt.slots] at X84 l84 y84 z84 st84 hQ84
      subst l84 y84 z84
      obtain ⟨rfl, N84q, e84⟩ := hQ84
      have N84 := Fr.app N82 N84q
      have P85 : ∀ t, Steps p.tables e below (T84.setTop (mkF m 145 #[.val (.int p1), .val (.int p2), .val (.ref b2), .val (.int (1 : Int32)), .val (.int (0 : Int32)), .val (.ref v1), .val (.int (0 : Int32)), .val (.int (0 : Int32)), .val (.int (0 : Int32)), .val (.int (1 : Int32)), .unset] [(.int (0 : Int32))])) t → Steps p.tables e below (s₁.setTop (mkF m 0 #[.val (.int p1), .val (.int p2), .unset, .unset, .unset, .unset, .unset, .unset, .unset, .unset, .unset] [])) t := fun t k => P83 t (st84.trans k)
      have P86 : ∀ t, Steps p.tables e below (T84.setTop (mkF m 176 #[.val (.int p1), .val (.int p2), .val (.ref b2), .val (.int (1 : Int32)), .val (.int (0 : Int32)), .val (.ref v1), .val (.int (0 : Int32)), .val (.int (0 : Int32)), .val (.int (0 : Int32)), .val (.int (1 : Int32)), .val (.int (0 : Int32))] [(.int (1 : Int32))])) t → Steps p.tables e below (s₁.setTop (mkF m 0 #[.val (.int p1), .val (.int p2), .unset, .unset, .unset, .unset, .unset, .unset, .unset, .unset, .unset] [])) t := fun t k => by
        refine P85 t ?_
        show Steps p.tables e below (T84.setTop (mkF m 145 #[.val (.int p1), .val (.int p2), .val (.ref b2), .val (.int (1 : Int32)), .val (.int (0 : Int32)), .val (.ref v1), .val (.int (0 : Int32)), .val (.int (0 : Int32)), .val (.int (0 : Int32)), .val (.int (1 : Int32)), .unset] [(.int (0 : Int32))])) t
        refine XS.istore X84.here hx rfl (hb hby at_145) rfl (l' := #[.val (.int p1), .val (.int p2), .val (.ref b2), .val (.int (1 : Int32)), .val (.int (0 : Int32)), .val (.ref v1), .val (.int (0 : Int32)), .val (.int (0 : Int32)), .val (.int (0 : Int32)), .val (.int (1 : Int32)), .val (.int (0 : Int32))]) rfl ?_
        show Steps p.tables e below (T84.setTop (mkF m 147 #[.val (.int p1), .val (.int p2), .val (.ref b2), .val (.int (1 : Int32)), .val (.int (0 : Int32)), .val (.ref v1), .val (.int (0 : Int32)), .val (.int (0 : Int32)), .val (.int (0 : Int32)), .val (.int (1 : Int32)), .val (.int (0 : Int32))] [])) t
        refine XS.iload X84.here hx rfl (hb hby at_147) rfl ?_
        show Steps p.tables e below (T84.setTop (mkF m 149 #[.val (.int p1), .val (.int p2), .val (.ref b2), .val (.int (1 : Int32)), .val (.int (0 : Int32)), .val (.ref v1), .val (.int (0 : Int32)), .val (.int (0 : Int32)), .val (.int (0 : Int32)), .val (.int (1 : Int32)), .val (.int (0 : Int32))] [(.int (0 : Int32))])) t
        refine XS.iload X84.here hx rfl (hb hby at_149) rfl ?_
        show Steps p.tables e below (T84.setTop (mkF m 151 #[.val (.int p1), .val (.int p2), .val (.ref b2), .val (.int (1 : Int32)), .val (.int (0 : Int32)), .val (.ref v1), .val (.int (0 : Int32)), .val (.int (0 : Int32)), .val (.int (0 : Int32)), .val (.int (1 : Int32)), .val (.int (0 : Int32))] [(.int (0 : Int32)), (.int (0 : Int32))])) t
        refine XS.icmpNo X84.here hx rfl (hb hby at_151) rfl (teq rfl).2 ?_
        show Steps p.tables e below (T84.setTop (mkF m 154 #[.val (.int p1), .val (.int p2), .val (.ref b2), .val (.int (1 : Int32)), .val (.int (0 : Int32)), .val (.ref v1), .val (.int (0 : Int32)), .val (.int (0 : Int32)), .val (.int (0 : Int32)), .val (.int (1 : Int32)), .val (.int (0 : Int32))] [])) t
        refine XS.iload X84.here hx rfl (hb hby at_154) rfl ?_
        show Steps p.tables e below (T84.setTop (mkF m 156 #[.val (.int p1), .val (.int p2), .val (.ref b2), .val (.int (1 : Int32)), .val (.int (0 : Int32)), .val (.ref v1), .val (.int (0 : Int32)), .val (.int (0 : Int32)), .val (.int (0 : Int32)), .val (.int (1 : Int32)), .val (.int (0 : Int32))] [(.int (0 : Int32))])) t
        refine XS.iload X84.here hx rfl (hb hby at_156) rfl ?_
        show Steps p.tables e below (T84.setTop (mkF m 158 #[.val (.int p1), .val (.int p2), .val (.ref b2), .val (.int (1 : Int32)), .val (.int (0 : Int32)), .val (.ref v1), .val (.int (0 : Int32)), .val (.int (0 : Int32)), .val (.int (0 : Int32)), .val (.int (1 : Int32)), .val (.int (0 : Int32))] [(.int (0 : Int32)), (.int (0 : Int32))])) t
        refine XS.icmpNo X84.here hx rfl (hb hby at_158) rfl (teq rfl).2 ?_
        show Steps p.tables e below (T84.setTop (mkF m 161 #[.val (.int p1), .val (.int p2), .val (.ref b2), .val (.int (1 : Int32)), .val (.int (0 : Int32)), .val (.ref v1), .val (.int (0 : Int32)), .val (.int (0 : Int32)), .val (.int (0 : Int32)), .val (.int (1 : Int32)), .val (.int (0 : Int32))] [])) t
        refine XS.iload X84.here hx rfl (hb hby at_161) rfl ?_
        show Steps p.tables e below (T84.setTop (mkF m 163 #[.val (.int p1), .val (.int p2), .val (.ref b2), .val (.int (1 : Int32)), .val (.int (0 : Int32)), .val (.ref v1), .val (.int (0 : Int32)), .val (.int (0 : Int32)), .val (.int (0 : Int32)), .val (.int (1 : Int32)), .val (.int (0 : Int32))] [(.int (1 : Int32))])) t
        refine XS.ifNo X84.here hx rfl (hb hby at_163) rfl ((if0 _ _).trans (feq (by decide)).1) ?_
        show Steps p.tables e below (T84.setTop (mkF m 166 #[.val (.int p1), .val (.int p2), .val (.ref b2), .val (.int (1 : Int32)), .val (.int (0 : Int32)), .val (.ref v1), .val (.int (0 : Int32)), .val (.int (0 : Int32)), .val (.int (0 : Int32)), .val (.int (1 : Int32)), .val (.int (0 : Int32))] [])) t
        refine XS.iload X84.here hx rfl (hb hby at_166) rfl ?_
        show Steps p.tables e below (T84.setTop (mkF m 168 #[.val (.int p1), .val (.int p2), .val (.ref b2), .val (.int (1 : Int32)), .val (.int (0 : Int32)), .val (.ref v1), .val (.int (0 : Int32)), .val (.int (0 : Int32)), .val (.int (0 : Int32)), .val (.int (1 : Int32)), .val (.int (0 : Int32))] [(.int (0 : Int32))])) t
        refine XS.ifNo X84.here hx rfl (hb hby at_168) rfl ((if0 _ _).trans (teq rfl).2) ?_
        show Steps p.tables e below (T84.setTop (mkF m 171 #[.val (.int p1), .val (.int p2), .val (.ref b2), .val (.int (1 : Int32)), .val (.int (0 : Int32)), .val (.ref v1), .val (.int (0 : Int32)), .val (.int (0 : Int32)), .val (.int (0 : Int32)), .val (.int (1 : Int32)), .val (.int (0 : Int32))] [])) t
        refine XS.iconst X84.here hx rfl (hb hby at_171) ?_
        show Steps p.tables e below (T84.setTop (mkF m 172 #[.val (.int p1), .val (.int p2), .val (.ref b2), .val (.int (1 : Int32)), .val (.int (0 : Int32)), .val (.ref v1), .val (.int (0 : Int32)), .val (.int (0 : Int32)), .val (.int (0 : Int32)), .val (.int (1 : Int32)), .val (.int (0 : Int32))] [(.int (1 : Int32))])) t
        refine XS.goto X84.here hx rfl (pc0 := 172) (pc' := 176) rfl (hb hby at_172) (by decide) (by decide) ?_
        exact k
      obtain ⟨fs, hr, hrun, hended, hW, hsame⟩ := X84.leave (v := some (.int (1 : Int32))) (fun h => by rw [Bd.returns] at h; cases h)
      refine ⟨_, _, pre0 _ (P86 _ ?_), hrun, hended, _, _, rfl, ?_, ⟨_, rfl⟩, hW, hsame.mono (by decide) (by decide)⟩
      · exact retN X84 hx (t := .boolean) Bd.returns (by simp) (hb hby at_176) hr
      · show Q0 Z p1 p2 v0 v1 v2 v3 v4 v5 h0 n0 _ T84.heap _
        rw [e84]
        exact ⟨rfl, N84⟩
    · obtain ⟨cl87, Ar87, q87, S87_, N87_, H87_, G87_⟩ := V_b2_38
      have hin87 : ¬ ((2 : Int32) < 0 ∨ cl87.slots.size ≤ ((2 : Int32)).toNatClampNeg) := inb_of S87_ ⟨by decide, by decide⟩
      have P88 : ∀ t, Steps p.tables e below (T38.setTop (mkF m 87 #[.val (.int p1), .val (.int p2), .val (.ref b2), .val (.int (2 : Int32)), .val (.int (0 : Int32)), .val (.ref v2), .val (.int (1 : Int32)), .unset, .unset, .unset, .unset] [(.ref v2)])) t → Steps p.tables e below (s₁.setTop (mkF m 0 #[.val (.int p1), .val (.int p2), .unset, .unset, .unset, .unset, .unset, .unset, .unset, .unset, .unset] [])) t := fun t k => by
        refine P44 t ?_
        show Steps p.tables e below (T38.setTop (mkF m 63 #[.val (.int p1), .val (.int p2), .val (.ref b2), .val (.int (2 : Int32)), .val (.int (0 : Int32)), .unset, .unset, .unset, .unset, .unset, .unset] [])) t
        refine XS.aloadN X38.here hx rfl (hb hby at_63) rfl rfl ?_
        show Steps p.tables e below (T38.setTop (mkF m 64 #[.val (.int p1), .val (.int p2), .val (.ref b2), .val (.int (2 : Int32)), .val (.int (0 : Int32)), .unset, .unset, .unset, .unset, .unset, .unset] [(.ref b2)])) t
        refine XS.iloadN X38.here hx rfl (hb hby at_64) rfl ?_
        show Steps p.tables e below (T38.setTop (mkF m 65 #[.val (.int p1), .val (.int p2), .val (.ref b2), .val (.int (2 : Int32)), .val (.int (0 : Int32)), .unset, .unset, .unset, .unset, .unset, .unset] [(.int (2 : Int32)), (.ref b2)])) t
        refine X38.aaload hx (j := (2 : Int32)) (v := (.ref v2)) (by rw [e38]; exact Ar87.1) (State.isArrayOf_alike hZ.alike Ar87.2.1) rfl Ar87.2.2 hin87 (Has.at H87_ hin87 rfl) (g := (mkF m 65 #[.val (.int p1), .val (.int p2), .val (.ref b2), .val (.int (2 : Int32)), .val (.int (0 : Int32)), .unset, .unset, .unset, .unset, .unset, .unset] [(.int (2 : Int32)), (.ref b2)])) rfl rfl (hb hby at_65) _ ?_
        show Steps p.tables e below (T38.setTop (mkF m 66 #[.val (.int p1), .val (.int p2), .val (.ref b2), .val (.int (2 : Int32)), .val (.int (0 : Int32)), .unset, .unset, .unset, .unset, .unset, .unset] [(.ref v2)])) t
        refine XS.astore X38.here hx rfl (hb hby at_66) rfl rfl (l' := #[.val (.int p1), .val (.int p2), .val (.ref b2), .val (.int (2 : Int32)), .val (.int (0 : Int32)), .val (.ref v2), .unset, .unset, .unset, .unset, .unset]) rfl ?_
        show Steps p.tables e below (T38.setTop (mkF m 68 #[.val (.int p1), .val (.int p2), .val (.ref b2), .val (.int (2 : Int32)), .val (.int (0 : Int32)), .val (.ref v2), .unset, .unset, .unset, .unset, .unset] [])) t
        refine XS.iloadN X38.here hx rfl (hb hby at_68) rfl ?_
        show Steps p.tables e below (T38.setTop (mkF m 69 #[.val (.int p1), .val (.int p2), .val (.ref b2), .val (.int (2 : Int32)), .val (.int (0 : Int32)), .val (.ref v2), .unset, .unset, .unset, .unset, .unset] [(.int (2 : Int32))])) t
        refine XS.iconst X38.here hx rfl (hb hby at_69) ?_
        show Steps p.tables e below (T38.setTop (mkF m 70 #[.val (.int p1), .val (.int p2), .val (.ref b2), .val (.int (2 : Int32)), .val (.int (0 : Int32)), .val (.ref v2), .unset, .unset, .unset, .unset, .unset] [(.int (2 : Int32)), (.int (2 : Int32))])) t
        refine XS.icmpYes X38.here hx rfl (pc0 := 70) (pc' := 78) rfl (hb hby at_70) rfl (teq rfl).1 (by decide) (by decide) ?_
        show Steps p.tables e below (T38.setTop (mkF m 78 #[.val (.int p1), .val (.int p2), .val (.ref b2), .val (.int (2 : Int32)), .val (.int (0 : Int32)), .val (.ref v2), .unset, .unset, .unset, .unset, .unset] [])) t
        refine XS.iconst X38.here hx rfl (hb hby at_78) ?_
        show Steps p.tables e below (T38.setTop (mkF m 79 #[.val (.int p1), .val (.int p2), .val (.ref b2), .val (.int (2 : Int32)), .val (.int (0 : Int32)), .val (.ref v2), .unset, .unset, .unset, .unset, .unset] [(.int (1 : Int32))])) t
        refine XS.goto X38.here hx rfl (pc0 := 79) (pc' := 83) rfl (hb hby at_79) (by decide) (by decide) ?_
        show Steps p.tables e below (T38.setTop (mkF m 83 #[.val (.int p1), .val (.int p2), .val (.ref b2), .val (.int (2 : Int32)), .val (.int (0 : Int32)), .val (.ref v2), .unset, .unset, .unset, .unset, .unset] [(.int (1 : Int32))])) t
        refine XS.istore X38.here hx rfl (hb hby at_83) rfl (l' := #[.val (.int p1), .val (.int p2), .val (.ref b2), .val (.int (2 : Int32)), .val (.int (0 : Int32)), .val (.ref v2), .val (.int (1 : Int32)), .unset, .unset, .unset, .unset]) rfl ?_
        show Steps p.tables e below (T38.setTop (mkF m 85 #[.val (.int p1), .val (.int p2), .val (.ref b2), .val (.int (2 : Int32)), .val (.int (0 : Int32)), .val (.ref v2), .val (.int (1 : Int32)), .unset, .unset, .unset, .unset] [])) t
        refine XS.aload X38.here hx rfl (hb hby at_85) rfl rfl ?_
        exact k
      obtain ⟨cq89, kq89, q89a, q89b, q89c⟩ := isOf hZ e38 EX2_38
      obtain ⟨_, _, ⟨T89, L89, k89, n89⟩, -, X89, ⟨Lc89, hQ89, l89, y89, z89⟩, st89⟩ := X38.virtualBack hx (y := (⟨"com/example/watermark/watermark/server/TransactionState$Phase", "isEnding", "()Z"⟩ : MethodName)) (z := (⟨"com/example/watermark/watermark/server/TransactionState$Phase", "isEnding", "()Z"⟩ : MethodName)) hown (mvT hZ (hw _ (List.mem_of_getElem? (i := 17) rfl))) (mvT hZ (hw _ (List.mem_of_getElem? (i := 18) rfl))) (notFace_of_selects (args := #[]) (mvT hZ (hw _ (List.mem_of_getElem? (i := 20) rfl)))) (mvT hZ (hw _ (List.mem_of_getElem? (i := 20) rfl))) (mvT hZ (hw _ (List.mem_of_getElem? (i := 19) rfl))) (by decide) (backOf (W := 0) (rm1c l Z a0 hw [] v2 v2 v3 h38 n0 Z_39 S2_38 S3_38 rfl) hZ (hw _ (List.mem_of_getElem? (i := 21) rfl)) (hw _ (List.mem_of_getElem? (i := 3) rfl)) (by decide) (by decide)) q89a q89c (g := (mkF m 87 #[.val (.int p1), .val (.int p2), .val (.ref b2), .val (.int (2 : Int32)), .val (.int (0 : Int32)), .val (.ref v2), .val (.int (1 : Int32)), .unset, .unset, .unset, .unset] [(.ref v2)])) rfl (by rw [hml]; rfl) (Steps.refl _) (argsL := []) (rest := []) (lenOf pd___Z rfl) rfl (by show 2 * 0 + _ ≤ _; exact Nat.le_of_eq rfl) (hb hby at_87) (fun _ _ => ⟨rfl, e38, (by decide : 1 + 0 ≤ _), (by decide : 6 + 0 ≤ _)⟩)
      dsimp only [Pt.U, Pt.locs, Pt.cells, Pt.slots] at X89 l89 y89 z89 st89 hQ89
      subst l89 y89 z89
      obtain ⟨rfl, N89q, e89⟩ := hQ89
      have N89 := Fr.app N38 N89q
      have P90 : ∀ t, Steps p.tables e below (T89.setTop (mkF m 90 #[.val (.int p1), .val (.int p2), .val (.ref b2), .val (.int (2 : Int32)), .val (.int (0 : Int32)), .val (.ref v2), .val (.int (1 : Int32)), .unset, .unset, .unset, .unset] [(.int (1 : Int32))])) t → Steps p.tables e below (s₁.setTop (mkF m 0 #[.val (.int p1), .val (.int p2), .unset, .unset, .unset, .unset, .unset, .unset, .unset, .unset, .unset] [])) t := fun t k => P88 t (st89.trans k)
      have P91 : ∀ t, Steps p.tables e below (T89.setTop (mkF m 96 #[.val (.int p1), .val (.int p2), .val (.ref b2), .val (.int (2 : Int32)), .val (.int (0 : Int32)), .val (.ref v2), .val (.int (1 : Int32)), .val (.int (1 : Int32)), .unset, .unset, .unset] [(.int (0 : Int32)), (.ref v2)])) t → Steps p.tables e below (s₁.setTop (mkF m 0 #[.val (.int p1), .val (.int p2), .unset, .unset, .unset, .unset, .unset, .unset, .unset, .unset, .unset] [])) t := fun t k => by
        refine P90 t ?_
        show Steps p.tables e below (T89.setTop (mkF m 90 #[.val (.int p1), .val (.int p2), .val (.ref b2), .val (.int (2 : Int32)), .val (.int (0 : Int32)), .val (.ref v2), .val (.int (1 : Int32)), .unset, .unset, .unset, .unset] [(.int (1 : Int32))])) t
        refine XS.istore X89.here hx rfl (hb hby at_90) rfl (l' := #[.val (.int p1), .val (.int p2), .val (.ref b2), .val (.int (2 : Int32)), .val (.int (0 : Int32)), .val (.ref v2), .val (.int (1 : Int32)), .val (.int (1 : Int32)), .unset, .unset, .unset]) rfl ?_
        show Steps p.tables e below (T89.setTop (mkF m 92 #[.val (.int p1), .val (.int p2), .val (.ref b2), .val (.int (2 : Int32)), .val (.int (0 : Int32)), .val (.ref v2), .val (.int (1 : Int32)), .val (.int (1 : Int32)), .unset, .unset, .unset] [])) t
        refine XS.aload X89.here hx rfl (hb hby at_92) rfl rfl ?_
        show Steps p.tables e below (T89.setTop (mkF m 94 #[.val (.int p1), .val (.int p2), .val (.ref b2), .val (.int (2 : Int32)), .val (.int (0 : Int32)), .val (.ref v2), .val (.int (1 : Int32)), .val (.int (1 : Int32)), .unset, .unset, .unset] [(.ref v2)])) t
        refine XS.iload X89.here hx rfl (hb hby at_94) rfl ?_
        exact k
      obtain ⟨_, _, ⟨T92, L92, k92, n92⟩, -, X92, ⟨Lc92, hQ92, l92, y92, z92⟩, st92⟩ := Jvm.LawKit.callS X89 hx (y := (⟨"com/example/watermark/watermark/server/TransactionState$Phase", "prepare", "(Z)Lcom/example/watermark/watermark/server/TransactionState$Phase;"⟩ : MethodName)) hown (mvT hZ (hw _ (List.mem_of_getElem? (i := 24) rfl))) (mvT hZ (hw _ (List.mem_of_getElem? (i := 25) rfl))) (mvT hZ (hw _ (List.mem_of_getElem? (i := 3) rfl))) (mvT hZ (hw _ (List.mem_of_getElem? (i := 26) rfl))) (by decide) (backOf (W := 1) (rm2f l Z a0 hw [] (0 : Int32) v3 h38 n0 Z_39 S3_38 rfl) hZ (hw _ (List.mem_of_getElem? (i := 26) rfl)) (hw _ (List.mem_of_getElem? (i := 3) rfl)) (by decide) (by decide)) (g := (mkF m 96 #[.val (.int p1), .val (.int p2), .val (.ref b2), .val (.int (2 : Int32)), .val (.int (0 : Int32)), .val (.ref v2), .val (.int (1 : Int32)), .val (.int (1 : Int32)), .unset, .unset, .unset] [(.int (0 : Int32)), (.ref v2)])) rfl (by rw [hml]; rfl) (argsL := [(.int (0 : Int32))]) (rest := [(.ref v2)]) (lenOf pd__Z_Lcom_example_watermark_watermark_server_TransactionState_Phase_ rfl) rfl (by show 2 * 0 + _ ≤ _; exact Nat.le_of_eq rfl) (hb hby at_96) (fun _ _ => ⟨rfl, e89, (by decide : 1 + 0 ≤ _), (by decide : 6 + 0 ≤ _)⟩)
      dsimp only [Pt.U, Pt.locs, Pt.cells, Pt.slots] at X92 l92 y92 z92 st92 hQ92
      subst l92 y92 z92
      obtain ⟨rfl, N92q, e92⟩ := hQ92
      have N92 := Fr.app N89 N92q
      have P93 : ∀ t, Steps p.tables e below (T92.setTop (mkF m 99 #[.val (.int p1), .val (.int p2), .val (.ref b2), .val (.int (2 : Int32)), .val (.int (0 : Int32)), .val (.ref v2), .val (.int (1 : Int32)), .val (.int (1 : Int32)), .unset, .unset, .unset] [(.ref v3), (.ref v2)])) t → Steps p.tables e below (s₁.setTop (mkF m 0 #[.val (.int p1), .val (.int p2), .unset, .unset, .unset, .unset, .unset, .unset, .unset, .unset, .unset] [])) t := fun t k => P91 t (st92 _ k)
      have P94 : ∀ t, Steps p.tables e below (T92.setTop (mkF m 114 #[.val (.int p1), .val (.int p2), .val (.ref b2), .val (.int (2 : Int32)), .val (.int (0 : Int32)), .val (.ref v2), .val (.int (1 : Int32)), .val (.int (1 : Int32)), .unset, .unset, .unset] [(.int (1 : Int32)), (.ref v2)])) t → Steps p.tables e below (s₁.setTop (mkF m 0 #[.val (.int p1), .val (.int p2), .unset, .unset, .unset, .unset, .unset, .unset, .unset, .unset, .unset] [])) t := fun t k => by
        refine P93 t ?_
        show Steps p.tables e below (T92.setTop (mkF m 99 #[.val (.int p1), .val (.int p2), .val (.ref b2), .val (.int (2 : Int32)), .val (.int (0 : Int32)), .val (.ref v2), .val (.int (1 : Int32)), .val (.int (1 : Int32)), .unset, .unset, .unset] [(.ref v3), (.ref v2)])) t
        refine Jvm.RoadKit.acmp (g := (mkF m 99 #[.val (.int p1), .val (.int p2), .val (.ref b2), .val (.int (2 : Int32)), .val (.int (0 : Int32)), .val (.ref v2), .val (.int (1 : Int32)), .val (.int (1 : Int32)), .unset, .unset, .unset] [(.ref v3), (.ref v2)])) X92 hx rfl rfl rfl (pc0 := 99) (pc' := 102) (same := false) rfl (hb hby at_99) rfl (decide_eq_false fun q => n3_2 (Value.ref.inj q)) (by decide) (by decide) ?_
        show Steps p.tables e below (T92.setTop (mkF m 102 #[.val (.int p1), .val (.int p2), .val (.ref b2), .val (.int (2 : Int32)), .val (.int (0 : Int32)), .val (.ref v2), .val (.int (1 : Int32)), .val (.int (1 : Int32)), .unset, .unset, .unset] [])) t
        refine XS.aload X92.here hx rfl (hb hby at_102) rfl rfl ?_
        show Steps p.tables e below (T92.setTop (mkF m 104 #[.val (.int p1), .val (.int p2), .val (.ref b2), .val (.int (2 : Int32)), .val (.int (0 : Int32)), .val (.ref v2), .val (.int (1 : Int32)), .val (.int (1 : Int32)), .unset, .unset, .unset] [(.ref v2)])) t
        refine XS.iload X92.here hx rfl (hb hby at_104) rfl ?_
        show Steps p.tables e below (T92.setTop (mkF m 106 #[.val (.int p1), .val (.int p2), .val (.ref b2), .val (.int (2 : Int32)), .val (.int (0 : Int32)), .val (.ref v2), .val (.int (1 : Int32)), .val (.int (1 : Int32)), .unset, .unset, .unset] [(.int (0 : Int32)), (.ref v2)])) t
        refine XS.ifNo X92.here hx rfl (hb hby at_106) rfl ((if0 _ _).trans (teq rfl).2) ?_
        show Steps p.tables e below (T92.setTop (mkF m 109 #[.val (.int p1), .val (.int p2), .val (.ref b2), .val (.int (2 : Int32)), .val (.int (0 : Int32)), .val (.ref v2), .val (.int (1 : Int32)), .val (.int (1 : Int32)), .unset, .unset, .unset] [(.ref v2)])) t
        refine XS.iconst X92.here hx rfl (hb hby at_109) ?_
        show Steps p.tables e below (T92.setTop (mkF m 110 #[.val (.int p1), .val (.int p2), .val (.ref b2), .val (.int (2 : Int32)), .val (.int (0 : Int32)), .val (.ref v2), .val (.int (1 : Int32)), .val (.int (1 : Int32)), .unset, .unset, .unset] [(.int (1 : Int32)), (.ref v2)])) t
        refine XS.goto X92.here hx rfl (pc0 := 110) (pc' := 114) rfl (hb hby at_110) (by decide) (by decide) ?_
        exact k
      obtain ⟨_, _, ⟨T95, L95, k95, n95⟩, -, X95, ⟨Lc95, hQ95, l95, y95, z95⟩, st95⟩ := Jvm.LawKit.callS X92 hx (y := (⟨"com/example/watermark/watermark/server/TransactionState$Phase", "prepare", "(Z)Lcom/example/watermark/watermark/server/TransactionState$Phase;"⟩ : MethodName)) hown (mvT hZ (hw _ (List.mem_of_getElem? (i := 24) rfl))) (mvT hZ (hw _ (List.mem_of_getElem? (i := 25) rfl))) (mvT hZ (hw _ (List.mem_of_getElem? (i := 3) rfl))) (mvT hZ (hw _ (List.mem_of_getElem? (i := 26) rfl))) (by decide) (backOf (W := 1) (rm2t l Z a0 hw [] (1 : Int32) v2 h38 n0 Z_39 S2_38 (by decide)) hZ (hw _ (List.mem_of_getElem? (i := 26) rfl)) (hw _ (List.mem_of_getElem? (i := 3) rfl)) (by decide) (by decide)) (g := (mkF m 114 #[.val (.int p1), .val (.int p2), .val (.ref b2), .val (.int (2 : Int32)), .val (.int (0 : Int32)), .val (.ref v2), .val (.int (1 : Int32)), .val (.int (1 : Int32)), .unset, .unset, .unset] [(.int (1 : Int32)), (.ref v2)])) rfl (by rw [hml]; rfl) (argsL := [(.int (1 : Int32))]) (rest := [(.ref v2)]) (lenOf pd__Z_Lcom_example_watermark_watermark_server_TransactionState_Phase_ rfl) rfl (by show 2 * 0 + _ ≤ _; exact Nat.le_of_eq rfl) (hb hby at_114) (fun _ _ => ⟨rfl, e92, (by decide : 1 + 0 ≤ _), (by decide : 6 + 0 ≤ _)⟩)
      dsimp only [Pt.U, Pt.locs, Pt.cells, Pt.slots] at X95 l95 y95 z95 st95 hQ95
      subst l95 y95 z95
      obtain ⟨rfl, N95q, e95⟩ := hQ95
      have N95 := Fr.app N92 N95q
      have P96 : ∀ t, Steps p.tables e below (T95.setTop (mkF m 117 #[.val (.int p1), .val (.int p2), .val (.ref b2), .val (.int (2 : Int32)), .val (.int (0 : Int32)), .val (.ref v2), .val (.int (1 : Int32)), .val (.int (1 : Int32)), .unset, .unset, .unset] [(.ref v2), (.ref v2)])) t → Steps p.tables e below (s₁.setTop (mkF m 0 #[.val (.int p1), .val (.int p2), .unset, .unset, .unset, .unset, .unset, .unset, .unset, .unset, .unset] [])) t := fun t k => P94 t (st95 _ k)
      have P97 : ∀ t, Steps p.tables e below (T95.setTop (mkF m 129 #[.val (.int p1), .val (.int p2), .val (.ref b2), .val (.int (2 : Int32)), .val (.int (0 : Int32)), .val (.ref v2), .val (.int (1 : Int32)), .val (.int (1 : Int32)), .val (.int (1 : Int32)), .unset, .unset] [(.int (0 : Int32))])) t → Steps p.tables e below (s₁.setTop (mkF m 0 #[.val (.int p1), .val (.int p2), .unset, .unset, .unset, .unset, .unset, .unset, .unset, .unset, .unset] [])) t := fun t k => by
        refine P96 t ?_
        show Steps p.tables e below (T95.setTop (mkF m 117 #[.val (.int p1), .val (.int p2), .val (.ref b2), .val (.int (2 : Int32)), .val (.int (0 : Int32)), .val (.ref v2), .val (.int (1 : Int32)), .val (.int (1 : Int32)), .unset, .unset, .unset] [(.ref v2), (.ref v2)])) t
        refine Jvm.RoadKit.acmp (g := (mkF m 117 #[.val (.int p1), .val (.int p2), .val (.ref b2), .val (.int (2 : Int32)), .val (.int (0 : Int32)), .val (.ref v2), .val (.int (1 : Int32)), .val (.int (1 : Int32)), .unset, .unset, .unset] [(.ref v2), (.ref v2)])) X95 hx rfl rfl rfl (pc0 := 117) (pc' := 120) (same := true) rfl (hb hby at_117) rfl (decide_eq_true rfl) (by decide) (by decide) ?_
        show Steps p.tables e below (T95.setTop (mkF m 120 #[.val (.int p1), .val (.int p2), .val (.ref b2), .val (.int (2 : Int32)), .val (.int (0 : Int32)), .val (.ref v2), .val (.int (1 : Int32)), .val (.int (1 : Int32)), .unset, .unset, .unset] [])) t
        refine XS.iconst X95.here hx rfl (hb hby at_120) ?_
        show Steps p.tables e below (T95.setTop (mkF m 121 #[.val (.int p1), .val (.int p2), .val (.ref b2), .val (.int (2 : Int32)), .val (.int (0 : Int32)), .val (.ref v2), .val (.int (1 : Int32)), .val (.int (1 : Int32)), .unset, .unset, .unset] [(.int (1 : Int32))])) t
        refine XS.goto X95.here hx rfl (pc0 := 121) (pc' := 125) rfl (hb hby at_121) (by decide) (by decide) ?_
        show Steps p.tables e below (T95.setTop (mkF m 125 #[.val (.int p1), .val (.int p2), .val (.ref b2), .val (.int (2 : Int32)), .val (.int (0 : Int32)), .val (.ref v2), .val (.int (1 : Int32)), .val (.int (1 : Int32)), .unset, .unset, .unset] [(.int (1 : Int32))])) t
        refine XS.istore X95.here hx rfl (hb hby at_125) rfl (l' := #[.val (.int p1), .val (.int p2), .val (.ref b2), .val (.int (2 : Int32)), .val (.int (0 : Int32)), .val (.ref v2), .val (.int (1 : Int32)), .val (.int (1 : Int32)), .val (.int (1 : Int32)), .unset, .unset]) rfl ?_
        show Steps p.tables e below (T95.setTop (mkF m 127 #[.val (.int p1), .val (.int p2), .val (.ref b2), .val (.int (2 : Int32)), .val (.int (0 : Int32)), .val (.ref v2), .val (.int (1 : Int32)), .val (.int (1 : Int32)), .val (.int (1 : Int32)), .unset, .unset] [])) t
        refine XS.iload X95.here hx rfl (hb hby at_127) rfl ?_
        exact k
      obtain ⟨_, _, ⟨T98, L98, k98, n98⟩, -, X98, ⟨Lc98, hQ98, l98, y98, z98⟩, st98⟩ := Jvm.LawKit.callS X95 hx (y := (⟨"com/example/watermark/watermark/server/TransactionState$Phase", "prepare", "(Z)Lcom/example/watermark/watermark/server/TransactionState$Phase;"⟩ : MethodName)) hown (mvT hZ (hw _ (List.mem_of_getElem? (i := 24) rfl))) (mvT hZ (hw _ (List.mem_of_getElem? (i := 25) rfl))) (mvT hZ (hw _ (List.mem_of_getElem? (i := 3) rfl))) (mvT hZ (hw _ (List.mem_of_getElem? (i := 26) rfl))) (by decide) (backOf (W := 0) (rm2f l Z a0 hw [] (0 : Int32) v3 h38 n0 Z_39 S3_38 rfl) hZ (hw _ (List.mem_of_getElem? (i := 26) rfl)) (hw _ (List.mem_of_getElem? (i := 3) rfl)) (by decide) (by decide)) (g := (mkF m 129 #[.val (.int p1), .val (.int p2), .val (.ref b2), .val (.int (2 : Int32)), .val (.int (0 : Int32)), .val (.ref v2), .val (.int (1 : Int32)), .val (.int (1 : Int32)), .val (.int (1 : Int32)), .unset, .unset] [(.int (0 : Int32))])) rfl (by rw [hml]; rfl) (argsL := [(.int (0 : Int32))]) (rest := []) (lenOf pd__Z_Lcom_example_watermark_watermark_server_TransactionState_Phase_ rfl) rfl (by show 2 * 0 + _ ≤ _; exact Nat.le_of_eq rfl) (hb hby at_129) (fun _ _ => ⟨rfl, e95, (by decide : 1 + 0 ≤ _), (by decide : 6 + 0 ≤ _)⟩)
      dsimp only [Pt.U, Pt.locs, Pt.cells, Pt.slots] at X98 l98 y98 z98 st98 hQ98
      subst l98 y98 z98
      obtain ⟨rfl, N98q, e98⟩ := hQ98
      have N98 := Fr.app N95 N98q
      have P99 : ∀ t, Steps p.tables e below (T98.setTop (mkF m 132 #[.val (.int p1), .val (.int p2), .val (.ref b2), .val (.int (2 : Int32)), .val (.int (0 : Int32)), .val (.ref v2), .val (.int (1 : Int32)), .val (.int (1 : Int32)), .val (.int (1 : Int32)), .unset, .unset] [(.ref v3)])) t → Steps p.tables e below (s₁.setTop (mkF m 0 #[.val (.int p1), .val (.int p2), .unset, .unset, .unset, .unset, .unset, .unset, .unset, .unset, .unset] [])) t := fun t k => P97 t (st98 _ k)
      obtain ⟨cq100, kq100, q100a, q100b, q100c⟩ := isOf hZ e98 EX3_38
      obtain ⟨_, _, ⟨T100, L100, k100, n100⟩, -, X100, ⟨Lc100, hQ100, l100, y100, z100⟩, st100⟩ := X98.virtualBack hx (y := (⟨"com/example/watermark/watermark/server/TransactionState$Phase", "isEnding", "()Z"⟩ : MethodName)) (z := (⟨"com/example/watermark/watermark/server/TransactionState$Phase", "isEnding", "()Z"⟩ : MethodName)) hown (mvT hZ (hw _ (List.mem_of_getElem? (i := 17) rfl))) (mvT hZ (hw _ (List.mem_of_getElem? (i := 18) rfl))) (notFace_of_selects (args := #[]) (mvT hZ (hw _ (List.mem_of_getElem? (i := 20) rfl)))) (mvT hZ (hw _ (List.mem_of_getElem? (i := 20) rfl))) (mvT hZ (hw _ (List.mem_of_getElem? (i := 19) rfl))) (by decide) (backOf (W := 0) (rm1s l Z a0 hw [] v3 v2 v3 h38 n0 Z_39 S2_38 S3_38 n2_3 rfl) hZ (hw _ (List.mem_of_getElem? (i := 21) rfl)) (hw _ (List.mem_of_getElem? (i := 3) rfl)) (by decide) (by decide)) q100a q100c (g := (mkF m 132 #[.val (.int p1), .val (.int p2), .val (.ref b2), .val (.int (2 : Int32)), .val (.int (0 : Int32)), .val (.ref v2), .val (.int (1 : Int32)), .val (.int (1 : Int32)), .val (.int (1 : Int32)), .unset, .unset] [(.ref v3)])) rfl (by rw [hml]; rfl) (Steps.refl _) (argsL := []) (rest := []) (lenOf pd___Z rfl) rfl (by show 2 * 0 + _ ≤ _; exact Nat.le_of_eq rfl) (hb hby at_132) (fun _ _ => ⟨rfl, e98, (by decide : 1 + 0 ≤ _), (by decide : 6 + 0 ≤ _)⟩)
      dsimp only [Pt.U, Pt.locs, Pt.cells, Pt.slots] at X100 l100 y100 z100 st100 hQ100
      subst l100 y100 z100
      obtain ⟨rfl, N100q, e100⟩ := hQ100
      have N100 := Fr.app N98 N100q
      have P101 : ∀ t, Steps p.tables e below (T100.setTop (mkF m 135 #[.val (.int p1), .val (.int p2), .val (.ref b2), .val (.int (2 : Int32)), .val (.int (0 : Int32)), .val (.ref v2), .val (.int (1 : Int32)), .val (.int (1 : Int32)), .val (.int (1 : Int32)), .unset, .unset] [(.int (1 : Int32))])) t → Steps p.tables e below (s₁.setTop (mkF m 0 #[.val (.int p1), .val (.int p2), .unset, .unset, .unset, .unset, .unset, .unset, .unset, .unset, .unset] [])) t := fun t k => P99 t (st100.trans k)
      have P102 : ∀ t, Steps p.tables e below (T100.setTop (mkF m 139 #[.val (.int p1), .val (.int p2), .val (.ref b2), .val (.int (2 : Int32)), .val (.int (0 : Int32)), .val (.ref v2), .val (.int (1 : Int32)), .val (.int (1 : Int32)), .val (.int (1 : Int32)), .val (.int (1 : Int32)), .unset] [(.int (0 : Int32))])) t → Steps p.tables e below (s₁.setTop (mkF m 0 #[.val (.int p1), .val (.int p2), .unset, .unset, .unset, .unset, .unset, .unset, .unset, .unset, .unset] [])) t := fun t k => by
        refine P101 t ?_
        show Steps p.tables e below (T100.setTop (mkF m 135 #[.val (.int p1), .val (.int p2), .val (.ref b2), .val (.int (2 : Int32)), .val (.int (0 : Int32)), .val (.ref v2), .val (.int (1 : Int32)), .val (.int (1 : Int32)), .val (.int (1 : Int32)), .unset, .unset] [(.int (1 : Int32))])) t
        refine XS.istore X100.here hx rfl (hb hby at_135) rfl (l' := #[.val (.int p1), .val (.int p2), .val (.ref b2), .val (.int (2 : Int32)), .val (.int (0 : Int32)), .val (.ref v2), .val (.int (1 : Int32)), .val (.int (1 : Int32)), .val (.int (1 : Int32)), .val (.int (1 : Int32)), .unset]) rfl ?_
        show Steps p.tables e below (T100.setTop (mkF m 137 #[.val (.int p1), .val (.int p2), .val (.ref b2), .val (.int (2 : Int32)), .val (.int (0 : Int32)), .val (.ref v2), .val (.int (1 : Int32)), .val (.int (1 : Int32)), .val (.int (1 : Int32)), .val (.int (1 : Int32)), .unset] [])) t
        refine XS.iload X100.here hx rfl (hb hby at_137) rfl ?_
        exact k
      obtain ⟨_, _, ⟨T103, L103, k103, n103⟩, -, X103, ⟨Lc103, hQ103, l103, y103, z103⟩, st103⟩ := Jvm.LawKit.callS X100 hx (y := (⟨"com/example/watermark/watermark/server/TransactionState$Phase", "complete", "(Z)Lcom/example/watermark/watermark/server/TransactionState$Phase;"⟩ : MethodName)) hown (mvT hZ (hw _ (List.mem_of_getElem? (i := 27) rfl))) (mvT hZ (hw _ (List.mem_of_getElem? (i := 28) rfl))) (mvT hZ (hw _ (List.mem_of_getElem? (i := 3) rfl))) (mvT hZ (hw _ (List.mem_of_getElem? (i := 29) rfl))) (by decide) (backOf (W := 0) (rm3f l Z a0 hw [] (0 : Int32) v5 h38 n0 Z_39 S5_38 rfl) hZ (hw _ (List.mem_of_getElem? (i := 29) rfl)) (hw _ (List.mem_of_getElem? (i := 3) rfl)) (by decide) (by decide)) (g := (mkF m 139 #[.val (.int p1), .val (.int p2), .val (.ref b2), .val (.int (2 : Int32)), .val (.int (0 : Int32)), .val (.ref v2), .val (.int (1 : Int32)), .val (.int (1 : Int32)), .val (.int (1 : Int32)), .val (.int (1 : Int32)), .unset] [(.int (0 : Int32))])) rfl (by rw [hml]; rfl) (argsL := [(.int (0 : Int32))]) (rest := []) (lenOf pd__Z_Lcom_example_watermark_watermark_server_TransactionState_Phase_ rfl) rfl (by show 2 * 0 + _ ≤ _; exact Nat.le_of_eq rfl) (hb hby at_139) (fun _ _ => ⟨rfl, e100, (by decide : 1 + 0 ≤ _), (by decide : 6 + 0 ≤ _)⟩)
      dsimp only [Pt.U, Pt.locs, Pt.cells, Pt.slots] at X103 l103 y103 z103 st103 hQ103
      subst l103 y103 z103
      obtain ⟨rfl, N103q, e103⟩ := hQ103
      have N103 := Fr.app N100 N103q
      have P104 : ∀ t, Steps p.tables e below (T103.setTop (mkF m 142 #[.val (.int p1), .val (.int p2), .val (.ref b2), .val (.int (2 : Int32)), .val (.int (0 : Int32)), .val (.ref v2), .val (.int (1 : Int32)), .val (.int (1 : Int32)), .val (.int (1 : Int32)), .val (.int (1 : Int32)), .unset] [(.ref v5)])) t → Steps p.tables e below (s₁.setTop (mkF m 0 #[.val (.int p1), .val (.int p2), .unset, .unset, .unset, .unset, .unset, .unset, .unset, .unset, .unset] [])) t := fun t k => P102 t (st103 _ k)
      obtain ⟨cq105, kq105, q105a, q105b, q105c⟩ := isOf hZ e103 EX5_38
      obtain ⟨_, _, ⟨T105, L105, k105, n105⟩, -, X105, ⟨Lc105, hQ105, l105, y105, z105⟩, st105⟩ := X103.virtualBack hx (y := (⟨"com/example/watermark/watermark/server/TransactionState$Phase", "isEnding", "()Z"⟩ : MethodName)) (z := (⟨"com/example/watermark/watermark/server/TransactionState$Phase", "isEnding", "()Z"⟩ : MethodName)) hown (mvT hZ (hw _ (List.mem_of_getElem? (i := 17) rfl))) (mvT hZ (hw _ (List.mem_of_getElem? (i := 18) rfl))) (notFace_of_selects (args := #[]) (mvT hZ (hw _ (List.mem_of_getElem? (i := 20) rfl)))) (mvT hZ (hw _ (List.mem_of_getElem? (i := 20) rfl))) (mvT hZ (hw _ (List.mem_of_getElem? (i := 19) rfl))) (by decide) (backOf (W := 0) (rm1n l Z a0 hw [] v5 v2 v3 h38 n0 Z_39 S2_38 S3_38 n2_5 n3_5) hZ (hw _ (List.mem_of_getElem? (i := 21) rfl)) (hw _ (List.mem_of_getElem? (i := 3) rfl)) (by decide) (by decide)) q105a q105c (g := (mkF m 142 #[.val (.int p1), .val (.int p2), .val (.ref b2), .val (.int (2 : Int32)), .val (.int (0 : Int32)), .val (.ref v2), .val (.int (1 : Int32)), .val (.int (1 : Int32)), .val (.int (1 : Int32)), .val (.int (1 : Int32)), .unset] [(.ref v5)])) rfl (by rw [hml]; rfl) (Steps.refl _) (argsL := []) (rest := []) (lenOf pd___Z rfl) rfl (by show 2 * 0 + _ ≤ _; exact Nat.le_of_eq rfl) (hb hby at_142) (fun _ _ => ⟨rfl, e103, (by decide : 1 + 0 ≤ _), (by decide : 6 + 0 ≤ _)⟩)
      dsimp only [Pt.U, Pt.locs, Pt.cells, Pt.slots] at X105 l105 y105 z105 st105 hQ105
      subst l105 y105 z105
      obtain ⟨rfl, N105q, e105⟩ := hQ105
      have N105 := Fr.app N103 N105q
      have P106 : ∀ t, Steps p.tables e below (T105.setTop (mkF m 145 #[.val (.int p1), .val (.int p2), .val (.ref b2), .val (.int (2 : Int32)), .val (.int (0 : Int32)), .val (.ref v2), .val (.int (1 : Int32)), .val (.int (1 : Int32)), .val (.int (1 : Int32)), .val (.int (1 : Int32)), .unset] [(.int (0 : Int32))])) t → Steps p.tables e below (s₁.setTop (mkF m 0 #[.val (.int p1), .val (.int p2), .unset, .unset, .unset, .unset, .unset, .unset, .unset, .unset, .unset] [])) t := fun t k => P104 t (st105.trans k)
      have P107 : ∀ t, Steps p.tables e below (T105.setTop (mkF m 176 #[.val (.int p1), .val (.int p2), .val (.ref b2), .val (.int (2 : Int32)), .val (.int (0 : Int32)), .val (.ref v2), .val (.int (1 : Int32)), .val (.int (1 : Int32)), .val (.int (1 : Int32)), .val (.int (1 : Int32)), .val (.int (0 : Int32))] [(.int (1 : Int32))])) t → Steps p.tables e below (s₁.setTop (mkF m 0 #[.val (.int p1), .val (.int p2), .unset, .unset, .unset, .unset, .unset, .unset, .unset, .unset, .unset] [])) t := fun t k => by
        refine P106 t ?_
        show Steps p.tables e below (T105.setTop (mkF m 145 #[.val (.int p1), .val (.int p2), .val (.ref b2), .val (.int (2 : Int32)), .val (.int (0 : Int32)), .val (.ref v2), .val (.int (1 : Int32)), .val (.int (1 : Int32)), .val (.int (1 : Int32)), .val (.int (1 : Int32)), .unset] [(.int (0 : Int32))])) t
        refine XS.istore X105.here hx rfl (hb hby at_145) rfl (l' := #[.val (.int p1), .val (.int p2), .val (.ref b2), .val (.int (2 : Int32)), .val (.int (0 : Int32)), .val (.ref v2), .val (.int (1 : Int32)), .val (.int (1 : Int32)), .val (.int (1 : Int32)), .val (.int (1 : Int32)), .val (.int (0 : Int32))]) rfl ?_
        show Steps p.tables e below (T105.setTop (mkF m 147 #[.val (.int p1), .val (.int p2), .val (.ref b2), .val (.int (2 : Int32)), .val (.int (0 : Int32)), .val (.ref v2), .val (.int (1 : Int32)), .val (.int (1 : Int32)), .val (.int (1 : Int32)), .val (.int (1 : Int32)), .val (.int (0 : Int32))] [])) t
        refine XS.iload X105.here hx rfl (hb hby at_147) rfl ?_
        show Steps p.tables e below (T105.setTop (mkF m 149 #[.val (.int p1), .val (.int p2), .val (.ref b2), .val (.int (2 : Int32)), .val (.int (0 : Int32)), .val (.ref v2), .val (.int (1 : Int32)), .val (.int (1 : Int32)), .val (.int (1 : Int32)), .val (.int (1 : Int32)), .val (.int (0 : Int32))] [(.int (1 : Int32))])) t
        refine XS.iload X105.here hx rfl (hb hby at_149) rfl ?_
        show Steps p.tables e below (T105.setTop (mkF m 151 #[.val (.int p1), .val (.int p2), .val (.ref b2), .val (.int (2 : Int32)), .val (.int (0 : Int32)), .val (.ref v2), .val (.int (1 : Int32)), .val (.int (1 : Int32)), .val (.int (1 : Int32)), .val (.int (1 : Int32)), .val (.int (0 : Int32))] [(.int (1 : Int32)), (.int (1 : Int32))])) t
        refine XS.icmpNo X105.here hx rfl (hb hby at_151) rfl (teq rfl).2 ?_
        show Steps p.tables e below (T105.setTop (mkF m 154 #[.val (.int p1), .val (.int p2), .val (.ref b2), .val (.int (2 : Int32)), .val (.int (0 : Int32)), .val (.ref v2), .val (.int (1 : Int32)), .val (.int (1 : Int32)), .val (.int (1 : Int32)), .val (.int (1 : Int32)), .val (.int (0 : Int32))] [])) t
        refine XS.iload X105.here hx rfl (hb hby at_154) rfl ?_
        show Steps p.tables e below (T105.setTop (mkF m 156 #[.val (.int p1), .val (.int p2), .val (.ref b2), .val (.int (2 : Int32)), .val (.int (0 : Int32)), .val (.ref v2), .val (.int (1 : Int32)), .val (.int (1 : Int32)), .val (.int (1 : Int32)), .val (.int (1 : Int32)), .val (.int (0 : Int32))] [(.int (1 : Int32))])) t
        refine XS.iload X105.here hx rfl (hb hby at_156) rfl ?_
        show Steps p.tables e below (T105.setTop (mkF m 158 #[.val (.int p1), .val (.int p2), .val (.ref b2), .val (.int (2 : Int32)), .val (.int (0 : Int32)), .val (.ref v2), .val (.int (1 : Int32)), .val (.int (1 : Int32)), .val (.int (1 : Int32)), .val (.int (1 : Int32)), .val (.int (0 : Int32))] [(.int (1 : Int32)), (.int (1 : Int32))])) t
        refine XS.icmpNo X105.here hx rfl (hb hby at_158) rfl (teq rfl).2 ?_
        show Steps p.tables e below (T105.setTop (mkF m 161 #[.val (.int p1), .val (.int p2), .val (.ref b2), .val (.int (2 : Int32)), .val (.int (0 : Int32)), .val (.ref v2), .val (.int (1 : Int32)), .val (.int (1 : Int32)), .val (.int (1 : Int32)), .val (.int (1 : Int32)), .val (.int (0 : Int32))] [])) t
        refine XS.iload X105.here hx rfl (hb hby at_161) rfl ?_
        show Steps p.tables e below (T105.setTop (mkF m 163 #[.val (.int p1), .val (.int p2), .val (.ref b2), .val (.int (2 : Int32)), .val (.int (0 : Int32)), .val (.ref v2), .val (.int (1 : Int32)), .val (.int (1 : Int32)), .val (.int (1 : Int32)), .val (.int (1 : Int32)), .val (.int (0 : Int32))] [(.int (1 : Int32))])) t
        refine XS.ifNo X105.here hx rfl (hb hby at_163) rfl ((if0 _ _).trans (feq (by decide)).1) ?_
        show Steps p.tables e below (T105.setTop (mkF m 166 #[.val (.int p1), .val (.int p2), .val (.ref b2), .val (.int (2 : Int32)), .val (.int (0 : Int32)), .val (.ref v2), .val (.int (1 : Int32)), .val (.int (1 : Int32)), .val (.int (1 : Int32)), .val (.int (1 : Int32)), .val (.int (0 : Int32))] [])) t
        refine XS.iload X105.here hx rfl (hb hby at_166) rfl ?_
        show Steps p.tables e below (T105.setTop (mkF m 168 #[.val (.int p1), .val (.int p2), .val (.ref b2), .val (.int (2 : Int32)), .val (.int (0 : Int32)), .val (.ref v2), .val (.int (1 : Int32)), .val (.int (1 : Int32)), .val (.int (1 : Int32)), .val (.int (1 : Int32)), .val (.int (0 : Int32))] [(.int (0 : Int32))])) t
        refine XS.ifNo X105.here hx rfl (hb hby at_168) rfl ((if0 _ _).trans (teq rfl).2) ?_
        show Steps p.tables e below (T105.setTop (mkF m 171 #[.val (.int p1), .val (.int p2), .val (.ref b2), .val (.int (2 : Int32)), .val (.int (0 : Int32)), .val (.ref v2), .val (.int (1 : Int32)), .val (.int (1 : Int32)), .val (.int (1 : Int32)), .val (.int (1 : Int32)), .val (.int (0 : Int32))] [])) t
        refine XS.iconst X105.here hx rfl (hb hby at_171) ?_
        show Steps p.tables e below (T105.setTop (mkF m 172 #[.val (.int p1), .val (.int p2), .val (.ref b2), .val (.int (2 : Int32)), .val (.int (0 : Int32)), .val (.ref v2), .val (.int (1 : Int32)), .val (.int (1 : Int32)), .val (.int (1 : Int32)), .val (.int (1 : Int32)), .val (.int (0 : Int32))] [(.int (1 : Int32))])) t
        refine XS.goto X105.here hx rfl (pc0 := 172) (pc' := 176) rfl (hb hby at_172) (by decide) (by decide) ?_
        exact k
      obtain ⟨fs, hr, hrun, hended, hW, hsame⟩ := X105.leave (v := some (.int (1 : Int32))) (fun h => by rw [Bd.returns] at h; cases h)
      refine ⟨_, _, pre0 _ (P107 _ ?_), hrun, hended, _, _, rfl, ?_, ⟨_, rfl⟩, hW, hsame.mono (by decide) (by decide)⟩
      · exact retN X105 hx (t := .boolean) Bd.returns (by simp) (hb hby at_176) hr
      · show Q0 Z p1 p2 v0 v1 v2 v3 v4 v5 h0 n0 _ T105.heap _
        rw [e105]
        exact ⟨rfl, N105⟩
    · obtain ⟨cl108, Ar108, q108, S108_, N108_, H108_, G108_⟩ := V_b2_38
      have hin108 : ¬ ((3 : Int32) < 0 ∨ cl108.slots.size ≤ ((3 : Int32)).toNatClampNeg) := inb_of S108_ ⟨by decide, by decide⟩
      have P109 : ∀ t, Steps p.tables e below (T38.setTop (mkF m 87 #[.val (.int p1), .val (.int p2), .val (.ref b2), .val (.int (3 : Int32)), .val (.int (0 : Int32)), .val (.ref v3), .val (.int (1 : Int32)), .unset, .unset, .unset, .unset] [(.ref v3)])) t → Steps p.tables e below (s₁.setTop (mkF m 0 #[.val (.int p1), .val (.int p2), .unset, .unset, .unset, .unset, .unset, .unset, .unset, .unset, .unset] [])) t := fun t k => by
        refine P44 t ?_
        show Steps p.tables e below (T38.setTop (mkF m 63 #[.val (.int p1), .val (.int p2), .val (.ref b2), .val (.int (3 : Int32)), .val (.int (0 : Int32)), .unset, .unset, .unset, .unset, .unset, .unset] [])) t
        refine XS.aloadN X38.here hx rfl (hb hby at_63) rfl rfl ?_
        show Steps p.tables e below (T38.setTop (mkF m 64 #[.val (.int p1), .val (.int p2), .val (.ref b2), .val (.int (3 : Int32)), .val (.int (0 : Int32)), .unset, .unset, .unset, .unset, .unset, .unset] [(.ref b2)])) t
        refine XS.iloadN X38.here hx rfl (hb hby at_64) rfl ?_
        show Steps p.tables e below (T38.setTop (mkF m 65 #[.val (.int p1), .val (.int p2), .val (.ref b2), .val (.int (3 : Int32)), .val (.int (0 : Int32)), .unset, .unset, .unset, .unset, .unset, .unset] [(.int (3 : Int32)), (.ref b2)])) t
        refine X38.aaload hx (j := (3 : Int32)) (v := (.ref v3)) (by rw [e38]; exact Ar108.1) (State.isArrayOf_alike hZ.alike Ar108.2.1) rfl Ar108.2.2 hin108 (Has.at H108_ hin108 rfl) (g := (mkF m 65 #[.val (.int p1), .val (.int p2), .val (.ref b2), .val (.int (3 : Int32)), .val (.int (0 : Int32)), .unset, .unset, .unset, .unset, .unset, .unset] [(.int (3 : Int32)), (.ref b2)])) rfl rfl (hb hby at_65) _ ?_
        show Steps p.tables e below (T38.setTop (mkF m 66 #[.val (.int p1), .val (.int p2), .val (.ref b2), .val (.int (3 : Int32)), .val (.int (0 : Int32)), .unset, .unset, .unset, .unset, .unset, .unset] [(.ref v3)])) t
        refine XS.astore X38.here hx rfl (hb hby at_66) rfl rfl (l' := #[.val (.int p1), .val (.int p2), .val (.ref b2), .val (.int (3 : Int32)), .val (.int (0 : Int32)), .val (.ref v3), .unset, .unset, .unset, .unset, .unset]) rfl ?_
        show Steps p.tables e below (T38.setTop (mkF m 68 #[.val (.int p1), .val (.int p2), .val (.ref b2), .val (.int (3 : Int32)), .val (.int (0 : Int32)), .val (.ref v3), .unset, .unset, .unset, .unset, .unset] [])) t
        refine XS.iloadN X38.here hx rfl (hb hby at_68) rfl ?_
        show Steps p.tables e below (T38.setTop (mkF m 69 #[.val (.int p1), .val (.int p2), .val (.ref b2), .val (.int (3 : Int32)), .val (.int (0 : Int32)), .val (.ref v3), .unset, .unset, .unset, .unset, .unset] [(.int (3 : Int32))])) t
        refine XS.iconst X38.here hx rfl (hb hby at_69) ?_
        show Steps p.tables e below (T38.setTop (mkF m 70 #[.val (.int p1), .val (.int p2), .val (.ref b2), .val (.int (3 : Int32)), .val (.int (0 : Int32)), .val (.ref v3), .unset, .unset, .unset, .unset, .unset] [(.int (2 : Int32)), (.int (3 : Int32))])) t
        refine XS.icmpNo X38.here hx rfl (hb hby at_70) rfl (feq (by decide)).1 ?_
        show Steps p.tables e below (T38.setTop (mkF m 73 #[.val (.int p1), .val (.int p2), .val (.ref b2), .val (.int (3 : Int32)), .val (.int (0 : Int32)), .val (.ref v3), .unset, .unset, .unset, .unset, .unset] [])) t
        refine XS.iloadN X38.here hx rfl (hb hby at_73) rfl ?_
        show Steps p.tables e below (T38.setTop (mkF m 74 #[.val (.int p1), .val (.int p2), .val (.ref b2), .val (.int (3 : Int32)), .val (.int (0 : Int32)), .val (.ref v3), .unset, .unset, .unset, .unset, .unset] [(.int (3 : Int32))])) t
        refine XS.iconst X38.here hx rfl (hb hby at_74) ?_
        show Steps p.tables e below (T38.setTop (mkF m 75 #[.val (.int p1), .val (.int p2), .val (.ref b2), .val (.int (3 : Int32)), .val (.int (0 : Int32)), .val (.ref v3), .unset, .unset, .unset, .unset, .unset] [(.int (3 : Int32)), (.int (3 : Int32))])) t
        refine XS.icmpNo X38.here hx rfl (hb hby at_75) rfl (teq rfl).2 ?_
        show Steps p.tables e below (T38.setTop (mkF m 78 #[.val (.int p1), .val (.int p2), .val (.ref b2), .val (.int (3 : Int32)), .val (.int (0 : Int32)), .val (.ref v3), .unset, .unset, .unset, .unset, .unset] [])) t
        refine XS.iconst X38.here hx rfl (hb hby at_78) ?_
        show Steps p.tables e below (T38.setTop (mkF m 79 #[.val (.int p1), .val (.int p2), .val (.ref b2), .val (.int (3 : Int32)), .val (.int (0 : Int32)), .val (.ref v3), .unset, .unset, .unset, .unset, .unset] [(.int (1 : Int32))])) t
        refine XS.goto X38.here hx rfl (pc0 := 79) (pc' := 83) rfl (hb hby at_79) (by decide) (by decide) ?_
        show Steps p.tables e below (T38.setTop (mkF m 83 #[.val (.int p1), .val (.int p2), .val (.ref b2), .val (.int (3 : Int32)), .val (.int (0 : Int32)), .val (.ref v3), .unset, .unset, .unset, .unset, .unset] [(.int (1 : Int32))])) t
        refine XS.istore X38.here hx rfl (hb hby at_83) rfl (l' := #[.val (.int p1), .val (.int p2), .val (.ref b2), .val (.int (3 : Int32)), .val (.int (0 : Int32)), .val (.ref v3), .val (.int (1 : Int32)), .unset, .unset, .unset, .unset]) rfl ?_
        show Steps p.tables e below (T38.setTop (mkF m 85 #[.val (.int p1), .val (.int p2), .val (.ref b2), .val (.int (3 : Int32)), .val (.int (0 : Int32)), .val (.ref v3), .val (.int (1 : Int32)), .unset, .unset, .unset, .unset] [])) t
        refine XS.aload X38.here hx rfl (hb hby at_85) rfl rfl ?_
        exact k
      obtain ⟨cq110, kq110, q110a, q110b, q110c⟩ := isOf hZ e38 EX3_38
      obtain ⟨_, _, ⟨T110, L110, k110, n110⟩, -, X110, ⟨Lc110, hQ110, l110, y110, z110⟩, st110⟩ := X38.virtualBack hx (y := (⟨"com/example/watermark/watermark/server/TransactionState$Phase", "isEnding", "()Z"⟩ : MethodName)) (z := (⟨"com/example/watermark/watermark/server/TransactionState$Phase", "isEnding", "()Z"⟩ : MethodName)) hown (mvT hZ (hw _ (List.mem_of_getElem? (i := 17) rfl))) (mvT hZ (hw _ (List.mem_of_getElem? (i := 18) rfl))) (notFace_of_selects (args := #[]) (mvT hZ (hw _ (List.mem_of_getElem? (i := 20) rfl)))) (mvT hZ (hw _ (List.mem_of_getElem? (i := 20) rfl))) (mvT hZ (hw _ (List.mem_of_getElem? (i := 19) rfl))) (by decide) (backOf (W := 0) (rm1s l Z a0 hw [] v3 v2 v3 h38 n0 Z_39 S2_38 S3_38 n2_3 rfl) hZ (hw _ (List.mem_of_getElem? (i := 21) rfl)) (hw _ (List.mem_of_getElem? (i := 3) rfl)) (by decide) (by decide)) q110a q110c (g := (mkF m 87 #[.val (.int p1), .val (.int p2), .val (.ref b2), .val (.int (3 : Int32)), .val (.int (0 : Int32)), .val (.ref v3), .val (.int (1 : Int32)), .unset, .unset, .unset, .unset] [(.ref v3)])) rfl (by rw [hml]; rfl) (Steps.refl _) (argsL := []) (rest := []) (lenOf pd___Z rfl) rfl (by show 2 * 0 + _ ≤ _; exact Nat.le_of_eq rfl) (hb hby at_87) (fun _ _ => ⟨rfl, e38, (by decide : 1 + 0 ≤ _), (by decide : 6 + 0 ≤ _)⟩)
      dsimp only [Pt.U, Pt.locs, Pt.cells, Pt.slots] at X110 l110 y110 z110 st110 hQ110
      subst l110 y110 z110
      obtain ⟨rfl, N110q, e110⟩ := hQ110
      have N110 := Fr.app N38 N110q
      have P111 : ∀ t, Steps p.tables e below (T110.setTop (mkF m 90 #[.val (.int p1), .val (.int p2), .val (.ref b2), .val (.int (3 : Int32)), .val (.int (0 : Int32)), .val (.ref v3), .val (.int (1 : Int32)), .unset, .unset, .unset, .unset] [(.int (1 : Int32))])) t → Steps p.tables e below (s₁.setTop (mkF m 0 #[.val (.int p1), .val (.int p2), .unset, .unset, .unset, .unset, .unset, .unset, .unset, .unset, .unset] [])) t := fun t k => P109 t (st110.trans k)
      have P112 : ∀ t, Steps p.tables e below (T110.setTop (mkF m 96 #[.val (.int p1), .val (.int p2), .val (.ref b2), .val (.int (3 : Int32)), .val (.int (0 : Int32)), .val (.ref v3), .val (.int (1 : Int32)), .val (.int (1 : Int32)), .unset, .unset, .unset] [(.int (0 : Int32)), (.ref v3)])) t → Steps p.tables e below (s₁.setTop (mkF m 0 #[.val (.int p1), .val (.int p2), .unset, .unset, .unset, .unset, .unset, .unset, .unset, .unset, .unset] [])) t := fun t k => by
        refine P111 t ?_
        show Steps p.tables e below (T110.setTop (mkF m 90 #[.val (.int p1), .val (.int p2), .val (.ref b2), .val (.int (3 : Int32)), .val (.int (0 : Int32)), .val (.ref v3), .val (.int (1 : Int32)), .unset, .unset, .unset, .unset] [(.int (1 : Int32))])) t
        refine XS.istore X110.here hx rfl (hb hby at_90) rfl (l' := #[.val (.int p1), .val (.int p2), .val (.ref b2), .val (.int (3 : Int32)), .val (.int (0 : Int32)), .val (.ref v3), .val (.int (1 : Int32)), .val (.int (1 : Int32)), .unset, .unset, .unset]) rfl ?_
        show Steps p.tables e below (T110.setTop (mkF m 92 #[.val (.int p1), .val (.int p2), .val (.ref b2), .val (.int (3 : Int32)), .val (.int (0 : Int32)), .val (.ref v3), .val (.int (1 : Int32)), .val (.int (1 : Int32)), .unset, .unset, .unset] [])) t
        refine XS.aload X110.here hx rfl (hb hby at_92) rfl rfl ?_
        show Steps p.tables e below (T110.setTop (mkF m 94 #[.val (.int p1), .val (.int p2), .val (.ref b2), .val (.int (3 : Int32)), .val (.int (0 : Int32)), .val (.ref v3), .val (.int (1 : Int32)), .val (.int (1 : Int32)), .unset, .unset, .unset] [(.ref v3)])) t
        refine XS.iload X110.here hx rfl (hb hby at_94) rfl ?_
        exact k
      obtain ⟨_, _, ⟨T113, L113, k113, n113⟩, -, X113, ⟨Lc113, hQ113, l113, y113, z113⟩, st113⟩ := Jvm.LawKit.callS X110 hx (y := (⟨"com/example/watermark/watermark/server/TransactionState$Phase", "prepare", "(Z)Lcom/example/watermark/watermark/server/TransactionState$Phase;"⟩ : MethodName)) hown (mvT hZ (hw _ (List.mem_of_getElem? (i := 24) rfl))) (mvT hZ (hw _ (List.mem_of_getElem? (i := 25) rfl))) (mvT hZ (hw _ (List.mem_of_getElem? (i := 3) rfl))) (mvT hZ (hw _ (List.mem_of_getElem? (i := 26) rfl))) (by decide) (backOf (W := 1) (rm2f l Z a0 hw [] (0 : Int32) v3 h38 n0 Z_39 S3_38 rfl) hZ (hw _ (List.mem_of_getElem? (i := 26) rfl)) (hw _ (List.mem_of_getElem? (i := 3) rfl)) (by decide) (by decide)) (g := (mkF m 96 #[.val (.int p1), .val (.int p2), .val (.ref b2), .val (.int (3 : Int32)), .val (.int (0 : Int32)), .val (.ref v3), .val (.int (1 : Int32)), .val (.int (1 : Int32)), .unset, .unset, .unset] [(.int (0 : Int32)), (.ref v3)])) rfl (by rw [hml]; rfl) (argsL := [(.int (0 : Int32))]) (rest := [(.ref v3)]) (lenOf pd__Z_Lcom_example_watermark_watermark_server_TransactionState_Phase_ rfl) rfl (by show 2 * 0 + _ ≤ _; exact Nat.le_of_eq rfl) (hb hby at_96) (fun _ _ => ⟨rfl, e110, (by decide : 1 + 0 ≤ _), (by decide : 6 + 0 ≤ _)⟩)
      dsimp only [Pt.U, Pt.locs, Pt.cells, Pt.slots] at X113 l113 y113 z113 st113 hQ113
      subst l113 y113 z113
      obtain ⟨rfl, N113q, e113⟩ := hQ113
      have N113 := Fr.app N110 N113q
      have P114 : ∀ t, Steps p.tables e below (T113.setTop (mkF m 99 #[.val (.int p1), .val (.int p2), .val (.ref b2), .val (.int (3 : Int32)), .val (.int (0 : Int32)), .val (.ref v3), .val (.int (1 : Int32)), .val (.int (1 : Int32)), .unset, .unset, .unset] [(.ref v3), (.ref v3)])) t → Steps p.tables e below (s₁.setTop (mkF m 0 #[.val (.int p1), .val (.int p2), .unset, .unset, .unset, .unset, .unset, .unset, .unset, .unset, .unset] [])) t := fun t k => P112 t (st113 _ k)
      have P115 : ∀ t, Steps p.tables e below (T113.setTop (mkF m 129 #[.val (.int p1), .val (.int p2), .val (.ref b2), .val (.int (3 : Int32)), .val (.int (0 : Int32)), .val (.ref v3), .val (.int (1 : Int32)), .val (.int (1 : Int32)), .val (.int (1 : Int32)), .unset, .unset] [(.int (0 : Int32))])) t → Steps p.tables e below (s₁.setTop (mkF m 0 #[.val (.int p1), .val (.int p2), .unset, .unset, .unset, .unset, .unset, .unset, .unset, .unset, .unset] [])) t := fun t k => by
        refine P114 t ?_
        show Steps p.tables e below (T113.setTop (mkF m 99 #[.val (.int p1), .val (.int p2), .val (.ref b2), .val (.int (3 : Int32)), .val (.int (0 : Int32)), .val (.ref v3), .val (.int (1 : Int32)), .val (.int (1 : Int32)), .unset, .unset, .unset] [(.ref v3), (.ref v3)])) t
        refine Jvm.RoadKit.acmp (g := (mkF m 99 #[.val (.int p1), .val (.int p2), .val (.ref b2), .val (.int (3 : Int32)), .val (.int (0 : Int32)), .val (.ref v3), .val (.int (1 : Int32)), .val (.int (1 : Int32)), .unset, .unset, .unset] [(.ref v3), (.ref v3)])) X113 hx rfl rfl rfl (pc0 := 99) (pc' := 120) (same := true) rfl (hb hby at_99) rfl (decide_eq_true rfl) (by decide) (by decide) ?_
        show Steps p.tables e below (T113.setTop (mkF m 120 #[.val (.int p1), .val (.int p2), .val (.ref b2), .val (.int (3 : Int32)), .val (.int (0 : Int32)), .val (.ref v3), .val (.int (1 : Int32)), .val (.int (1 : Int32)), .unset, .unset, .unset] [])) t
        refine XS.iconst X113.here hx rfl (hb hby at_120) ?_
        show Steps p.tables e below (T113.setTop (mkF m 121 #[.val (.int p1), .val (.int p2), .val (.ref b2), .val (.int (3 : Int32)), .val (.int (0 : Int32)), .val (.ref v3), .val (.int (1 : Int32)), .val (.int (1 : Int32)), .unset, .unset, .unset] [(.int (1 : Int32))])) t
        refine XS.goto X113.here hx rfl (pc0 := 121) (pc' := 125) rfl (hb hby at_121) (by decide) (by decide) ?_
        show Steps p.tables e below (T113.setTop (mkF m 125 #[.val (.int p1), .val (.int p2), .val (.ref b2), .val (.int (3 : Int32)), .val (.int (0 : Int32)), .val (.ref v3), .val (.int (1 : Int32)), .val (.int (1 : Int32)), .unset, .unset, .unset] [(.int (1 : Int32))])) t
        refine XS.istore X113.here hx rfl (hb hby at_125) rfl (l' := #[.val (.int p1), .val (.int p2), .val (.ref b2), .val (.int (3 : Int32)), .val (.int (0 : Int32)), .val (.ref v3), .val (.int (1 : Int32)), .val (.int (1 : Int32)), .val (.int (1 : Int32)), .unset, .unset]) rfl ?_
        show Steps p.tables e below (T113.setTop (mkF m 127 #[.val (.int p1), .val (.int p2), .val (.ref b2), .val (.int (3 : Int32)), .val (.int (0 : Int32)), .val (.ref v3), .val (.int (1 : Int32)), .val (.int (1 : Int32)), .val (.int (1 : Int32)), .unset, .unset] [])) t
        refine XS.iload X113.here hx rfl (hb hby at_127) rfl ?_
        exact k
      obtain ⟨_, _, ⟨T116, L116, k116, n116⟩, -, X116, ⟨Lc116, hQ116, l116, y116, z116⟩, st116⟩ := Jvm.LawKit.callS X113 hx (y := (⟨"com/example/watermark/watermark/server/TransactionState$Phase", "prepare", "(Z)Lcom/example/watermark/watermark/server/TransactionState$Phase;"⟩ : MethodName)) hown (mvT hZ (hw _ (List.mem_of_getElem? (i := 24) rfl))) (mvT hZ (hw _ (List.mem_of_getElem? (i := 25) rfl))) (mvT hZ (hw _ (List.mem_of_getElem? (i := 3) rfl))) (mvT hZ (hw _ (List.mem_of_getElem? (i := 26) rfl))) (by decide) (backOf (W := 0) (rm2f l Z a0 hw [] (0 : Int32) v3 h38 n0 Z_39 S3_38 rfl) hZ (hw _ (List.mem_of_getElem? (i := 26) rfl)) (hw _ (List.mem_of_getElem? (i := 3) rfl)) (by decide) (by decide)) (g := (mkF m 129 #[.val (.int p1), .val (.int p2), .val (.ref b2), .val (.int (3 : Int32)), .val (.int (0 : Int32)), .val (.ref v3), .val (.int (1 : Int32)), .val (.int (1 : Int32)), .val (.int (1 : Int32)), .unset, .unset] [(.int (0 : Int32))])) rfl (by rw [hml]; rfl) (argsL := [(.int (0 : Int32))]) (rest := []) (lenOf pd__Z_Lcom_example_watermark_watermark_server_TransactionState_Phase_ rfl) rfl (by show 2 * 0 + _ ≤ _; exact Nat.le_of_eq rfl) (hb hby at_129) (fun _ _ => ⟨rfl, e113, (by decide : 1 + 0 ≤ _), (by decide : 6 + 0 ≤ _)⟩)
      dsimp only [Pt.U, Pt.locs, Pt.cells, Pt.slots] at X116 l116 y116 z116 st116 hQ116
      subst l116 y116 z116
      obtain ⟨rfl, N116q, e116⟩ := hQ116
      have N116 := Fr.app N113 N116q
      have P117 : ∀ t, Steps p.tables e below (T116.setTop (mkF m 132 #[.val (.int p1), .val (.int p2), .val (.ref b2), .val (.int (3 : Int32)), .val (.int (0 : Int32)), .val (.ref v3), .val (.int (1 : Int32)), .val (.int (1 : Int32)), .val (.int (1 : Int32)), .unset, .unset] [(.ref v3)])) t → Steps p.tables e below (s₁.setTop (mkF m 0 #[.val (.int p1), .val (.int p2), .unset, .unset, .unset, .unset, .unset, .unset, .unset, .unset, .unset] [])) t := fun t k => P115 t (st116 _ k)
      obtain ⟨cq118, kq118, q118a, q118b, q118c⟩ := isOf hZ e116 EX3_38
      obtain ⟨_, _, ⟨T118, L118, k118, n118⟩, -, X118, ⟨Lc118, hQ118, l118, y118, z118⟩, st118⟩ := X116.virtualBack hx (y := (⟨"com/example/watermark/watermark/server/TransactionState$Phase", "isEnding", "()Z"⟩ : MethodName)) (z := (⟨"com/example/watermark/watermark/server/TransactionState$Phase", "isEnding", "()Z"⟩ : MethodName)) hown (mvT hZ (hw _ (List.mem_of_getElem? (i := 17) rfl))) (mvT hZ (hw _ (List.mem_of_getElem? (i := 18) rfl))) (notFace_of_selects (args := #[]) (mvT hZ (hw _ (List.mem_of_getElem? (i := 20) rfl)))) (mvT hZ (hw _ (List.mem_of_getElem? (i := 20) rfl))) (mvT hZ (hw _ (List.mem_of_getElem? (i := 19) rfl))) (by decide) (backOf (W := 0) (rm1s l Z a0 hw [] v3 v2 v3 h38 n0 Z_39 S2_38 S3_38 n2_3 rfl) hZ (hw _ (List.mem_of_getElem? (i := 21) rfl)) (hw _ (List.mem_of_getElem? (i := 3) rfl)) (by decide) (by decide)) q118a q118c (g := (mkF m 132 #[.val (.int p1), .val (.int p2), .val (.ref b2), .val (.int (3 : Int32)), .val (.int (0 : Int32)), .val (.ref v3), .val (.int (1 : Int32)), .val (.int (1 : Int32)), .val (.int (1 : Int32)), .unset, .unset] [(.ref v3)])) rfl (by rw [hml]; rfl) (Steps.refl _) (argsL := []) (rest := []) (lenOf pd___Z rfl) rfl (by show 2 * 0 + _ ≤ _; exact Nat.le_of_eq rfl) (hb hby at_132) (fun _ _ => ⟨rfl, e116, (by decide : 1 + 0 ≤ _), (by decide : 6 + 0 ≤ _)⟩)
      dsimp only [Pt.U, Pt.locs, Pt.cells, Pt.slots] at X118 l118 y118 z118 st118 hQ118
      subst l118 y118 z118
      obtain ⟨rfl, N118q, e118⟩ := hQ118
      have N118 := Fr.app N116 N118q
      have P119 : ∀ t, Steps p.tables e below (T118.setTop (mkF m 135 #[.val (.int p1), .val (.int p2), .val (.ref b2), .val (.int (3 : Int32)), .val (.int (0 : Int32)), .val (.ref v3), .val (.int (1 : Int32)), .val (.int (1 : Int32)), .val (.int (1 : Int32)), .unset, .unset] [(.int (1 : Int32))])) t → Steps p.tables e below (s₁.setTop (mkF m 0 #[.val (.int p1), .val (.int p2), .unset, .unset, .unset, .unset, .unset, .unset, .unset, .unset, .unset] [])) t := fun t k => P117 t (st118.trans k)
      have P120 : ∀ t, Steps p.tables e below (T118.setTop (mkF m 139 #[.val (.int p1), .val (.int p2), .val (.ref b2), .val (.int (3 : Int32)), .val (.int (0 : Int32)), .val (.ref v3), .val (.int (1 : Int32)), .val (.int (1 : Int32)), .val (.int (1 : Int32)), .val (.int (1 : Int32)), .unset] [(.int (0 : Int32))])) t → Steps p.tables e below (s₁.setTop (mkF m 0 #[.val (.int p1), .val (.int p2), .unset, .unset, .unset, .unset, .unset, .unset, .unset, .unset, .unset] [])) t := fun t k => by
        refine P119 t ?_
        show Steps p.tables e below (T118.setTop (mkF m 135 #[.val (.int p1), .val (.int p2), .val (.ref b2), .val (.int (3 : Int32)), .val (.int (0 : Int32)), .val (.ref v3), .val (.int (1 : Int32)), .val (.int (1 : Int32)), .val (.int (1 : Int32)), .unset, .unset] [(.int (1 : Int32))])) t
        refine XS.istore X118.here hx rfl (hb hby at_135) rfl (l' := #[.val (.int p1), .val (.int p2), .val (.ref b2), .val (.int (3 : Int32)), .val (.int (0 : Int32)), .val (.ref v3), .val (.int (1 : Int32)), .val (.int (1 : Int32)), .val (.int (1 : Int32)), .val (.int (1 : Int32)), .unset]) rfl ?_
        show Steps p.tables e below (T118.setTop (mkF m 137 #[.val (.int p1), .val (.int p2), .val (.ref b2), .val (.int (3 : Int32)), .val (.int (0 : Int32)), .val (.ref v3), .val (.int (1 : Int32)), .val (.int (1 : Int32)), .val (.int (1 : Int32)), .val (.int (1 : Int32)), .unset] [])) t
        refine XS.iload X118.here hx rfl (hb hby at_137) rfl ?_
        exact k
      obtain ⟨_, _, ⟨T121, L121, k121, n121⟩, -, X121, ⟨Lc121, hQ121, l121, y121, z121⟩, st121⟩ := Jvm.LawKit.callS X118 hx (y := (⟨"com/example/watermark/watermark/server/TransactionState$Phase", "complete", "(Z)Lcom/example/watermark/watermark/server/TransactionState$Phase;"⟩ : MethodName)) hown (mvT hZ (hw _ (List.mem_of_getElem? (i := 27) rfl))) (mvT hZ (hw _ (List.mem_of_getElem? (i := 28) rfl))) (mvT hZ (hw _ (List.mem_of_getElem? (i := 3) rfl))) (mvT hZ (hw _ (List.mem_of_getElem? (i := 29) rfl))) (by decide) (backOf (W := 0) (rm3f l Z a0 hw [] (0 : Int32) v5 h38 n0 Z_39 S5_38 rfl) hZ (hw _ (List.mem_of_getElem? (i := 29) rfl)) (hw _ (List.mem_of_getElem? (i := 3) rfl)) (by decide) (by decide)) (g := (mkF m 139 #[.val (.int p1), .val (.int p2), .val (.ref b2), .val (.int (3 : Int32)), .val (.int (0 : Int32)), .val (.ref v3), .val (.int (1 : Int32)), .val (.int (1 : Int32)), .val (.int (1 : Int32)), .val (.int (1 : Int32)), .unset] [(.int (0 : Int32))])) rfl (by rw [hml]; rfl) (argsL := [(.int (0 : Int32))]) (rest := []) (lenOf pd__Z_Lcom_example_watermark_watermark_server_TransactionState_Phase_ rfl) rfl (by show 2 * 0 + _ ≤ _; exact Nat.le_of_eq rfl) (hb hby at_139) (fun _ _ => ⟨rfl, e118, (by decide : 1 + 0 ≤ _), (by decide : 6 + 0 ≤ _)⟩)
      dsimp only [Pt.U, Pt.locs, Pt.cells, Pt.slots] at X121 l121 y121 z121 st121 hQ121
      subst l121 y121 z121
      obtain ⟨rfl, N121q, e121⟩ := hQ121
      have N121 := Fr.app N118 N121q
      have P122 : ∀ t, Steps p.tables e below (T121.setTop (mkF m 142 #[.val (.int p1), .val (.int p2), .val (.ref b2), .val (.int (3 : Int32)), .val (.int (0 : Int32)), .val (.ref v3), .val (.int (1 : Int32)), .val (.int (1 : Int32)), .val (.int (1 : Int32)), .val (.int (1 : Int32)), .unset] [(.ref v5)])) t → Steps p.tables e below (s₁.setTop (mkF m 0 #[.val (.int p1), .val (.int p2), .unset, .unset, .unset, .unset, .unset, .unset, .unset, .unset, .unset] [])) t := fun t k => P120 t (st121 _ k)
      obtain ⟨cq123, kq123, q123a, q123b, q123c⟩ := isOf hZ e121 EX5_38
      obtain ⟨_, _, ⟨T123, L123, k123, n123⟩, -, X123, ⟨Lc123, hQ123, l123, y123, z123⟩, st123⟩ := X121.virtualBack hx (y := (⟨"com/example/watermark/watermark/server/TransactionState$Phase", "isEnding", "()Z"⟩ : MethodName)) (z := (⟨"com/example/watermark/watermark/server/TransactionState$Phase", "isEnding", "()Z"⟩ : MethodName)) hown (mvT hZ (hw _ (List.mem_of_getElem? (i := 17) rfl))) (mvT hZ (hw _ (List.mem_of_getElem? (i := 18) rfl))) (notFace_of_selects (args := #[]) (mvT hZ (hw _ (List.mem_of_getElem? (i := 20) rfl)))) (mvT hZ (hw _ (List.mem_of_getElem? (i := 20) rfl))) (mvT hZ (hw _ (List.mem_of_getElem? (i := 19) rfl))) (by decide) (backOf (W := 0) (rm1n l Z a0 hw [] v5 v2 v3 h38 n0 Z_39 S2_38 S3_38 n2_5 n3_5) hZ (hw _ (List.mem_of_getElem? (i := 21) rfl)) (hw _ (List.mem_of_getElem? (i := 3) rfl)) (by decide) (by decide)) q123a q123c (g := (mkF m 142 #[.val (.int p1), .val (.int p2), .val (.ref b2), .val (.int (3 : Int32)), .val (.int (0 : Int32)), .val (.ref v3), .val (.int (1 : Int32)), .val (.int (1 : Int32)), .val (.int (1 : Int32)), .val (.int (1 : Int32)), .unset] [(.ref v5)])) rfl (by rw [hml]; rfl) (Steps.refl _) (argsL := []) (rest := []) (lenOf pd___Z rfl) rfl (by show 2 * 0 + _ ≤ _; exact Nat.le_of_eq rfl) (hb hby at_142) (fun _ _ => ⟨rfl, e121, (by decide : 1 + 0 ≤ _), (by decide : 6 + 0 ≤ _)⟩)
      dsimp only [Pt.U, Pt.locs, Pt.cells, Pt.slots] at X123 l123 y123 z123 st123 hQ123
      subst l123 y123 z123
      obtain ⟨rfl, N123q, e123⟩ := hQ123
      have N123 := Fr.app N121 N123q
      have P124 : ∀ t, Steps p.tables e below (T123.setTop (mkF m 145 #[.val (.int p1), .val (.int p2), .val (.ref b2), .val (.int (3 : Int32)), .val (.int (0 : Int32)), .val (.ref v3), .val (.int (1 : Int32)), .val (.int (1 : Int32)), .val (.int (1 : Int32)), .val (.int (1 : Int32)), .unset] [(.int (0 : Int32))])) t → Steps p.tables e below (s₁.setTop (mkF m 0 #[.val (.int p1), .val (.int p2), .unset, .unset, .unset, .unset, .unset, .unset, .unset, .unset, .unset] [])) t := fun t k => P122 t (st123.trans k)
      have P125 : ∀ t, Steps p.tables e below (T123.setTop (mkF m 176 #[.val (.int p1), .val (.int p2), .val (.ref b2), .val (.int (3 : Int32)), .val (.int (0 : Int32)), .val (.ref v3), .val (.int (1 : Int32)), .val (.int (1 : Int32)), .val (.int (1 : Int32)), .val (.int (1 : Int32)), .val (.int (0 : Int32))] [(.int (1 : Int32))])) t → Steps p.tables e below (s₁.setTop (mkF m 0 #[.val (.int p1), .val (.int p2), .unset, .unset, .unset, .unset, .unset, .unset, .unset, .unset, .unset] [])) t := fun t k => by
        refine P124 t ?_
        show Steps p.tables e below (T123.setTop (mkF m 145 #[.val (.int p1), .val (.int p2), .val (.ref b2), .val (.int (3 : Int32)), .val (.int (0 : Int32)), .val (.ref v3), .val (.int (1 : Int32)), .val (.int (1 : Int32)), .val (.int (1 : Int32)), .val (.int (1 : Int32)), .unset] [(.int (0 : Int32))])) t
        refine XS.istore X123.here hx rfl (hb hby at_145) rfl (l' := #[.val (.int p1), .val (.int p2), .val (.ref b2), .val (.int (3 : Int32)), .val (.int (0 : Int32)), .val (.ref v3), .val (.int (1 : Int32)), .val (.int (1 : Int32)), .val (.int (1 : Int32)), .val (.int (1 : Int32)), .val (.int (0 : Int32))]) rfl ?_
        show Steps p.tables e below (T123.setTop (mkF m 147 #[.val (.int p1), .val (.int p2), .val (.ref b2), .val (.int (3 : Int32)), .val (.int (0 : Int32)), .val (.ref v3), .val (.int (1 : Int32)), .val (.int (1 : Int32)), .val (.int (1 : Int32)), .val (.int (1 : Int32)), .val (.int (0 : Int32))] [])) t
        refine XS.iload X123.here hx rfl (hb hby at_147) rfl ?_
        show Steps p.tables e below (T123.setTop (mkF m 149 #[.val (.int p1), .val (.int p2), .val (.ref b2), .val (.int (3 : Int32)), .val (.int (0 : Int32)), .val (.ref v3), .val (.int (1 : Int32)), .val (.int (1 : Int32)), .val (.int (1 : Int32)), .val (.int (1 : Int32)), .val (.int (0 : Int32))] [(.int (1 : Int32))])) t
        refine XS.iload X123.here hx rfl (hb hby at_149) rfl ?_
        show Steps p.tables e below (T123.setTop (mkF m 151 #[.val (.int p1), .val (.int p2), .val (.ref b2), .val (.int (3 : Int32)), .val (.int (0 : Int32)), .val (.ref v3), .val (.int (1 : Int32)), .val (.int (1 : Int32)), .val (.int (1 : Int32)), .val (.int (1 : Int32)), .val (.int (0 : Int32))] [(.int (1 : Int32)), (.int (1 : Int32))])) t
        refine XS.icmpNo X123.here hx rfl (hb hby at_151) rfl (teq rfl).2 ?_
        show Steps p.tables e below (T123.setTop (mkF m 154 #[.val (.int p1), .val (.int p2), .val (.ref b2), .val (.int (3 : Int32)), .val (.int (0 : Int32)), .val (.ref v3), .val (.int (1 : Int32)), .val (.int (1 : Int32)), .val (.int (1 : Int32)), .val (.int (1 : Int32)), .val (.int (0 : Int32))] [])) t
        refine XS.iload X123.here hx rfl (hb hby at_154) rfl ?_
        show Steps p.tables e below (T123.setTop (mkF m 156 #[.val (.int p1), .val (.int p2), .val (.ref b2), .val (.int (3 : Int32)), .val (.int (0 : Int32)), .val (.ref v3), .val (.int (1 : Int32)), .val (.int (1 : Int32)), .val (.int (1 : Int32)), .val (.int (1 : Int32)), .val (.int (0 : Int32))] [(.int (1 : Int32))])) t
        refine XS.iload X123.here hx rfl (hb hby at_156) rfl ?_
        show Steps p.tables e below (T123.setTop (mkF m 158 #[.val (.int p1), .val (.int p2), .val (.ref b2), .val (.int (3 : Int32)), .val (.int (0 : Int32)), .val (.ref v3), .val (.int (1 : Int32)), .val (.int (1 : Int32)), .val (.int (1 : Int32)), .val (.int (1 : Int32)), .val (.int (0 : Int32))] [(.int (1 : Int32)), (.int (1 : Int32))])) t
        refine XS.icmpNo X123.here hx rfl (hb hby at_158) rfl (teq rfl).2 ?_
        show Steps p.tables e below (T123.setTop (mkF m 161 #[.val (.int p1), .val (.int p2), .val (.ref b2), .val (.int (3 : Int32)), .val (.int (0 : Int32)), .val (.ref v3), .val (.int (1 : Int32)), .val (.int (1 : Int32)), .val (.int (1 : Int32)), .val (.int (1 : Int32)), .val (.int (0 : Int32))] [])) t
        refine XS.iload X123.here hx rfl (hb hby at_161) rfl ?_
        show Steps p.tables e below (T123.setTop (mkF m 163 #[.val (.int p1), .val (.int p2), .val (.ref b2), .val (.int (3 : Int32)), .val (.int (0 : Int32)), .val (.ref v3), .val (.int (1 : Int32)), .val (.int (1 : Int32)), .val (.int (1 : Int32)), .val (.int (1 : Int32)), .val (.int (0 : Int32))] [(.int (1 : Int32))])) t
        refine XS.ifNo X123.here hx rfl (hb hby at_163) rfl ((if0 _ _).trans (feq (by decide)).1) ?_
        show Steps p.tables e below (T123.setTop (mkF m 166 #[.val (.int p1), .val (.int p2), .val (.ref b2), .val (.int (3 : Int32)), .val (.int (0 : Int32)), .val (.ref v3), .val (.int (1 : Int32)), .val (.int (1 : Int32)), .val (.int (1 : Int32)), .val (.int (1 : Int32)), .val (.int (0 : Int32))] [])) t
        refine XS.iload X123.here hx rfl (hb hby at_166) rfl ?_
        show Steps p.tables e below (T123.setTop (mkF m 168 #[.val (.int p1), .val (.int p2), .val (.ref b2), .val (.int (3 : Int32)), .val (.int (0 : Int32)), .val (.ref v3), .val (.int (1 : Int32)), .val (.int (1 : Int32)), .val (.int (1 : Int32)), .val (.int (1 : Int32)), .val (.int (0 : Int32))] [(.int (0 : Int32))])) t
        refine XS.ifNo X123.here hx rfl (hb hby at_168) rfl ((if0 _ _).trans (teq rfl).2) ?_
        show Steps p.tables e below (T123.setTop (mkF m 171 #[.val (.int p1), .val (.int p2), .val (.ref b2), .val (.int (3 : Int32)), .val (.int (0 : Int32)), .val (.ref v3), .val (.int (1 : Int32)), .val (.int (1 : Int32)), .val (.int (1 : Int32)), .val (.int (1 : Int32)), .val (.int (0 : Int32))] [])) t
        refine XS.iconst X123.here hx rfl (hb hby at_171) ?_
        show Steps p.tables e below (T123.setTop (mkF m 172 #[.val (.int p1), .val (.int p2), .val (.ref b2), .val (.int (3 : Int32)), .val (.int (0 : Int32)), .val (.ref v3), .val (.int (1 : Int32)), .val (.int (1 : Int32)), .val (.int (1 : Int32)), .val (.int (1 : Int32)), .val (.int (0 : Int32))] [(.int (1 : Int32))])) t
        refine XS.goto X123.here hx rfl (pc0 := 172) (pc' := 176) rfl (hb hby at_172) (by decide) (by decide) ?_
        exact k
      obtain ⟨fs, hr, hrun, hended, hW, hsame⟩ := X123.leave (v := some (.int (1 : Int32))) (fun h => by rw [Bd.returns] at h; cases h)
      refine ⟨_, _, pre0 _ (P125 _ ?_), hrun, hended, _, _, rfl, ?_, ⟨_, rfl⟩, hW, hsame.mono (by decide) (by decide)⟩
      · exact retN X123 hx (t := .boolean) Bd.returns (by simp) (hb hby at_176) hr
      · show Q0 Z p1 p2 v0 v1 v2 v3 v4 v5 h0 n0 _ T123.heap _
        rw [e123]
        exact ⟨rfl, N123⟩
    · obtain ⟨cl126, Ar126, q126, S126_, N126_, H126_, G126_⟩ := V_b2_38
      have hin126 : ¬ ((4 : Int32) < 0 ∨ cl126.slots.size ≤ ((4 : Int32)).toNatClampNeg) := inb_of S126_ ⟨by decide, by decide⟩
      have P127 : ∀ t, Steps p.tables e below (T38.setTop (mkF m 87 #[.val (.int p1), .val (.int p2), .val (.ref b2), .val (.int (4 : Int32)), .val (.int (0 : Int32)), .val (.ref v4), .val (.int (0 : Int32)), .unset, .unset, .unset, .unset] [(.ref v4)])) t → Steps p.tables e below (s₁.setTop (mkF m 0 #[.val (.int p1), .val (.int p2), .unset, .unset, .unset, .unset, .unset, .unset, .unset, .unset, .unset] [])) t := fun t k => by
        refine P44 t ?_
        show Steps p.tables e below (T38.setTop (mkF m 63 #[.val (.int p1), .val (.int p2), .val (.ref b2), .val (.int (4 : Int32)), .val (.int (0 : Int32)), .unset, .unset, .unset, .unset, .unset, .unset] [])) t
        refine XS.aloadN X38.here hx rfl (hb hby at_63) rfl rfl ?_
        show Steps p.tables e below (T38.setTop (mkF m 64 #[.val (.int p1), .val (.int p2), .val (.ref b2), .val (.int (4 : Int32)), .val (.int (0 : Int32)), .unset, .unset, .unset, .unset, .unset, .unset] [(.ref b2)])) t
        refine XS.iloadN X38.here hx rfl (hb hby at_64) rfl ?_
        show Steps p.tables e below (T38.setTop (mkF m 65 #[.val (.int p1), .val (.int p2), .val (.ref b2), .val (.int (4 : Int32)), .val (.int (0 : Int32)), .unset, .unset, .unset, .unset, .unset, .unset] [(.int (4 : Int32)), (.ref b2)])) t
        refine X38.aaload hx (j := (4 : Int32)) (v := (.ref v4)) (by rw [e38]; exact Ar126.1) (State.isArrayOf_alike hZ.alike Ar126.2.1) rfl Ar126.2.2 hin126 (Has.at H126_ hin126 rfl) (g := (mkF m 65 #[.val (.int p1), .val (.int p2), .val (.ref b2), .val (.int (4 : Int32)), .val (.int (0 : Int32)), .unset, .unset, .unset, .unset, .unset, .unset] [(.int (4 : Int32)), (.ref b2)])) rfl rfl (hb hby at_65) _ ?_
        show Steps p.tables e below (T38.setTop (mkF m 66 #[.val (.int p1), .val (.int p2), .val (.ref b2), .val (.int (4 : Int32)), .val (.int (0 : Int32)), .unset, .unset, .unset, .unset, .unset, .unset] [(.ref v4)])) t
        refine XS.astore X38.here hx rfl (hb hby at_66) rfl rfl (l' := #[.val (.int p1), .val (.int p2), .val (.ref b2), .val (.int (4 : Int32)), .val (.int (0 : Int32)), .val (.ref v4), .unset, .unset, .unset, .unset, .unset]) rfl ?_
        show Steps p.tables e below (T38.setTop (mkF m 68 #[.val (.int p1), .val (.int p2), .val (.ref b2), .val (.int (4 : Int32)), .val (.int (0 : Int32)), .val (.ref v4), .unset, .unset, .unset, .unset, .unset] [])) t
        refine XS.iloadN X38.here hx rfl (hb hby at_68) rfl ?_
        show Steps p.tables e below (T38.setTop (mkF m 69 #[.val (.int p1), .val (.int p2), .val (.ref b2), .val (.int (4 : Int32)), .val (.int (0 : Int32)), .val (.ref v4), .unset, .unset, .unset, .unset, .unset] [(.int (4 : Int32))])) t
        refine XS.iconst X38.here hx rfl (hb hby at_69) ?_
        show Steps p.tables e below (T38.setTop (mkF m 70 #[.val (.int p1), .val (.int p2), .val (.ref b2), .val (.int (4 : Int32)), .val (.int (0 : Int32)), .val (.ref v4), .unset, .unset, .unset, .unset, .unset] [(.int (2 : Int32)), (.int (4 : Int32))])) t
        refine XS.icmpNo X38.here hx rfl (hb hby at_70) rfl (feq (by decide)).1 ?_
        show Steps p.tables e below (T38.setTop (mkF m 73 #[.val (.int p1), .val (.int p2), .val (.ref b2), .val (.int (4 : Int32)), .val (.int (0 : Int32)), .val (.ref v4), .unset, .unset, .unset, .unset, .unset] [])) t
        refine XS.iloadN X38.here hx rfl (hb hby at_73) rfl ?_
        show Steps p.tables e below (T38.setTop (mkF m 74 #[.val (.int p1), .val (.int p2), .val (.ref b2), .val (.int (4 : Int32)), .val (.int (0 : Int32)), .val (.ref v4), .unset, .unset, .unset, .unset, .unset] [(.int (4 : Int32))])) t
        refine XS.iconst X38.here hx rfl (hb hby at_74) ?_
        show Steps p.tables e below (T38.setTop (mkF m 75 #[.val (.int p1), .val (.int p2), .val (.ref b2), .val (.int (4 : Int32)), .val (.int (0 : Int32)), .val (.ref v4), .unset, .unset, .unset, .unset, .unset] [(.int (3 : Int32)), (.int (4 : Int32))])) t
        refine XS.icmpYes X38.here hx rfl (pc0 := 75) (pc' := 82) rfl (hb hby at_75) rfl (feq (by decide)).2 (by decide) (by decide) ?_
        show Steps p.tables e below (T38.setTop (mkF m 82 #[.val (.int p1), .val (.int p2), .val (.ref b2), .val (.int (4 : Int32)), .val (.int (0 : Int32)), .val (.ref v4), .unset, .unset, .unset, .unset, .unset] [])) t
        refine XS.iconst X38.here hx rfl (hb hby at_82) ?_
        show Steps p.tables e below (T38.setTop (mkF m 83 #[.val (.int p1), .val (.int p2), .val (.ref b2), .val (.int (4 : Int32)), .val (.int (0 : Int32)), .val (.ref v4), .unset, .unset, .unset, .unset, .unset] [(.int (0 : Int32))])) t
        refine XS.istore X38.here hx rfl (hb hby at_83) rfl (l' := #[.val (.int p1), .val (.int p2), .val (.ref b2), .val (.int (4 : Int32)), .val (.int (0 : Int32)), .val (.ref v4), .val (.int (0 : Int32)), .unset, .unset, .unset, .unset]) rfl ?_
        show Steps p.tables e below (T38.setTop (mkF m 85 #[.val (.int p1), .val (.int p2), .val (.ref b2), .val (.int (4 : Int32)), .val (.int (0 : Int32)), .val (.ref v4), .val (.int (0 : Int32)), .unset, .unset, .unset, .unset] [])) t
        refine XS.aload X38.here hx rfl (hb hby at_85) rfl rfl ?_
        exact k
      obtain ⟨cq128, kq128, q128a, q128b, q128c⟩ := isOf hZ e38 EX4_38
      obtain ⟨_, _, ⟨T128, L128, k128, n128⟩, -, X128, ⟨Lc128, hQ128, l128, y128, z128⟩, st128⟩ := X38.virtualBack hx (y := (⟨"com/example/watermark/watermark/server/TransactionState$Phase", "isEnding", "()Z"⟩ : MethodName)) (z := (⟨"com/example/watermark/watermark/server/TransactionState$Phase", "isEnding", "()Z"⟩ : MethodName)) hown (mvT hZ (hw _ (List.mem_of_getElem? (i := 17) rfl))) (mvT hZ (hw _ (List.mem_of_getElem? (i := 18) rfl))) (notFace_of_selects (args := #[]) (mvT hZ (hw _ (List.mem_of_getElem? (i := 20) rfl)))) (mvT hZ (hw _ (List.mem_of_getElem? (i := 20) rfl))) (mvT hZ (hw _ (List.mem_of_getElem? (i := 19) rfl))) (by decide) (backOf (W := 0) (rm1n l Z a0 hw [] v4 v2 v3 h38 n0 Z_39 S2_38 S3_38 n2_4 n3_4) hZ (hw _ (List.mem_of_getElem? (i := 21) rfl)) (hw _ (List.mem_of_getElem? (i := 3) rfl)) (by decide) (by decide)) q128a q128c (g := (mkF m 87 #[.val (.int p1), .val (.int p2), .val (.ref b2), .val (.int (4 : Int32)), .val (.int (0 : Int32)), .val (.ref v4), .val (.int (0 : Int32)), .unset, .unset, .unset, .unset] [(.ref v4)])) rfl (by rw [hml]; rfl) (Steps.refl _) (argsL := []) (rest := []) (lenOf pd___Z rfl) rfl (by show 2 * 0 + _ ≤ _; exact Nat.le_of_eq rfl) (hb hby at_87) (fun _ _ => ⟨rfl, e38, (by decide : 1 + 0 ≤ _), (by decide : 6 + 0 ≤ _)⟩)
      dsimp only [Pt.U, Pt.locs, Pt.cells, Pt.slots] at X128 l128 y128 z128 st128 hQ128
      subst l128 y128 z128
      obtain ⟨rfl, N128q, e128⟩ := hQ128
      have N128 := Fr.app N38 N128q
      have P129 : ∀ t, Steps p.tables e below (T128.setTop (mkF m 90 #[.val (.int p1), .val (.int p2), .val (.ref b2), .val (.int (4 : Int32)), .val (.int (0 : Int32)), .val (.ref v4), .val (.int (0 : Int32)), .unset, .unset, .unset, .unset] [(.int (0 : Int32))])) t → Steps p.tables e below (s₁.setTop (mkF m 0 #[.val (.int p1), .val (.int p2), .unset, .unset, .unset, .unset, .unset, .unset, .unset, .unset, .unset] [])) t := fun t k => P127 t (st128.trans k)
      have P130 : ∀ t, Steps p.tables e below (T128.setTop (mkF m 96 #[.val (.int p1), .val (.int p2), .val (.ref b2), .val (.int (4 : Int32)), .val (.int (0 : Int32)), .val (.ref v4), .val (.int (0 : Int32)), .val (.int (0 : Int32)), .unset, .unset, .unset] [(.int (0 : Int32)), (.ref v4)])) t → Steps p.tables e below (s₁.setTop (mkF m 0 #[.val (.int p1), .val (.int p2), .unset, .unset, .unset, .unset, .unset, .unset, .unset, .unset, .unset] [])) t := fun t k => by
        refine P129 t ?_
        show Steps p.tables e below (T128.setTop (mkF m 90 #[.val (.int p1), .val (.int p2), .val (.ref b2), .val (.int (4 : Int32)), .val (.int (0 : Int32)), .val (.ref v4), .val (.int (0 : Int32)), .unset, .unset, .unset, .unset] [(.int (0 : Int32))])) t
        refine XS.istore X128.here hx rfl (hb hby at_90) rfl (l' := #[.val (.int p1), .val (.int p2), .val (.ref b2), .val (.int (4 : Int32)), .val (.int (0 : Int32)), .val (.ref v4), .val (.int (0 : Int32)), .val (.int (0 : Int32)), .unset, .unset, .unset]) rfl ?_
        show Steps p.tables e below (T128.setTop (mkF m 92 #[.val (.int p1), .val (.int p2), .val (.ref b2), .val (.int (4 : Int32)), .val (.int (0 : Int32)), .val (.ref v4), .val (.int (0 : Int32)), .val (.int (0 : Int32)), .unset, .unset, .unset] [])) t
        refine XS.aload X128.here hx rfl (hb hby at_92) rfl rfl ?_
        show Steps p.tables e below (T128.setTop (mkF m 94 #[.val (.int p1), .val (.int p2), .val (.ref b2), .val (.int (4 : Int32)), .val (.int (0 : Int32)), .val (.ref v4), .val (.int (0 : Int32)), .val (.int (0 : Int32)), .unset, .unset, .unset] [(.ref v4)])) t
        refine XS.iload X128.here hx rfl (hb hby at_94) rfl ?_
        exact k
      obtain ⟨_, _, ⟨T131, L131, k131, n131⟩, -, X131, ⟨Lc131, hQ131, l131, y131, z131⟩, st131⟩ := Jvm.LawKit.callS X128 hx (y := (⟨"com/example/watermark/watermark/server/TransactionState$Phase", "prepare", "(Z)Lcom/example/watermark/watermark/server/TransactionState$Phase;"⟩ : MethodName)) hown (mvT hZ (hw _ (List.mem_of_getElem? (i := 24) rfl))) (mvT hZ (hw _ (List.mem_of_getElem? (i := 25) rfl))) (mvT hZ (hw _ (List.mem_of_getElem? (i := 3) rfl))) (mvT hZ (hw _ (List.mem_of_getElem? (i := 26) rfl))) (by decide) (backOf (W := 1) (rm2f l Z a0 hw [] (0 : Int32) v3 h38 n0 Z_39 S3_38 rfl) hZ (hw _ (List.mem_of_getElem? (i := 26) rfl)) (hw _ (List.mem_of_getElem? (i := 3) rfl)) (by decide) (by decide)) (g := (mkF m 96 #[.val (.int p1), .val (.int p2), .val (.ref b2), .val (.int (4 : Int32)), .val (.int (0 : Int32)), .val (.ref v4), .val (.int (0 : Int32)), .val (.int (0 : Int32)), .unset, .unset, .unset] [(.int (0 : Int32)), (.ref v4)])) rfl (by rw [hml]; rfl) (argsL := [(.int (0 : Int32))]) (rest := [(.ref v4)]) (lenOf pd__Z_Lcom_example_watermark_watermark_server_TransactionState_Phase_ rfl) rfl (by show 2 * 0 + _ ≤ _; exact Nat.le_of_eq rfl) (hb hby at_96) (fun _ _ => ⟨rfl, e128, (by decide : 1 + 0 ≤ _), (by decide : 6 + 0 ≤ _)⟩)
      dsimp only [Pt.U, Pt.locs, Pt.cells, Pt.slots] at X131 l131 y131 z131 st131 hQ131
      subst l131 y131 z131
      obtain ⟨rfl, N131q, e131⟩ := hQ131
      have N131 := Fr.app N128 N131q
      have P132 : ∀ t, Steps p.tables e below (T131.setTop (mkF m 99 #[.val (.int p1), .val (.int p2), .val (.ref b2), .val (.int (4 : Int32)), .val (.int (0 : Int32)), .val (.ref v4), .val (.int (0 : Int32)), .val (.int (0 : Int32)), .unset, .unset, .unset] [(.ref v3), (.ref v4)])) t → Steps p.tables e below (s₁.setTop (mkF m 0 #[.val (.int p1), .val (.int p2), .unset, .unset, .unset, .unset, .unset, .unset, .unset, .unset, .unset] [])) t := fun t k => P130 t (st131 _ k)
      have P133 : ∀ t, Steps p.tables e below (T131.setTop (mkF m 114 #[.val (.int p1), .val (.int p2), .val (.ref b2), .val (.int (4 : Int32)), .val (.int (0 : Int32)), .val (.ref v4), .val (.int (0 : Int32)), .val (.int (0 : Int32)), .unset, .unset, .unset] [(.int (1 : Int32)), (.ref v4)])) t → Steps p.tables e below (s₁.setTop (mkF m 0 #[.val (.int p1), .val (.int p2), .unset, .unset, .unset, .unset, .unset, .unset, .unset, .unset, .unset] [])) t := fun t k => by
        refine P132 t ?_
        show Steps p.tables e below (T131.setTop (mkF m 99 #[.val (.int p1), .val (.int p2), .val (.ref b2), .val (.int (4 : Int32)), .val (.int (0 : Int32)), .val (.ref v4), .val (.int (0 : Int32)), .val (.int (0 : Int32)), .unset, .unset, .unset] [(.ref v3), (.ref v4)])) t
        refine Jvm.RoadKit.acmp (g := (mkF m 99 #[.val (.int p1), .val (.int p2), .val (.ref b2), .val (.int (4 : Int32)), .val (.int (0 : Int32)), .val (.ref v4), .val (.int (0 : Int32)), .val (.int (0 : Int32)), .unset, .unset, .unset] [(.ref v3), (.ref v4)])) X131 hx rfl rfl rfl (pc0 := 99) (pc' := 102) (same := false) rfl (hb hby at_99) rfl (decide_eq_false fun q => n3_4 (Value.ref.inj q)) (by decide) (by decide) ?_
        show Steps p.tables e below (T131.setTop (mkF m 102 #[.val (.int p1), .val (.int p2), .val (.ref b2), .val (.int (4 : Int32)), .val (.int (0 : Int32)), .val (.ref v4), .val (.int (0 : Int32)), .val (.int (0 : Int32)), .unset, .unset, .unset] [])) t
        refine XS.aload X131.here hx rfl (hb hby at_102) rfl rfl ?_
        show Steps p.tables e below (T131.setTop (mkF m 104 #[.val (.int p1), .val (.int p2), .val (.ref b2), .val (.int (4 : Int32)), .val (.int (0 : Int32)), .val (.ref v4), .val (.int (0 : Int32)), .val (.int (0 : Int32)), .unset, .unset, .unset] [(.ref v4)])) t
        refine XS.iload X131.here hx rfl (hb hby at_104) rfl ?_
        show Steps p.tables e below (T131.setTop (mkF m 106 #[.val (.int p1), .val (.int p2), .val (.ref b2), .val (.int (4 : Int32)), .val (.int (0 : Int32)), .val (.ref v4), .val (.int (0 : Int32)), .val (.int (0 : Int32)), .unset, .unset, .unset] [(.int (0 : Int32)), (.ref v4)])) t
        refine XS.ifNo X131.here hx rfl (hb hby at_106) rfl ((if0 _ _).trans (teq rfl).2) ?_
        show Steps p.tables e below (T131.setTop (mkF m 109 #[.val (.int p1), .val (.int p2), .val (.ref b2), .val (.int (4 : Int32)), .val (.int (0 : Int32)), .val (.ref v4), .val (.int (0 : Int32)), .val (.int (0 : Int32)), .unset, .unset, .unset] [(.ref v4)])) t
        refine XS.iconst X131.here hx rfl (hb hby at_109) ?_
        show Steps p.tables e below (T131.setTop (mkF m 110 #[.val (.int p1), .val (.int p2), .val (.ref b2), .val (.int (4 : Int32)), .val (.int (0 : Int32)), .val (.ref v4), .val (.int (0 : Int32)), .val (.int (0 : Int32)), .unset, .unset, .unset] [(.int (1 : Int32)), (.ref v4)])) t
        refine XS.goto X131.here hx rfl (pc0 := 110) (pc' := 114) rfl (hb hby at_110) (by decide) (by decide) ?_
        exact k
      obtain ⟨_, _, ⟨T134, L134, k134, n134⟩, -, X134, ⟨Lc134, hQ134, l134, y134, z134⟩, st134⟩ := Jvm.LawKit.callS X131 hx (y := (⟨"com/example/watermark/watermark/server/TransactionState$Phase", "prepare", "(Z)Lcom/example/watermark/watermark/server/TransactionState$Phase;"⟩ : MethodName)) hown (mvT hZ (hw _ (List.mem_of_getElem? (i := 24) rfl))) (mvT hZ (hw _ (List.mem_of_getElem? (i := 25) rfl))) (mvT hZ (hw _ (List.mem_of_getElem? (i := 3) rfl))) (mvT hZ (hw _ (List.mem_of_getElem? (i := 26) rfl))) (by decide) (backOf (W := 1) (rm2t l Z a0 hw [] (1 : Int32) v2 h38 n0 Z_39 S2_38 (by decide)) hZ (hw _ (List.mem_of_getElem? (i := 26) rfl)) (hw _ (List.mem_of_getElem? (i := 3) rfl)) (by decide) (by decide)) (g := (mkF m 114 #[.val (.int p1), .val (.int p2), .val (.ref b2), .val (.int (4 : Int32)), .val (.int (0 : Int32)), .val (.ref v4), .val (.int (0 : Int32)), .val (.int (0 : Int32)), .unset, .unset, .unset] [(.int (1 : Int32)), (.ref v4)])) rfl (by rw [hml]; rfl) (argsL := [(.int (1 : Int32))]) (rest := [(.ref v4)]) (lenOf pd__Z_Lcom_example_watermark_watermark_server_TransactionState_Phase_ rfl) rfl (by show 2 * 0 + _ ≤ _; exact Nat.le_of_eq rfl) (hb hby at_114) (fun _ _ => ⟨rfl, e131, (by decide : 1 + 0 ≤ _), (by decide : 6 + 0 ≤ _)⟩)
      dsimp only [Pt.U, Pt.locs, Pt.cells, Pt.slots] at X134 l134 y134 z134 st134 hQ134
      subst l134 y134 z134
      obtain ⟨rfl, N134q, e134⟩ := hQ134
      have N134 := Fr.app N131 N134q
      have P135 : ∀ t, Steps p.tables e below (T134.setTop (mkF m 117 #[.val (.int p1), .val (.int p2), .val (.ref b2), .val (.int (4 : Int32)), .val (.int (0 : Int32)), .val (.ref v4), .val (.int (0 : Int32)), .val (.int (0 : Int32)), .unset, .unset, .unset] [(.ref v2), (.ref v4)])) t → Steps p.tables e below (s₁.setTop (mkF m 0 #[.val (.int p1), .val (.int p2), .unset, .unset, .unset, .unset, .unset, .unset, .unset, .unset, .unset] [])) t := fun t k => P133 t (st134 _ k)
      have P136 : ∀ t, Steps p.tables e below (T134.setTop (mkF m 129 #[.val (.int p1), .val (.int p2), .val (.ref b2), .val (.int (4 : Int32)), .val (.int (0 : Int32)), .val (.ref v4), .val (.int (0 : Int32)), .val (.int (0 : Int32)), .val (.int (0 : Int32)), .unset, .unset] [(.int (0 : Int32))])) t → Steps p.tables e below (s₁.setTop (mkF m 0 #[.val (.int p1), .val (.int p2), .unset, .unset, .unset, .unset, .unset, .unset, .unset, .unset, .unset] [])) t := fun t k => by
        refine P135 t ?_
        show Steps p.tables e below (T134.setTop (mkF m 117 #[.val (.int p1), .val (.int p2), .val (.ref b2), .val (.int (4 : Int32)), .val (.int (0 : Int32)), .val (.ref v4), .val (.int (0 : Int32)), .val (.int (0 : Int32)), .unset, .unset, .unset] [(.ref v2), (.ref v4)])) t
        refine Jvm.RoadKit.acmp (g := (mkF m 117 #[.val (.int p1), .val (.int p2), .val (.ref b2), .val (.int (4 : Int32)), .val (.int (0 : Int32)), .val (.ref v4), .val (.int (0 : Int32)), .val (.int (0 : Int32)), .unset, .unset, .unset] [(.ref v2), (.ref v4)])) X134 hx rfl rfl rfl (pc0 := 117) (pc' := 124) (same := false) rfl (hb hby at_117) rfl (decide_eq_false fun q => n2_4 (Value.ref.inj q)) (by decide) (by decide) ?_
        show Steps p.tables e below (T134.setTop (mkF m 124 #[.val (.int p1), .val (.int p2), .val (.ref b2), .val (.int (4 : Int32)), .val (.int (0 : Int32)), .val (.ref v4), .val (.int (0 : Int32)), .val (.int (0 : Int32)), .unset, .unset, .unset] [])) t
        refine XS.iconst X134.here hx rfl (hb hby at_124) ?_
        show Steps p.tables e below (T134.setTop (mkF m 125 #[.val (.int p1), .val (.int p2), .val (.ref b2), .val (.int (4 : Int32)), .val (.int (0 : Int32)), .val (.ref v4), .val (.int (0 : Int32)), .val (.int (0 : Int32)), .unset, .unset, .unset] [(.int (0 : Int32))])) t
        refine XS.istore X134.here hx rfl (hb hby at_125) rfl (l' := #[.val (.int p1), .val (.int p2), .val (.ref b2), .val (.int (4 : Int32)), .val (.int (0 : Int32)), .val (.ref v4), .val (.int (0 : Int32)), .val (.int (0 : Int32)), .val (.int (0 : Int32)), .unset, .unset]) rfl ?_
        show Steps p.tables e below (T134.setTop (mkF m 127 #[.val (.int p1), .val (.int p2), .val (.ref b2), .val (.int (4 : Int32)), .val (.int (0 : Int32)), .val (.ref v4), .val (.int (0 : Int32)), .val (.int (0 : Int32)), .val (.int (0 : Int32)), .unset, .unset] [])) t
        refine XS.iload X134.here hx rfl (hb hby at_127) rfl ?_
        exact k
      obtain ⟨_, _, ⟨T137, L137, k137, n137⟩, -, X137, ⟨Lc137, hQ137, l137, y137, z137⟩, st137⟩ := Jvm.LawKit.callS X134 hx (y := (⟨"com/example/watermark/watermark/server/TransactionState$Phase", "prepare", "(Z)Lcom/example/watermark/watermark/server/TransactionState$Phase;"⟩ : MethodName)) hown (mvT hZ (hw _ (List.mem_of_getElem? (i := 24) rfl))) (mvT hZ (hw _ (List.mem_of_getElem? (i := 25) rfl))) (mvT hZ (hw _ (List.mem_of_getElem? (i := 3) rfl))) (mvT hZ (hw _ (List.mem_of_getElem? (i := 26) rfl))) (by decide) (backOf (W := 0) (rm2f l Z a0 hw [] (0 : Int32) v3 h38 n0 Z_39 S3_38 rfl) hZ (hw _ (List.mem_of_getElem? (i := 26) rfl)) (hw _ (List.mem_of_getElem? (i := 3) rfl)) (by decide) (by decide)) (g := (mkF m 129 #[.val (.int p1), .val (.int p2), .val (.ref b2), .val (.int (4 : Int32)), .val (.int (0 : Int32)), .val (.ref v4), .val (.int (0 : Int32)), .val (.int (0 : Int32)), .val (.int (0 : Int32)), .unset, .unset] [(.int (0 : Int32))])) rfl (by rw [hml]; rfl) (argsL := [(.int (0 : Int32))]) (rest := []) (lenOf pd__Z_Lcom_example_watermark_watermark_server_TransactionState_Phase_ rfl) rfl (by show 2 * 0 + _ ≤ _; exact Nat.le_of_eq rfl) (hb hby at_129) (fun _ _ => ⟨rfl, e134, (by decide : 1 + 0 ≤ _), (by decide : 6 + 0 ≤ _)⟩)
      dsimp only [Pt.U, Pt.locs, Pt.cells, Pt.slots] at X137 l137 y137 z137 st137 hQ137
      subst l137 y137 z137
      obtain ⟨rfl, N137q, e137⟩ := hQ137
      have N137 := Fr.app N134 N137q
      have P138 : ∀ t, Steps p.tables e below (T137.setTop (mkF m 132 #[.val (.int p1), .val (.int p2), .val (.ref b2), .val (.int (4 : Int32)), .val (.int (0 : Int32)), .val (.ref v4), .val (.int (0 : Int32)), .val (.int (0 : Int32)), .val (.int (0 : Int32)), .unset, .unset] [(.ref v3)])) t → Steps p.tables e below (s₁.setTop (mkF m 0 #[.val (.int p1), .val (.int p2), .unset, .unset, .unset, .unset, .unset, .unset, .unset, .unset, .unset] [])) t := fun t k => P136 t (st137 _ k)
      obtain ⟨cq139, kq139, q139a, q139b, q139c⟩ := isOf hZ e137 EX3_38
      obtain ⟨_, _, ⟨T139, L139, k139, n139⟩, -, X139, ⟨Lc139, hQ139, l139, y139, z139⟩, st139⟩ := X137.virtualBack hx (y := (⟨"com/example/watermark/watermark/server/TransactionState$Phase", "isEnding", "()Z"⟩ : MethodName)) (z := (⟨"com/example/watermark/watermark/server/TransactionState$Phase", "isEnding", "()Z"⟩ : MethodName)) hown (mvT hZ (hw _ (List.mem_of_getElem? (i := 17) rfl))) (mvT hZ (hw _ (List.mem_of_getElem? (i := 18) rfl))) (notFace_of_selects (args := #[]) (mvT hZ (hw _ (List.mem_of_getElem? (i := 20) rfl)))) (mvT hZ (hw _ (List.mem_of_getElem? (i := 20) rfl))) (mvT hZ (hw _ (List.mem_of_getElem? (i := 19) rfl))) (by decide) (backOf (W := 0) (rm1s l Z a0 hw [] v3 v2 v3 h38 n0 Z_39 S2_38 S3_38 n2_3 rfl) hZ (hw _ (List.mem_of_getElem? (i := 21) rfl)) (hw _ (List.mem_of_getElem? (i := 3) rfl)) (by decide) (by decide)) q139a q139c (g := (mkF m 132 #[.val (.int p1), .val (.int p2), .val (.ref b2), .val (.int (4 : Int32)), .val (.int (0 : Int32)), .val (.ref v4), .val (.int (0 : Int32)), .val (.int (0 : Int32)), .val (.int (0 : Int32)), .unset, .unset] [(.ref v3)])) rfl (by rw [hml]; rfl) (Steps.refl _) (argsL := []) (rest := []) (lenOf pd___Z rfl) rfl (by show 2 * 0 + _ ≤ _; exact Nat.le_of_eq rfl) (hb hby at_132) (fun _ _ => ⟨rfl, e137, (by decide : 1 + 0 ≤ _), (by decide : 6 + 0 ≤ _)⟩)
      dsimp only [Pt.U, Pt.locs, Pt.cells, Pt.slots] at X139 l139 y139 z139 st139 hQ139
      subst l139 y139 z139
      obtain ⟨rfl, N139q, e139⟩ := hQ139
      have N139 := Fr.app N137 N139q
      have P140 : ∀ t, Steps p.tables e below (T139.setTop (mkF m 135 #[.val (.int p1), .val (.int p2), .val (.ref b2), .val (.int (4 : Int32)), .val (.int (0 : Int32)), .val (.ref v4), .val (.int (0 : Int32)), .val (.int (0 : Int32)), .val (.int (0 : Int32)), .unset, .unset] [(.int (1 : Int32))])) t → Steps p.tables e below (s₁.setTop (mkF m 0 #[.val (.int p1), .val (.int p2), .unset, .unset, .unset, .unset, .unset, .unset, .unset, .unset, .unset] [])) t := fun t k => P138 t (st139.trans k)
      have P141 : ∀ t, Steps p.tables e below (T139.setTop (mkF m 139 #[.val (.int p1), .val (.int p2), .val (.ref b2), .val (.int (4 : Int32)), .val (.int (0 : Int32)), .val (.ref v4), .val (.int (0 : Int32)), .val (.int (0 : Int32)), .val (.int (0 : Int32)), .val (.int (1 : Int32)), .unset] [(.int (0 : Int32))])) t → Steps p.tables e below (s₁.setTop (mkF m 0 #[.val (.int p1), .val (.int p2), .unset, .unset, .unset, .unset, .unset, .unset, .unset, .unset, .unset] [])) t := fun t k => by
        refine P140 t ?_
        show Steps p.tables e below (T139.setTop (mkF m 135 #[.val (.int p1), .val (.int p2), .val (.ref b2), .val (.int (4 : Int32)), .val (.int (0 : Int32)), .val (.ref v4), .val (.int (0 : Int32)), .val (.int (0 : Int32)), .val (.int (0 : Int32)), .unset, .unset] [(.int (1 : Int32))])) t
        refine XS.istore X139.here hx rfl (hb hby at_135) rfl (l' := #[.val (.int p1), .val (.int p2), .val (.ref b2), .val (.int (4 : Int32)), .val (.int (0 : Int32)), .val (.ref v4), .val (.int (0 : Int32)), .val (.int (0 : Int32)), .val (.int (0 : Int32)), .val (.int (1 : Int32)), .unset]) rfl ?_
        show Steps p.tables e below (T139.setTop (mkF m 137 #[.val (.int p1), .val (.int p2), .val (.ref b2), .val (.int (4 : Int32)), .val (.int (0 : Int32)), .val (.ref v4), .val (.int (0 : Int32)), .val (.int (0 : Int32)), .val (.int (0 : Int32)), .val (.int (1 : Int32)), .unset] [])) t
        refine XS.iload X139.here hx rfl (hb hby at_137) rfl ?_
        exact k
      obtain ⟨_, _, ⟨T142, L142, k142, n142⟩, -, X142, ⟨Lc142, hQ142, l142, y142, z142⟩, st142⟩ := Jvm.LawKit.callS X139 hx (y := (⟨"com/example/watermark/watermark/server/TransactionState$Phase", "complete", "(Z)Lcom/example/watermark/watermark/server/TransactionState$Phase;"⟩ : MethodName)) hown (mvT hZ (hw _ (List.mem_of_getElem? (i := 27) rfl))) (mvT hZ (hw _ (List.mem_of_getElem? (i := 28) rfl))) (mvT hZ (hw _ (List.mem_of_getElem? (i := 3) rfl))) (mvT hZ (hw _ (List.mem_of_getElem? (i := 29) rfl))) (by decide) (backOf (W := 0) (rm3f l Z a0 hw [] (0 : Int32) v5 h38 n0 Z_39 S5_38 rfl) hZ (hw _ (List.mem_of_getElem? (i := 29) rfl)) (hw _ (List.mem_of_getElem? (i := 3) rfl)) (by decide) (by decide)) (g := (mkF m 139 #[.val (.int p1), .val (.int p2), .val (.ref b2), .val (.int (4 : Int32)), .val (.int (0 : Int32)), .val (.ref v4), .val (.int (0 : Int32)), .val (.int (0 : Int32)), .val (.int (0 : Int32)), .val (.int (1 : Int32)), .unset] [(.int (0 : Int32))])) rfl (by rw [hml]; rfl) (argsL := [(.int (0 : Int32))]) (rest := []) (lenOf pd__Z_Lcom_example_watermark_watermark_server_TransactionState_Phase_ rfl) rfl (by show 2 * 0 + _ ≤ _; exact Nat.le_of_eq rfl) (hb hby at_139) (fun _ _ => ⟨rfl, e139, (by decide : 1 + 0 ≤ _), (by decide : 6 + 0 ≤ _)⟩)
      dsimp only [Pt.U, Pt.locs, Pt.cells, Pt.slots] at X142 l142 y142 z142 st142 hQ142
      subst l142 y142 z142
      obtain ⟨rfl, N142q, e142⟩ := hQ142
      have N142 := Fr.app N139 N142q
      have P143 : ∀ t, Steps p.tables e below (T142.setTop (mkF m 142 #[.val (.int p1), .val (.int p2), .val (.ref b2), .val (.int (4 : Int32)), .val (.int (0 : Int32)), .val (.ref v4), .val (.int (0 : Int32)), .val (.int (0 : Int32)), .val (.int (0 : Int32)), .val (.int (1 : Int32)), .unset] [(.ref v5)])) t → Steps p.tables e below (s₁.setTop (mkF m 0 #[.val (.int p1), .val (.int p2), .unset, .unset, .unset, .unset, .unset, .unset, .unset, .unset, .unset] [])) t := fun t k => P141 t (st142 _ k)
      obtain ⟨cq144, kq144, q144a, q144b, q144c⟩ := isOf hZ e142 EX5_38
      obtain ⟨_, _, ⟨T144, L144, k144, n144⟩, -, X144, ⟨Lc144, hQ144, l144, y144, z144⟩, st144⟩ := X142.virtualBack hx (y := (⟨"com/example/watermark/watermark/server/TransactionState$Phase", "isEnding", "()Z"⟩ : MethodName)) (z := (⟨"com/example/watermark/watermark/server/TransactionState$Phase", "isEnding", "()Z"⟩ : MethodName)) hown (mvT hZ (hw _ (List.mem_of_getElem? (i := 17) rfl))) (mvT hZ (hw _ (List.mem_of_getElem? (i := 18) rfl))) (notFace_of_selects (args := #[]) (mvT hZ (hw _ (List.mem_of_getElem? (i := 20) rfl)))) (mvT hZ (hw _ (List.mem_of_getElem? (i := 20) rfl))) (mvT hZ (hw _ (List.mem_of_getElem? (i := 19) rfl))) (by decide) (backOf (W := 0) (rm1n l Z a0 hw [] v5 v2 v3 h38 n0 Z_39 S2_38 S3_38 n2_5 n3_5) hZ (hw _ (List.mem_of_getElem? (i := 21) rfl)) (hw _ (List.mem_of_getElem? (i := 3) rfl)) (by decide) (by decide)) q144a q144c (g := (mkF m 142 #[.val (.int p1), .val (.int p2), .val (.ref b2), .val (.int (4 : Int32)), .val (.int (0 : Int32)), .val (.ref v4), .val (.int (0 : Int32)), .val (.int (0 : Int32)), .val (.int (0 : Int32)), .val (.int (1 : Int32)), .unset] [(.ref v5)])) rfl (by rw [hml]; rfl) (Steps.refl _) (argsL := []) (rest := []) (lenOf pd___Z rfl) rfl (by show 2 * 0 + _ ≤ _; exact Nat.le_of_eq rfl) (hb hby at_142) (fun _ _ => ⟨rfl, e142, (by decide : 1 + 0 ≤ _), (by decide : 6 + 0 ≤ _)⟩)
      dsimp only [Pt.U, Pt.locs, Pt.cells, Pt.slots] at X144 l144 y144 z144 st144 hQ144
      subst l144 y144 z144
      obtain ⟨rfl, N144q, e144⟩ := hQ144
      have N144 := Fr.app N142 N144q
      have P145 : ∀ t, Steps p.tables e below (T144.setTop (mkF m 145 #[.val (.int p1), .val (.int p2), .val (.ref b2), .val (.int (4 : Int32)), .val (.int (0 : Int32)), .val (.ref v4), .val (.int (0 : Int32)), .val (.int (0 : Int32)), .val (.int (0 : Int32)), .val (.int (1 : Int32)), .unset] [(.int (0 : Int32))])) t → Steps p.tables e below (s₁.setTop (mkF m 0 #[.val (.int p1), .val (.int p2), .unset, .unset, .unset, .unset, .unset, .unset, .unset, .unset, .unset] [])) t := fun t k => P143 t (st144.trans k)
      have P146 : ∀ t, Steps p.tables e below (T144.setTop (mkF m 176 #[.val (.int p1), .val (.int p2), .val (.ref b2), .val (.int (4 : Int32)), .val (.int (0 : Int32)), .val (.ref v4), .val (.int (0 : Int32)), .val (.int (0 : Int32)), .val (.int (0 : Int32)), .val (.int (1 : Int32)), .val (.int (0 : Int32))] [(.int (1 : Int32))])) t → Steps p.tables e below (s₁.setTop (mkF m 0 #[.val (.int p1), .val (.int p2), .unset, .unset, .unset, .unset, .unset, .unset, .unset, .unset, .unset] [])) t := fun t k => by
        refine P145 t ?_
        show Steps p.tables e below (T144.setTop (mkF m 145 #[.val (.int p1), .val (.int p2), .val (.ref b2), .val (.int (4 : Int32)), .val (.int (0 : Int32)), .val (.ref v4), .val (.int (0 : Int32)), .val (.int (0 : Int32)), .val (.int (0 : Int32)), .val (.int (1 : Int32)), .unset] [(.int (0 : Int32))])) t
        refine XS.istore X144.here hx rfl (hb hby at_145) rfl (l' := #[.val (.int p1), .val (.int p2), .val (.ref b2), .val (.int (4 : Int32)), .val (.int (0 : Int32)), .val (.ref v4), .val (.int (0 : Int32)), .val (.int (0 : Int32)), .val (.int (0 : Int32)), .val (.int (1 : Int32)), .val (.int (0 : Int32))]) rfl ?_
        show Steps p.tables e below (T144.setTop (mkF m 147 #[.val (.int p1), .val (.int p2), .val (.ref b2), .val (.int (4 : Int32)), .val (.int (0 : Int32)), .val (.ref v4), .val (.int (0 : Int32)), .val (.int (0 : Int32)), .val (.int (0 : Int32)), .val (.int (1 : Int32)), .val (.int (0 : Int32))] [])) t
        refine XS.iload X144.here hx rfl (hb hby at_147) rfl ?_
        show Steps p.tables e below (T144.setTop (mkF m 149 #[.val (.int p1), .val (.int p2), .val (.ref b2), .val (.int (4 : Int32)), .val (.int (0 : Int32)), .val (.ref v4), .val (.int (0 : Int32)), .val (.int (0 : Int32)), .val (.int (0 : Int32)), .val (.int (1 : Int32)), .val (.int (0 : Int32))] [(.int (0 : Int32))])) t
        refine XS.iload X144.here hx rfl (hb hby at_149) rfl ?_
        show Steps p.tables e below (T144.setTop (mkF m 151 #[.val (.int p1), .val (.int p2), .val (.ref b2), .val (.int (4 : Int32)), .val (.int (0 : Int32)), .val (.ref v4), .val (.int (0 : Int32)), .val (.int (0 : Int32)), .val (.int (0 : Int32)), .val (.int (1 : Int32)), .val (.int (0 : Int32))] [(.int (0 : Int32)), (.int (0 : Int32))])) t
        refine XS.icmpNo X144.here hx rfl (hb hby at_151) rfl (teq rfl).2 ?_
        show Steps p.tables e below (T144.setTop (mkF m 154 #[.val (.int p1), .val (.int p2), .val (.ref b2), .val (.int (4 : Int32)), .val (.int (0 : Int32)), .val (.ref v4), .val (.int (0 : Int32)), .val (.int (0 : Int32)), .val (.int (0 : Int32)), .val (.int (1 : Int32)), .val (.int (0 : Int32))] [])) t
        refine XS.iload X144.here hx rfl (hb hby at_154) rfl ?_
        show Steps p.tables e below (T144.setTop (mkF m 156 #[.val (.int p1), .val (.int p2), .val (.ref b2), .val (.int (4 : Int32)), .val (.int (0 : Int32)), .val (.ref v4), .val (.int (0 : Int32)), .val (.int (0 : Int32)), .val (.int (0 : Int32)), .val (.int (1 : Int32)), .val (.int (0 : Int32))] [(.int (0 : Int32))])) t
        refine XS.iload X144.here hx rfl (hb hby at_156) rfl ?_
        show Steps p.tables e below (T144.setTop (mkF m 158 #[.val (.int p1), .val (.int p2), .val (.ref b2), .val (.int (4 : Int32)), .val (.int (0 : Int32)), .val (.ref v4), .val (.int (0 : Int32)), .val (.int (0 : Int32)), .val (.int (0 : Int32)), .val (.int (1 : Int32)), .val (.int (0 : Int32))] [(.int (0 : Int32)), (.int (0 : Int32))])) t
        refine XS.icmpNo X144.here hx rfl (hb hby at_158) rfl (teq rfl).2 ?_
        show Steps p.tables e below (T144.setTop (mkF m 161 #[.val (.int p1), .val (.int p2), .val (.ref b2), .val (.int (4 : Int32)), .val (.int (0 : Int32)), .val (.ref v4), .val (.int (0 : Int32)), .val (.int (0 : Int32)), .val (.int (0 : Int32)), .val (.int (1 : Int32)), .val (.int (0 : Int32))] [])) t
        refine XS.iload X144.here hx rfl (hb hby at_161) rfl ?_
        show Steps p.tables e below (T144.setTop (mkF m 163 #[.val (.int p1), .val (.int p2), .val (.ref b2), .val (.int (4 : Int32)), .val (.int (0 : Int32)), .val (.ref v4), .val (.int (0 : Int32)), .val (.int (0 : Int32)), .val (.int (0 : Int32)), .val (.int (1 : Int32)), .val (.int (0 : Int32))] [(.int (1 : Int32))])) t
        refine XS.ifNo X144.here hx rfl (hb hby at_163) rfl ((if0 _ _).trans (feq (by decide)).1) ?_
        show Steps p.tables e below (T144.setTop (mkF m 166 #[.val (.int p1), .val (.int p2), .val (.ref b2), .val (.int (4 : Int32)), .val (.int (0 : Int32)), .val (.ref v4), .val (.int (0 : Int32)), .val (.int (0 : Int32)), .val (.int (0 : Int32)), .val (.int (1 : Int32)), .val (.int (0 : Int32))] [])) t
        refine XS.iload X144.here hx rfl (hb hby at_166) rfl ?_
        show Steps p.tables e below (T144.setTop (mkF m 168 #[.val (.int p1), .val (.int p2), .val (.ref b2), .val (.int (4 : Int32)), .val (.int (0 : Int32)), .val (.ref v4), .val (.int (0 : Int32)), .val (.int (0 : Int32)), .val (.int (0 : Int32)), .val (.int (1 : Int32)), .val (.int (0 : Int32))] [(.int (0 : Int32))])) t
        refine XS.ifNo X144.here hx rfl (hb hby at_168) rfl ((if0 _ _).trans (teq rfl).2) ?_
        show Steps p.tables e below (T144.setTop (mkF m 171 #[.val (.int p1), .val (.int p2), .val (.ref b2), .val (.int (4 : Int32)), .val (.int (0 : Int32)), .val (.ref v4), .val (.int (0 : Int32)), .val (.int (0 : Int32)), .val (.int (0 : Int32)), .val (.int (1 : Int32)), .val (.int (0 : Int32))] [])) t
        refine XS.iconst X144.here hx rfl (hb hby at_171) ?_
        show Steps p.tables e below (T144.setTop (mkF m 172 #[.val (.int p1), .val (.int p2), .val (.ref b2), .val (.int (4 : Int32)), .val (.int (0 : Int32)), .val (.ref v4), .val (.int (0 : Int32)), .val (.int (0 : Int32)), .val (.int (0 : Int32)), .val (.int (1 : Int32)), .val (.int (0 : Int32))] [(.int (1 : Int32))])) t
        refine XS.goto X144.here hx rfl (pc0 := 172) (pc' := 176) rfl (hb hby at_172) (by decide) (by decide) ?_
        exact k
      obtain ⟨fs, hr, hrun, hended, hW, hsame⟩ := X144.leave (v := some (.int (1 : Int32))) (fun h => by rw [Bd.returns] at h; cases h)
      refine ⟨_, _, pre0 _ (P146 _ ?_), hrun, hended, _, _, rfl, ?_, ⟨_, rfl⟩, hW, hsame.mono (by decide) (by decide)⟩
      · exact retN X144 hx (t := .boolean) Bd.returns (by simp) (hb hby at_176) hr
      · show Q0 Z p1 p2 v0 v1 v2 v3 v4 v5 h0 n0 _ T144.heap _
        rw [e144]
        exact ⟨rfl, N144⟩
    · obtain ⟨cl147, Ar147, q147, S147_, N147_, H147_, G147_⟩ := V_b2_38
      have hin147 : ¬ ((5 : Int32) < 0 ∨ cl147.slots.size ≤ ((5 : Int32)).toNatClampNeg) := inb_of S147_ ⟨by decide, by decide⟩
      have P148 : ∀ t, Steps p.tables e below (T38.setTop (mkF m 87 #[.val (.int p1), .val (.int p2), .val (.ref b2), .val (.int (5 : Int32)), .val (.int (0 : Int32)), .val (.ref v5), .val (.int (0 : Int32)), .unset, .unset, .unset, .unset] [(.ref v5)])) t → Steps p.tables e below (s₁.setTop (mkF m 0 #[.val (.int p1), .val (.int p2), .unset, .unset, .unset, .unset, .unset, .unset, .unset, .unset, .unset] [])) t := fun t k => by
        refine P44 t ?_
        show Steps p.tables e below (T38.setTop (mkF m 63 #[.val (.int p1), .val (.int p2), .val (.ref b2), .val (.int (5 : Int32)), .val (.int (0 : Int32)), .unset, .unset, .unset, .unset, .unset, .unset] [])) t
        refine XS.aloadN X38.here hx rfl (hb hby at_63) rfl rfl ?_
        show Steps p.tables e below (T38.setTop (mkF m 64 #[.val (.int p1), .val (.int p2), .val (.ref b2), .val (.int (5 : Int32)), .val (.int (0 : Int32)), .unset, .unset, .unset, .unset, .unset, .unset] [(.ref b2)])) t
        refine XS.iloadN X38.here hx rfl (hb hby at_64) rfl ?_
        show Steps p.tables e below (T38.setTop (mkF m 65 #[.val (.int p1), .val (.int p2), .val (.ref b2), .val (.int (5 : Int32)), .val (.int (0 : Int32)), .unset, .unset, .unset, .unset, .unset, .unset] [(.int (5 : Int32)), (.ref b2)])) t
        refine X38.aaload hx (j := (5 : Int32)) (v := (.ref v5)) (by rw [e38]; exact Ar147.1) (State.isArrayOf_alike hZ.alike Ar147.2.1) rfl Ar147.2.2 hin147 (Has.at H147_ hin147 rfl) (g := (mkF m 65 #[.val (.int p1), .val (.int p2), .val (.ref b2), .val (.int (5 : Int32)), .val (.int (0 : Int32)), .unset, .unset, .unset, .unset, .unset, .unset] [(.int (5 : Int32)), (.ref b2)])) rfl rfl (hb hby at_65) _ ?_
        show Steps p.tables e below (T38.setTop (mkF m 66 #[.val (.int p1), .val (.int p2), .val (.ref b2), .val (.int (5 : Int32)), .val (.int (0 : Int32)), .unset, .unset, .unset, .unset, .unset, .unset] [(.ref v5)])) t
        refine XS.astore X38.here hx rfl (hb hby at_66) rfl rfl (l' := #[.val (.int p1), .val (.int p2), .val (.ref b2), .val (.int (5 : Int32)), .val (.int (0 : Int32)), .val (.ref v5), .unset, .unset, .unset, .unset, .unset]) rfl ?_
        show Steps p.tables e below (T38.setTop (mkF m 68 #[.val (.int p1), .val (.int p2), .val (.ref b2), .val (.int (5 : Int32)), .val (.int (0 : Int32)), .val (.ref v5), .unset, .unset, .unset, .unset, .unset] [])) t
        refine XS.iloadN X38.here hx rfl (hb hby at_68) rfl ?_
        show Steps p.tables e below (T38.setTop (mkF m 69 #[.val (.int p1), .val (.int p2), .val (.ref b2), .val (.int (5 : Int32)), .val (.int (0 : Int32)), .val (.ref v5), .unset, .unset, .unset, .unset, .unset] [(.int (5 : Int32))])) t
        refine XS.iconst X38.here hx rfl (hb hby at_69) ?_
        show Steps p.tables e below (T38.setTop (mkF m 70 #[.val (.int p1), .val (.int p2), .val (.ref b2), .val (.int (5 : Int32)), .val (.int (0 : Int32)), .val (.ref v5), .unset, .unset, .unset, .unset, .unset] [(.int (2 : Int32)), (.int (5 : Int32))])) t
        refine XS.icmpNo X38.here hx rfl (hb hby at_70) rfl (feq (by decide)).1 ?_
        show Steps p.tables e below (T38.setTop (mkF m 73 #[.val (.int p1), .val (.int p2), .val (.ref b2), .val (.int (5 : Int32)), .val (.int (0 : Int32)), .val (.ref v5), .unset, .unset, .unset, .unset, .unset] [])) t
        refine XS.iloadN X38.here hx rfl (hb hby at_73) rfl ?_
        show Steps p.tables e below (T38.setTop (mkF m 74 #[.val (.int p1), .val (.int p2), .val (.ref b2), .val (.int (5 : Int32)), .val (.int (0 : Int32)), .val (.ref v5), .unset, .unset, .unset, .unset, .unset] [(.int (5 : Int32))])) t
        refine XS.iconst X38.here hx rfl (hb hby at_74) ?_
        show Steps p.tables e below (T38.setTop (mkF m 75 #[.val (.int p1), .val (.int p2), .val (.ref b2), .val (.int (5 : Int32)), .val (.int (0 : Int32)), .val (.ref v5), .unset, .unset, .unset, .unset, .unset] [(.int (3 : Int32)), (.int (5 : Int32))])) t
        refine XS.icmpYes X38.here hx rfl (pc0 := 75) (pc' := 82) rfl (hb hby at_75) rfl (feq (by decide)).2 (by decide) (by decide) ?_
        show Steps p.tables e below (T38.setTop (mkF m 82 #[.val (.int p1), .val (.int p2), .val (.ref b2), .val (.int (5 : Int32)), .val (.int (0 : Int32)), .val (.ref v5), .unset, .unset, .unset, .unset, .unset] [])) t
        refine XS.iconst X38.here hx rfl (hb hby at_82) ?_
        show Steps p.tables e below (T38.setTop (mkF m 83 #[.val (.int p1), .val (.int p2), .val (.ref b2), .val (.int (5 : Int32)), .val (.int (0 : Int32)), .val (.ref v5), .unset, .unset, .unset, .unset, .unset] [(.int (0 : Int32))])) t
        refine XS.istore X38.here hx rfl (hb hby at_83) rfl (l' := #[.val (.int p1), .val (.int p2), .val (.ref b2), .val (.int (5 : Int32)), .val (.int (0 : Int32)), .val (.ref v5), .val (.int (0 : Int32)), .unset, .unset, .unset, .unset]) rfl ?_
        show Steps p.tables e below (T38.setTop (mkF m 85 #[.val (.int p1), .val (.int p2), .val (.ref b2), .val (.int (5 : Int32)), .val (.int (0 : Int32)), .val (.ref v5), .val (.int (0 : Int32)), .unset, .unset, .unset, .unset] [])) t
        refine XS.aload X38.here hx rfl (hb hby at_85) rfl rfl ?_
        exact k
      obtain ⟨cq149, kq149, q149a, q149b, q149c⟩ := isOf hZ e38 EX5_38
      obtain ⟨_, _, ⟨T149, L149, k149, n149⟩, -, X149, ⟨Lc149, hQ149, l149, y149, z149⟩, st149⟩ := X38.virtualBack hx (y := (⟨"com/example/watermark/watermark/server/TransactionState$Phase", "isEnding", "()Z"⟩ : MethodName)) (z := (⟨"com/example/watermark/watermark/server/TransactionState$Phase", "isEnding", "()Z"⟩ : MethodName)) hown (mvT hZ (hw _ (List.mem_of_getElem? (i := 17) rfl))) (mvT hZ (hw _ (List.mem_of_getElem? (i := 18) rfl))) (notFace_of_selects (args := #[]) (mvT hZ (hw _ (List.mem_of_getElem? (i := 20) rfl)))) (mvT hZ (hw _ (List.mem_of_getElem? (i := 20) rfl))) (mvT hZ (hw _ (List.mem_of_getElem? (i := 19) rfl))) (by decide) (backOf (W := 0) (rm1n l Z a0 hw [] v5 v2 v3 h38 n0 Z_39 S2_38 S3_38 n2_5 n3_5) hZ (hw _ (List.mem_of_getElem? (i := 21) rfl)) (hw _ (List.mem_of_getElem? (i := 3) rfl)) (by decide) (by decide)) q149a q149c (g := (mkF m 87 #[.val (.int p1), .val (.int p2), .val (.ref b2), .val (.int (5 : Int32)), .val (.int (0 : Int32)), .val (.ref v5), .val (.int (0 : Int32)), .unset, .unset, .unset, .unset] [(.ref v5)])) rfl (by rw [hml]; rfl) (Steps.refl _) (argsL := []) (rest := []) (lenOf pd___Z rfl) rfl (by show 2 * 0 + _ ≤ _; exact Nat.le_of_eq rfl) (hb hby at_87) (fun _ _ => ⟨rfl, e38, (by decide : 1 + 0 ≤ _), (by decide : 6 + 0 ≤ _)⟩)
      dsimp only [Pt.U, Pt.locs, Pt.cells, Pt.slots] at X149 l149 y149 z149 st149 hQ149
      subst l149 y149 z149
      obtain ⟨rfl, N149q, e149⟩ := hQ149
      have N149 := Fr.app N38 N149q
      have P150 : ∀ t, Steps p.tables e below (T149.setTop (mkF m 90 #[.val (.int p1), .val (.int p2), .val (.ref b2), .val (.int (5 : Int32)), .val (.int (0 : Int32)), .val (.ref v5), .val (.int (0 : Int32)), .unset, .unset, .unset, .unset] [(.int (0 : Int32))])) t → Steps p.tables e below (s₁.setTop (mkF m 0 #[.val (.int p1), .val (.int p2), .unset, .unset, .unset, .unset, .unset, .unset, .unset, .unset, .unset] [])) t := fun t k => P148 t (st149.trans k)
      have P151 : ∀ t, Steps p.tables e below (T149.setTop (mkF m 96 #[.val (.int p1), .val (.int p2), .val (.ref b2), .val (.int (5 : Int32)), .val (.int (0 : Int32)), .val (.ref v5), .val (.int (0 : Int32)), .val (.int (0 : Int32)), .unset, .unset, .unset] [(.int (0 : Int32)), (.ref v5)])) t → Steps p.tables e below (s₁.setTop (mkF m 0 #[.val (.int p1), .val (.int p2), .unset, .unset, .unset, .unset, .unset, .unset, .unset, .unset, .unset] [])) t := fun t k => by
        refine P150 t ?_
        show Steps p.tables e below (T149.setTop (mkF m 90 #[.val (.int p1), .val (.int p2), .val (.ref b2), .val (.int (5 : Int32)), .val (.int (0 : Int32)), .val (.ref v5), .val (.int (0 : Int32)), .unset, .unset, .unset, .unset] [(.int (0 : Int32))])) t
        refine XS.istore X149.here hx rfl (hb hby at_90) rfl (l' := #[.val (.int p1), .val (.int p2), .val (.ref b2), .val (.int (5 : Int32)), .val (.int (0 : Int32)), .val (.ref v5), .val (.int (0 : Int32)), .val (.int (0 : Int32)), .unset, .unset, .unset]) rfl ?_
        show Steps p.tables e below (T149.setTop (mkF m 92 #[.val (.int p1), .val (.int p2), .val (.ref b2), .val (.int (5 : Int32)), .val (.int (0 : Int32)), .val (.ref v5), .val (.int (0 : Int32)), .val (.int (0 : Int32)), .unset, .unset, .unset] [])) t
        refine XS.aload X149.here hx rfl (hb hby at_92) rfl rfl ?_
        show Steps p.tables e below (T149.setTop (mkF m 94 #[.val (.int p1), .val (.int p2), .val (.ref b2), .val (.int (5 : Int32)), .val (.int (0 : Int32)), .val (.ref v5), .val (.int (0 : Int32)), .val (.int (0 : Int32)), .unset, .unset, .unset] [(.ref v5)])) t
        refine XS.iload X149.here hx rfl (hb hby at_94) rfl ?_
        exact k
      obtain ⟨_, _, ⟨T152, L152, k152, n152⟩, -, X152, ⟨Lc152, hQ152, l152, y152, z152⟩, st152⟩ := Jvm.LawKit.callS X149 hx (y := (⟨"com/example/watermark/watermark/server/TransactionState$Phase", "prepare", "(Z)Lcom/example/watermark/watermark/server/TransactionState$Phase;"⟩ : MethodName)) hown (mvT hZ (hw _ (List.mem_of_getElem? (i := 24) rfl))) (mvT hZ (hw _ (List.mem_of_getElem? (i := 25) rfl))) (mvT hZ (hw _ (List.mem_of_getElem? (i := 3) rfl))) (mvT hZ (hw _ (List.mem_of_getElem? (i := 26) rfl))) (by decide) (backOf (W := 1) (rm2f l Z a0 hw [] (0 : Int32) v3 h38 n0 Z_39 S3_38 rfl) hZ (hw _ (List.mem_of_getElem? (i := 26) rfl)) (hw _ (List.mem_of_getElem? (i := 3) rfl)) (by decide) (by decide)) (g := (mkF m 96 #[.val (.int p1), .val (.int p2), .val (.ref b2), .val (.int (5 : Int32)), .val (.int (0 : Int32)), .val (.ref v5), .val (.int (0 : Int32)), .val (.int (0 : Int32)), .unset, .unset, .unset] [(.int (0 : Int32)), (.ref v5)])) rfl (by rw [hml]; rfl) (argsL := [(.int (0 : Int32))]) (rest := [(.ref v5)]) (lenOf pd__Z_Lcom_example_watermark_watermark_server_TransactionState_Phase_ rfl) rfl (by show 2 * 0 + _ ≤ _; exact Nat.le_of_eq rfl) (hb hby at_96) (fun _ _ => ⟨rfl, e149, (by decide : 1 + 0 ≤ _), (by decide : 6 + 0 ≤ _)⟩)
      dsimp only [Pt.U, Pt.locs, Pt.cells, Pt.slots] at X152 l152 y152 z152 st152 hQ152
      subst l152 y152 z152
      obtain ⟨rfl, N152q, e152⟩ := hQ152
      have N152 := Fr.app N149 N152q
      have P153 : ∀ t, Steps p.tables e below (T152.setTop (mkF m 99 #[.val (.int p1), .val (.int p2), .val (.ref b2), .val (.int (5 : Int32)), .val (.int (0 : Int32)), .val (.ref v5), .val (.int (0 : Int32)), .val (.int (0 : Int32)), .unset, .unset, .unset] [(.ref v3), (.ref v5)])) t → Steps p.tables e below (s₁.setTop (mkF m 0 #[.val (.int p1), .val (.int p2), .unset, .unset, .unset, .unset, .unset, .unset, .unset, .unset, .unset] [])) t := fun t k => P151 t (st152 _ k)
      have P154 : ∀ t, Steps p.tables e below (T152.setTop (mkF m 114 #[.val (.int p1), .val (.int p2), .val (.ref b2), .val (.int (5 : Int32)), .val (.int (0 : Int32)), .val (.ref v5), .val (.int (0 : Int32)), .val (.int (0 : Int32)), .unset, .unset, .unset] [(.int (1 : Int32)), (.ref v5)])) t → Steps p.tables e below (s₁.setTop (mkF m 0 #[.val (.int p1), .val (.int p2), .unset, .unset, .unset, .unset, .unset, .unset, .unset, .unset, .unset] [])) t := fun t k => by
        refine P153 t ?_
        show Steps p.tables e below (T152.setTop (mkF m 99 #[.val (.int p1), .val (.int p2), .val (.ref b2), .val (.int (5 : Int32)), .val (.int (0 : Int32)), .val (.ref v5), .val (.int (0 : Int32)), .val (.int (0 : Int32)), .unset, .unset, .unset] [(.ref v3), (.ref v5)])) t
        refine Jvm.RoadKit.acmp (g := (mkF m 99 #[.val (.int p1), .val (.int p2), .val (.ref b2), .val (.int (5 : Int32)), .val (.int (0 : Int32)), .val (.ref v5), .val (.int (0 : Int32)), .val (.int (0 : Int32)), .unset, .unset, .unset] [(.ref v3), (.ref v5)])) X152 hx rfl rfl rfl (pc0 := 99) (pc' := 102) (same := false) rfl (hb hby at_99) rfl (decide_eq_false fun q => n3_5 (Value.ref.inj q)) (by decide) (by decide) ?_
        show Steps p.tables e below (T152.setTop (mkF m 102 #[.val (.int p1), .val (.int p2), .val (.ref b2), .val (.int (5 : Int32)), .val (.int (0 : Int32)), .val (.ref v5), .val (.int (0 : Int32)), .val (.int (0 : Int32)), .unset, .unset, .unset] [])) t
        refine XS.aload X152.here hx rfl (hb hby at_102) rfl rfl ?_
        show Steps p.tables e below (T152.setTop (mkF m 104 #[.val (.int p1), .val (.int p2), .val (.ref b2), .val (.int (5 : Int32)), .val (.int (0 : Int32)), .val (.ref v5), .val (.int (0 : Int32)), .val (.int (0 : Int32)), .unset, .unset, .unset] [(.ref v5)])) t
        refine XS.iload X152.here hx rfl (hb hby at_104) rfl ?_
        show Steps p.tables e below (T152.setTop (mkF m 106 #[.val (.int p1), .val (.int p2), .val (.ref b2), .val (.int (5 : Int32)), .val (.int (0 : Int32)), .val (.ref v5), .val (.int (0 : Int32)), .val (.int (0 : Int32)), .unset, .unset, .unset] [(.int (0 : Int32)), (.ref v5)])) t
        refine XS.ifNo X152.here hx rfl (hb hby at_106) rfl ((if0 _ _).trans (teq rfl).2) ?_
        show Steps p.tables e below (T152.setTop (mkF m 109 #[.val (.int p1), .val (.int p2), .val (.ref b2), .val (.int (5 : Int32)), .val (.int (0 : Int32)), .val (.ref v5), .val (.int (0 : Int32)), .val (.int (0 : Int32)), .unset, .unset, .unset] [(.ref v5)])) t
        refine XS.iconst X152.here hx rfl (hb hby at_109) ?_
        show Steps p.tables e below (T152.setTop (mkF m 110 #[.val (.int p1), .val (.int p2), .val (.ref b2), .val (.int (5 : Int32)), .val (.int (0 : Int32)), .val (.ref v5), .val (.int (0 : Int32)), .val (.int (0 : Int32)), .unset, .unset, .unset] [(.int (1 : Int32)), (.ref v5)])) t
        refine XS.goto X152.here hx rfl (pc0 := 110) (pc' := 114) rfl (hb hby at_110) (by decide) (by decide) ?_
        exact k
      obtain ⟨_, _, ⟨T155, L155, k155, n155⟩, -, X155, ⟨Lc155, hQ155, l155, y155, z155⟩, st155⟩ := Jvm.LawKit.callS X152 hx (y := (⟨"com/example/watermark/watermark/server/TransactionState$Phase", "prepare", "(Z)Lcom/example/watermark/watermark/server/TransactionState$Phase;"⟩ : MethodName)) hown (mvT hZ (hw _ (List.mem_of_getElem? (i := 24) rfl))) (mvT hZ (hw _ (List.mem_of_getElem? (i := 25) rfl))) (mvT hZ (hw _ (List.mem_of_getElem? (i := 3) rfl))) (mvT hZ (hw _ (List.mem_of_getElem? (i := 26) rfl))) (by decide) (backOf (W := 1) (rm2t l Z a0 hw [] (1 : Int32) v2 h38 n0 Z_39 S2_38 (by decide)) hZ (hw _ (List.mem_of_getElem? (i := 26) rfl)) (hw _ (List.mem_of_getElem? (i := 3) rfl)) (by decide) (by decide)) (g := (mkF m 114 #[.val (.int p1), .val (.int p2), .val (.ref b2), .val (.int (5 : Int32)), .val (.int (0 : Int32)), .val (.ref v5), .val (.int (0 : Int32)), .val (.int (0 : Int32)), .unset, .unset, .unset] [(.int (1 : Int32)), (.ref v5)])) rfl (by rw [hml]; rfl) (argsL := [(.int (1 : Int32))]) (rest := [(.ref v5)]) (lenOf pd__Z_Lcom_example_watermark_watermark_server_TransactionState_Phase_ rfl) rfl (by show 2 * 0 + _ ≤ _; exact Nat.le_of_eq rfl) (hb hby at_114) (fun _ _ => ⟨rfl, e152, (by decide : 1 + 0 ≤ _), (by decide : 6 + 0 ≤ _)⟩)
      dsimp only [Pt.U, Pt.locs, Pt.cells, Pt.slots] at X155 l155 y155 z155 st155 hQ155
      subst l155 y155 z155
      obtain ⟨rfl, N155q, e155⟩ := hQ155
      have N155 := Fr.app N152 N155q
      have P156 : ∀ t, Steps p.tables e below (T155.setTop (mkF m 117 #[.val (.int p1), .val (.int p2), .val (.ref b2), .val (.int (5 : Int32)), .val (.int (0 : Int32)), .val (.ref v5), .val (.int (0 : Int32)), .val (.int (0 : Int32)), .unset, .unset, .unset] [(.ref v2), (.ref v5)])) t → Steps p.tables e below (s₁.setTop (mkF m 0 #[.val (.int p1), .val (.int p2), .unset, .unset, .unset, .unset, .unset, .unset, .unset, .unset, .unset] [])) t := fun t k => P154 t (st155 _ k)
      have P157 : ∀ t, Steps p.tables e below (T155.setTop (mkF m 129 #[.val (.int p1), .val (.int p2), .val (.ref b2), .val (.int (5 : Int32)), .val (.int (0 : Int32)), .val (.ref v5), .val (.int (0 : Int32)), .val (.int (0 : Int32)), .val (.int (0 : Int32)), .unset, .unset] [(.int (0 : Int32))])) t → Steps p.tables e below (s₁.setTop (mkF m 0 #[.val (.int p1), .val (.int p2), .unset, .unset, .unset, .unset, .unset, .unset, .unset, .unset, .unset] [])) t := fun t k => by
        refine P156 t ?_
        show Steps p.tables e below (T155.setTop (mkF m 117 #[.val (.int p1), .val (.int p2), .val (.ref b2), .val (.int (5 : Int32)), .val (.int (0 : Int32)), .val (.ref v5), .val (.int (0 : Int32)), .val (.int (0 : Int32)), .unset, .unset, .unset] [(.ref v2), (.ref v5)])) t
        refine Jvm.RoadKit.acmp (g := (mkF m 117 #[.val (.int p1), .val (.int p2), .val (.ref b2), .val (.int (5 : Int32)), .val (.int (0 : Int32)), .val (.ref v5), .val (.int (0 : Int32)), .val (.int (0 : Int32)), .unset, .unset, .unset] [(.ref v2), (.ref v5)])) X155 hx rfl rfl rfl (pc0 := 117) (pc' := 124) (same := false) rfl (hb hby at_117) rfl (decide_eq_false fun q => n2_5 (Value.ref.inj q)) (by decide) (by decide) ?_
        show Steps p.tables e below (T155.setTop (mkF m 124 #[.val (.int p1), .val (.int p2), .val (.ref b2), .val (.int (5 : Int32)), .val (.int (0 : Int32)), .val (.ref v5), .val (.int (0 : Int32)), .val (.int (0 : Int32)), .unset, .unset, .unset] [])) t
        refine XS.iconst X155.here hx rfl (hb hby at_124) ?_
        show Steps p.tables e below (T155.setTop (mkF m 125 #[.val (.int p1), .val (.int p2), .val (.ref b2), .val (.int (5 : Int32)), .val (.int (0 : Int32)), .val (.ref v5), .val (.int (0 : Int32)), .val (.int (0 : Int32)), .unset, .unset, .unset] [(.int (0 : Int32))])) t
        refine XS.istore X155.here hx rfl (hb hby at_125) rfl (l' := #[.val (.int p1), .val (.int p2), .val (.ref b2), .val (.int (5 : Int32)), .val (.int (0 : Int32)), .val (.ref v5), .val (.int (0 : Int32)), .val (.int (0 : Int32)), .val (.int (0 : Int32)), .unset, .unset]) rfl ?_
        show Steps p.tables e below (T155.setTop (mkF m 127 #[.val (.int p1), .val (.int p2), .val (.ref b2), .val (.int (5 : Int32)), .val (.int (0 : Int32)), .val (.ref v5), .val (.int (0 : Int32)), .val (.int (0 : Int32)), .val (.int (0 : Int32)), .unset, .unset] [])) t
        refine XS.iload X155.here hx rfl (hb hby at_127) rfl ?_
        exact k
      obtain ⟨_, _, ⟨T158, L158, k158, n158⟩, -, X158, ⟨Lc158, hQ158, l158, y158, z158⟩, st158⟩ := Jvm.LawKit.callS X155 hx (y := (⟨"com/example/watermark/watermark/server/TransactionState$Phase", "prepare", "(Z)Lcom/example/watermark/watermark/server/TransactionState$Phase;"⟩ : MethodName)) hown (mvT hZ (hw _ (List.mem_of_getElem? (i := 24) rfl))) (mvT hZ (hw _ (List.mem_of_getElem? (i := 25) rfl))) (mvT hZ (hw _ (List.mem_of_getElem? (i := 3) rfl))) (mvT hZ (hw _ (List.mem_of_getElem? (i := 26) rfl))) (by decide) (backOf (W := 0) (rm2f l Z a0 hw [] (0 : Int32) v3 h38 n0 Z_39 S3_38 rfl) hZ (hw _ (List.mem_of_getElem? (i := 26) rfl)) (hw _ (List.mem_of_getElem? (i := 3) rfl)) (by decide) (by decide)) (g := (mkF m 129 #[.val (.int p1), .val (.int p2), .val (.ref b2), .val (.int (5 : Int32)), .val (.int (0 : Int32)), .val (.ref v5), .val (.int (0 : Int32)), .val (.int (0 : Int32)), .val (.int (0 : Int32)), .unset, .unset] [(.int (0 : Int32))])) rfl (by rw [hml]; rfl) (argsL := [(.int (0 : Int32))]) (rest := []) (lenOf pd__Z_Lcom_example_watermark_watermark_server_TransactionState_Phase_ rfl) rfl (by show 2 * 0 + _ ≤ _; exact Nat.le_of_eq rfl) (hb hby at_129) (fun _ _ => ⟨rfl, e155, (by decide : 1 + 0 ≤ _), (by decide : 6 + 0 ≤ _)⟩)
      dsimp only [Pt.U, Pt.locs, Pt.cells, Pt.slots] at X158 l158 y158 z158 st158 hQ158
      subst l158 y158 z158
      obtain ⟨rfl, N158q, e158⟩ := hQ158
      have N158 := Fr.app N155 N158q
      have P159 : ∀ t, Steps p.tables e below (T158.setTop (mkF m 132 #[.val (.int p1), .val (.int p2), .val (.ref b2), .val (.int (5 : Int32)), .val (.int (0 : Int32)), .val (.ref v5), .val (.int (0 : Int32)), .val (.int (0 : Int32)), .val (.int (0 : Int32)), .unset, .unset] [(.ref v3)])) t → Steps p.tables e below (s₁.setTop (mkF m 0 #[.val (.int p1), .val (.int p2), .unset, .unset, .unset, .unset, .unset, .unset, .unset, .unset, .unset] [])) t := fun t k => P157 t (st158 _ k)
      obtain ⟨cq160, kq160, q160a, q160b, q160c⟩ := isOf hZ e158 EX3_38
      obtain ⟨_, _, ⟨T160, L160, k160, n160⟩, -, X160, ⟨Lc160, hQ160, l160, y160, z160⟩, st160⟩ := X158.virtualBack hx (y := (⟨"com/example/watermark/watermark/server/TransactionState$Phase", "isEnding", "()Z"⟩ : MethodName)) (z := (⟨"com/example/watermark/watermark/server/TransactionState$Phase", "isEnding", "()Z"⟩ : MethodName)) hown (mvT hZ (hw _ (List.mem_of_getElem? (i := 17) rfl))) (mvT hZ (hw _ (List.mem_of_getElem? (i := 18) rfl))) (notFace_of_selects (args := #[]) (mvT hZ (hw _ (List.mem_of_getElem? (i := 20) rfl)))) (mvT hZ (hw _ (List.mem_of_getElem? (i := 20) rfl))) (mvT hZ (hw _ (List.mem_of_getElem? (i := 19) rfl))) (by decide) (backOf (W := 0) (rm1s l Z a0 hw [] v3 v2 v3 h38 n0 Z_39 S2_38 S3_38 n2_3 rfl) hZ (hw _ (List.mem_of_getElem? (i := 21) rfl)) (hw _ (List.mem_of_getElem? (i := 3) rfl)) (by decide) (by decide)) q160a q160c (g := (mkF m 132 #[.val (.int p1), .val (.int p2), .val (.ref b2), .val (.int (5 : Int32)), .val (.int (0 : Int32)), .val (.ref v5), .val (.int (0 : Int32)), .val (.int (0 : Int32)), .val (.int (0 : Int32)), .unset, .unset] [(.ref v3)])) rfl (by rw [hml]; rfl) (Steps.refl _) (argsL := []) (rest := []) (lenOf pd___Z rfl) rfl (by show 2 * 0 + _ ≤ _; exact Nat.le_of_eq rfl) (hb hby at_132) (fun _ _ => ⟨rfl, e158, (by decide : 1 + 0 ≤ _), (by decide : 6 + 0 ≤ _)⟩)
      dsimp only [Pt.U, Pt.locs, Pt.cells, Pt.slots] at X160 l160 y160 z160 st160 hQ160
      subst l160 y160 z160
      obtain ⟨rfl, N160q, e160⟩ := hQ160
      have N160 := Fr.app N158 N160q
      have P161 : ∀ t, Steps p.tables e below (T160.setTop (mkF m 135 #[.val (.int p1), .val (.int p2), .val (.ref b2), .val (.int (5 : Int32)), .val (.int (0 : Int32)), .val (.ref v5), .val (.int (0 : Int32)), .val (.int (0 : Int32)), .val (.int (0 : Int32)), .unset, .unset] [(.int (1 : Int32))])) t → Steps p.tables e below (s₁.setTop (mkF m 0 #[.val (.int p1), .val (.int p2), .unset, .unset, .unset, .unset, .unset, .unset, .unset, .unset, .unset] [])) t := fun t k => P159 t (st160.trans k)
      have P162 : ∀ t, Steps p.tables e below (T160.setTop (mkF m 139 #[.val (.int p1), .val (.int p2), .val (.ref b2), .val (.int (5 : Int32)), .val (.int (0 : Int32)), .val (.ref v5), .val (.int (0 : Int32)), .val (.int (0 : Int32)), .val (.int (0 : Int32)), .val (.int (1 : Int32)), .unset] [(.int (0 : Int32))])) t → Steps p.tables e below (s₁.setTop (mkF m 0 #[.val (.int p1), .val (.int p2), .unset, .unset, .unset, .unset, .unset, .unset, .unset, .unset, .unset] [])) t := fun t k => by
        refine P161 t ?_
        show Steps p.tables e below (T160.setTop (mkF m 135 #[.val (.int p1), .val (.int p2), .val (.ref b2), .val (.int (5 : Int32)), .val (.int (0 : Int32)), .val (.ref v5), .val (.int (0 : Int32)), .val (.int (0 : Int32)), .val (.int (0 : Int32)), .unset, .unset] [(.int (1 : Int32))])) t
        refine XS.istore X160.here hx rfl (hb hby at_135) rfl (l' := #[.val (.int p1), .val (.int p2), .val (.ref b2), .val (.int (5 : Int32)), .val (.int (0 : Int32)), .val (.ref v5), .val (.int (0 : Int32)), .val (.int (0 : Int32)), .val (.int (0 : Int32)), .val (.int (1 : Int32)), .unset]) rfl ?_
        show Steps p.tables e below (T160.setTop (mkF m 137 #[.val (.int p1), .val (.int p2), .val (.ref b2), .val (.int (5 : Int32)), .val (.int (0 : Int32)), .val (.ref v5), .val (.int (0 : Int32)), .val (.int (0 : Int32)), .val (.int (0 : Int32)), .val (.int (1 : Int32)), .unset] [])) t
        refine XS.iload X160.here hx rfl (hb hby at_137) rfl ?_
        exact k
      obtain ⟨_, _, ⟨T163, L163, k163, n163⟩, -, X163, ⟨Lc163, hQ163, l163, y163, z163⟩, st163⟩ := Jvm.LawKit.callS X160 hx (y := (⟨"com/example/watermark/watermark/server/TransactionState$Phase", "complete", "(Z)Lcom/example/watermark/watermark/server/TransactionState$Phase;"⟩ : MethodName)) hown (mvT hZ (hw _ (List.mem_of_getElem? (i := 27) rfl))) (mvT hZ (hw _ (List.mem_of_getElem? (i := 28) rfl))) (mvT hZ (hw _ (List.mem_of_getElem? (i := 3) rfl))) (mvT hZ (hw _ (List.mem_of_getElem? (i := 29) rfl))) (by decide) (backOf (W := 0) (rm3f l Z a0 hw [] (0 : Int32) v5 h38 n0 Z_39 S5_38 rfl) hZ (hw _ (List.mem_of_getElem? (i := 29) rfl)) (hw _ (List.mem_of_getElem? (i := 3) rfl)) (by decide) (by decide)) (g := (mkF m 139 #[.val (.int p1), .val (.int p2), .val (.ref b2), .val (.int (5 : Int32)), .val (.int (0 : Int32)), .val (.ref v5), .val (.int (0 : Int32)), .val (.int (0 : Int32)), .val (.int (0 : Int32)), .val (.int (1 : Int32)), .unset] [(.int (0 : Int32))])) rfl (by rw [hml]; rfl) (argsL := [(.int (0 : Int32))]) (rest := []) (lenOf pd__Z_Lcom_example_watermark_watermark_server_TransactionState_Phase_ rfl) rfl (by show 2 * 0 + _ ≤ _; exact Nat.le_of_eq rfl) (hb hby at_139) (fun _ _ => ⟨rfl, e160, (by decide : 1 + 0 ≤ _), (by decide : 6 + 0 ≤ _)⟩)
      dsimp only [Pt.U, Pt.locs, Pt.cells, Pt.slots] at X163 l163 y163 z163 st163 hQ163
      subst l163 y163 z163
      obtain ⟨rfl, N163q, e163⟩ := hQ163
      have N163 := Fr.app N160 N163q
      have P164 : ∀ t, Steps p.tables e below (T163.setTop (mkF m 142 #[.val (.int p1), .val (.int p2), .val (.ref b2), .val (.int (5 : Int32)), .val (.int (0 : Int32)), .val (.ref v5), .val (.int (0 : Int32)), .val (.int (0 : Int32)), .val (.int (0 : Int32)), .val (.int (1 : Int32)), .unset] [(.ref v5)])) t → Steps p.tables e below (s₁.setTop (mkF m 0 #[.val (.int p1), .val (.int p2), .unset, .unset, .unset, .unset, .unset, .unset, .unset, .unset, .unset] [])) t := fun t k => P162 t (st163 _ k)
      obtain ⟨cq165, kq165, q165a, q165b, q165c⟩ := isOf hZ e163 EX5_38
      obtain ⟨_, _, ⟨T165, L165, k165, n165⟩, -, X165, ⟨Lc165, hQ165, l165, y165, z165⟩, st165⟩ := X163.virtualBack hx (y := (⟨"com/example/watermark/watermark/server/TransactionState$Phase", "isEnding", "()Z"⟩ : MethodName)) (z := (⟨"com/example/watermark/watermark/server/TransactionState$Phase", "isEnding", "()Z"⟩ : MethodName)) hown (mvT hZ (hw _ (List.mem_of_getElem? (i := 17) rfl))) (mvT hZ (hw _ (List.mem_of_getElem? (i := 18) rfl))) (notFace_of_selects (args := #[]) (mvT hZ (hw _ (List.mem_of_getElem? (i := 20) rfl)))) (mvT hZ (hw _ (List.mem_of_getElem? (i := 20) rfl))) (mvT hZ (hw _ (List.mem_of_getElem? (i := 19) rfl))) (by decide) (backOf (W := 0) (rm1n l Z a0 hw [] v5 v2 v3 h38 n0 Z_39 S2_38 S3_38 n2_5 n3_5) hZ (hw _ (List.mem_of_getElem? (i := 21) rfl)) (hw _ (List.mem_of_getElem? (i := 3) rfl)) (by decide) (by decide)) q165a q165c (g := (mkF m 142 #[.val (.int p1), .val (.int p2), .val (.ref b2), .val (.int (5 : Int32)), .val (.int (0 : Int32)), .val (.ref v5), .val (.int (0 : Int32)), .val (.int (0 : Int32)), .val (.int (0 : Int32)), .val (.int (1 : Int32)), .unset] [(.ref v5)])) rfl (by rw [hml]; rfl) (Steps.refl _) (argsL := []) (rest := []) (lenOf pd___Z rfl) rfl (by show 2 * 0 + _ ≤ _; exact Nat.le_of_eq rfl) (hb hby at_142) (fun _ _ => ⟨rfl, e163, (by decide : 1 + 0 ≤ _), (by decide : 6 + 0 ≤ _)⟩)
      dsimp only [Pt.U, Pt.locs, Pt.cells, Pt.slots] at X165 l165 y165 z165 st165 hQ165
      subst l165 y165 z165
      obtain ⟨rfl, N165q, e165⟩ := hQ165
      have N165 := Fr.app N163 N165q
      have P166 : ∀ t, Steps p.tables e below (T165.setTop (mkF m 145 #[.val (.int p1), .val (.int p2), .val (.ref b2), .val (.int (5 : Int32)), .val (.int (0 : Int32)), .val (.ref v5), .val (.int (0 : Int32)), .val (.int (0 : Int32)), .val (.int (0 : Int32)), .val (.int (1 : Int32)), .unset] [(.int (0 : Int32))])) t → Steps p.tables e below (s₁.setTop (mkF m 0 #[.val (.int p1), .val (.int p2), .unset, .unset, .unset, .unset, .unset, .unset, .unset, .unset, .unset] [])) t := fun t k => P164 t (st165.trans k)
      have P167 : ∀ t, Steps p.tables e below (T165.setTop (mkF m 176 #[.val (.int p1), .val (.int p2), .val (.ref b2), .val (.int (5 : Int32)), .val (.int (0 : Int32)), .val (.ref v5), .val (.int (0 : Int32)), .val (.int (0 : Int32)), .val (.int (0 : Int32)), .val (.int (1 : Int32)), .val (.int (0 : Int32))] [(.int (1 : Int32))])) t → Steps p.tables e below (s₁.setTop (mkF m 0 #[.val (.int p1), .val (.int p2), .unset, .unset, .unset, .unset, .unset, .unset, .unset, .unset, .unset] [])) t := fun t k => by
        refine P166 t ?_
        show Steps p.tables e below (T165.setTop (mkF m 145 #[.val (.int p1), .val (.int p2), .val (.ref b2), .val (.int (5 : Int32)), .val (.int (0 : Int32)), .val (.ref v5), .val (.int (0 : Int32)), .val (.int (0 : Int32)), .val (.int (0 : Int32)), .val (.int (1 : Int32)), .unset] [(.int (0 : Int32))])) t
        refine XS.istore X165.here hx rfl (hb hby at_145) rfl (l' := #[.val (.int p1), .val (.int p2), .val (.ref b2), .val (.int (5 : Int32)), .val (.int (0 : Int32)), .val (.ref v5), .val (.int (0 : Int32)), .val (.int (0 : Int32)), .val (.int (0 : Int32)), .val (.int (1 : Int32)), .val (.int (0 : Int32))]) rfl ?_
        show Steps p.tables e below (T165.setTop (mkF m 147 #[.val (.int p1), .val (.int p2), .val (.ref b2), .val (.int (5 : Int32)), .val (.int (0 : Int32)), .val (.ref v5), .val (.int (0 : Int32)), .val (.int (0 : Int32)), .val (.int (0 : Int32)), .val (.int (1 : Int32)), .val (.int (0 : Int32))] [])) t
        refine XS.iload X165.here hx rfl (hb hby at_147) rfl ?_
        show Steps p.tables e below (T165.setTop (mkF m 149 #[.val (.int p1), .val (.int p2), .val (.ref b2), .val (.int (5 : Int32)), .val (.int (0 : Int32)), .val (.ref v5), .val (.int (0 : Int32)), .val (.int (0 : Int32)), .val (.int (0 : Int32)), .val (.int (1 : Int32)), .val (.int (0 : Int32))] [(.int (0 : Int32))])) t
        refine XS.iload X165.here hx rfl (hb hby at_149) rfl ?_
        show Steps p.tables e below (T165.setTop (mkF m 151 #[.val (.int p1), .val (.int p2), .val (.ref b2), .val (.int (5 : Int32)), .val (.int (0 : Int32)), .val (.ref v5), .val (.int (0 : Int32)), .val (.int (0 : Int32)), .val (.int (0 : Int32)), .val (.int (1 : Int32)), .val (.int (0 : Int32))] [(.int (0 : Int32)), (.int (0 : Int32))])) t
        refine XS.icmpNo X165.here hx rfl (hb hby at_151) rfl (teq rfl).2 ?_
        show Steps p.tables e below (T165.setTop (mkF m 154 #[.val (.int p1), .val (.int p2), .val (.ref b2), .val (.int (5 : Int32)), .val (.int (0 : Int32)), .val (.ref v5), .val (.int (0 : Int32)), .val (.int (0 : Int32)), .val (.int (0 : Int32)), .val (.int (1 : Int32)), .val (.int (0 : Int32))] [])) t
        refine XS.iload X165.here hx rfl (hb hby at_154) rfl ?_
        show Steps p.tables e below (T165.setTop (mkF m 156 #[.val (.int p1), .val (.int p2), .val (.ref b2), .val (.int (5 : Int32)), .val (.int (0 : Int32)), .val (.ref v5), .val (.int (0 : Int32)), .val (.int (0 : Int32)), .val (.int (0 : Int32)), .val (.int (1 : Int32)), .val (.int (0 : Int32))] [(.int (0 : Int32))])) t
        refine XS.iload X165.here hx rfl (hb hby at_156) rfl ?_
        show Steps p.tables e below (T165.setTop (mkF m 158 #[.val (.int p1), .val (.int p2), .val (.ref b2), .val (.int (5 : Int32)), .val (.int (0 : Int32)), .val (.ref v5), .val (.int (0 : Int32)), .val (.int (0 : Int32)), .val (.int (0 : Int32)), .val (.int (1 : Int32)), .val (.int (0 : Int32))] [(.int (0 : Int32)), (.int (0 : Int32))])) t
        refine XS.icmpNo X165.here hx rfl (hb hby at_158) rfl (teq rfl).2 ?_
        show Steps p.tables e below (T165.setTop (mkF m 161 #[.val (.int p1), .val (.int p2), .val (.ref b2), .val (.int (5 : Int32)), .val (.int (0 : Int32)), .val (.ref v5), .val (.int (0 : Int32)), .val (.int (0 : Int32)), .val (.int (0 : Int32)), .val (.int (1 : Int32)), .val (.int (0 : Int32))] [])) t
        refine XS.iload X165.here hx rfl (hb hby at_161) rfl ?_
        show Steps p.tables e below (T165.setTop (mkF m 163 #[.val (.int p1), .val (.int p2), .val (.ref b2), .val (.int (5 : Int32)), .val (.int (0 : Int32)), .val (.ref v5), .val (.int (0 : Int32)), .val (.int (0 : Int32)), .val (.int (0 : Int32)), .val (.int (1 : Int32)), .val (.int (0 : Int32))] [(.int (1 : Int32))])) t
        refine XS.ifNo X165.here hx rfl (hb hby at_163) rfl ((if0 _ _).trans (feq (by decide)).1) ?_
        show Steps p.tables e below (T165.setTop (mkF m 166 #[.val (.int p1), .val (.int p2), .val (.ref b2), .val (.int (5 : Int32)), .val (.int (0 : Int32)), .val (.ref v5), .val (.int (0 : Int32)), .val (.int (0 : Int32)), .val (.int (0 : Int32)), .val (.int (1 : Int32)), .val (.int (0 : Int32))] [])) t
        refine XS.iload X165.here hx rfl (hb hby at_166) rfl ?_
        show Steps p.tables e below (T165.setTop (mkF m 168 #[.val (.int p1), .val (.int p2), .val (.ref b2), .val (.int (5 : Int32)), .val (.int (0 : Int32)), .val (.ref v5), .val (.int (0 : Int32)), .val (.int (0 : Int32)), .val (.int (0 : Int32)), .val (.int (1 : Int32)), .val (.int (0 : Int32))] [(.int (0 : Int32))])) t
        refine XS.ifNo X165.here hx rfl (hb hby at_168) rfl ((if0 _ _).trans (teq rfl).2) ?_
        show Steps p.tables e below (T165.setTop (mkF m 171 #[.val (.int p1), .val (.int p2), .val (.ref b2), .val (.int (5 : Int32)), .val (.int (0 : Int32)), .val (.ref v5), .val (.int (0 : Int32)), .val (.int (0 : Int32)), .val (.int (0 : Int32)), .val (.int (1 : Int32)), .val (.int (0 : Int32))] [])) t
        refine XS.iconst X165.here hx rfl (hb hby at_171) ?_
        show Steps p.tables e below (T165.setTop (mkF m 172 #[.val (.int p1), .val (.int p2), .val (.ref b2), .val (.int (5 : Int32)), .val (.int (0 : Int32)), .val (.ref v5), .val (.int (0 : Int32)), .val (.int (0 : Int32)), .val (.int (0 : Int32)), .val (.int (1 : Int32)), .val (.int (0 : Int32))] [(.int (1 : Int32))])) t
        refine XS.goto X165.here hx rfl (pc0 := 172) (pc' := 176) rfl (hb hby at_172) (by decide) (by decide) ?_
        exact k
      obtain ⟨fs, hr, hrun, hended, hW, hsame⟩ := X165.leave (v := some (.int (1 : Int32))) (fun h => by rw [Bd.returns] at h; cases h)
      refine ⟨_, _, pre0 _ (P167 _ ?_), hrun, hended, _, _, rfl, ?_, ⟨_, rfl⟩, hW, hsame.mono (by decide) (by decide)⟩
      · exact retN X165 hx (t := .boolean) Bd.returns (by simp) (hb hby at_176) hr
      · show Q0 Z p1 p2 v0 v1 v2 v3 v4 v5 h0 n0 _ T165.heap _
        rw [e165]
        exact ⟨rfl, N165⟩
  · have P168 : ∀ t, Steps p.tables e below (T38.setTop (mkF m 63 #[.val (.int p1), .val (.int p2), .val (.ref b2), .val (.int ix), .val (.int (1 : Int32)), .unset, .unset, .unset, .unset, .unset, .unset] [])) t → Steps p.tables e below (s₁.setTop (mkF m 0 #[.val (.int p1), .val (.int p2), .unset, .unset, .unset, .unset, .unset, .unset, .unset, .unset, .unset] [])) t := fun t k => by
      refine P42 t ?_
      show Steps p.tables e below (T38.setTop (mkF m 53 #[.val (.int p1), .val (.int p2), .val (.ref b2), .val (.int ix), .unset, .unset, .unset, .unset, .unset, .unset, .unset] [(.int (p2 &&& (1 : Int32)))])) t
      refine XS.ifNo X38.here hx rfl (hb hby at_53) rfl ((if0 _ _).trans (feq hc43).1) ?_
      show Steps p.tables e below (T38.setTop (mkF m 56 #[.val (.int p1), .val (.int p2), .val (.ref b2), .val (.int ix), .unset, .unset, .unset, .unset, .unset, .unset, .unset] [])) t
      refine XS.iconst X38.here hx rfl (hb hby at_56) ?_
      show Steps p.tables e below (T38.setTop (mkF m 57 #[.val (.int p1), .val (.int p2), .val (.ref b2), .val (.int ix), .unset, .unset, .unset, .unset, .unset, .unset, .unset] [(.int (1 : Int32))])) t
      refine XS.goto X38.here hx rfl (pc0 := 57) (pc' := 61) rfl (hb hby at_57) (by decide) (by decide) ?_
      show Steps p.tables e below (T38.setTop (mkF m 61 #[.val (.int p1), .val (.int p2), .val (.ref b2), .val (.int ix), .unset, .unset, .unset, .unset, .unset, .unset, .unset] [(.int (1 : Int32))])) t
      refine XS.istore X38.here hx rfl (hb hby at_61) rfl (l' := #[.val (.int p1), .val (.int p2), .val (.ref b2), .val (.int ix), .val (.int (1 : Int32)), .unset, .unset, .unset, .unset, .unset, .unset]) rfl ?_
      exact k
    rcases hcs with rfl | rfl | rfl | rfl | rfl | rfl
    · obtain ⟨cl169, Ar169, q169, S169_, N169_, H169_, G169_⟩ := V_b2_38
      have hin169 : ¬ ((0 : Int32) < 0 ∨ cl169.slots.size ≤ ((0 : Int32)).toNatClampNeg) := inb_of S169_ ⟨by decide, by decide⟩
      have P170 : ∀ t, Steps p.tables e below (T38.setTop (mkF m 87 #[.val (.int p1), .val (.int p2), .val (.ref b2), .val (.int (0 : Int32)), .val (.int (1 : Int32)), .val (.ref v0), .val (.int (0 : Int32)), .unset, .unset, .unset, .unset] [(.ref v0)])) t → Steps p.tables e below (s₁.setTop (mkF m 0 #[.val (.int p1), .val (.int p2), .unset, .unset, .unset, .unset, .unset, .unset, .unset, .unset, .unset] [])) t := fun t k => by
        refine P168 t ?_
        show Steps p.tables e below (T38.setTop (mkF m 63 #[.val (.int p1), .val (.int p2), .val (.ref b2), .val (.int (0 : Int32)), .val (.int (1 : Int32)), .unset, .unset, .unset, .unset, .unset, .unset] [])) t
        refine XS.aloadN X38.here hx rfl (hb hby at_63) rfl rfl ?_
        show Steps p.tables e below (T38.setTop (mkF m 64 #[.val (.int p1), .val (.int p2), .val (.ref b2), .val (.int (0 : Int32)), .val (.int (1 : Int32)), .unset, .unset, .unset, .unset, .unset, .unset] [(.ref b2)])) t
        refine XS.iloadN X38.here hx rfl (hb hby at_64) rfl ?_
        show Steps p.tables e below (T38.setTop (mkF m 65 #[.val (.int p1), .val (.int p2), .val (.ref b2), .val (.int (0 : Int32)), .val (.int (1 : Int32)), .unset, .unset, .unset, .unset, .unset, .unset] [(.int (0 : Int32)), (.ref b2)])) t
        refine X38.aaload hx (j := (0 : Int32)) (v := (.ref v0)) (by rw [e38]; exact Ar169.1) (State.isArrayOf_alike hZ.alike Ar169.2.1) rfl Ar169.2.2 hin169 (Has.at H169_ hin169 rfl) (g := (mkF m 65 #[.val (.int p1), .val (.int p2), .val (.ref b2), .val (.int (0 : Int32)), .val (.int (1 : Int32)), .unset, .unset, .unset, .unset, .unset, .unset] [(.int (0 : Int32)), (.ref b2)])) rfl rfl (hb hby at_65) _ ?_
        show Steps p.tables e below (T38.setTop (mkF m 66 #[.val (.int p1), .val (.int p2), .val (.ref b2), .val (.int (0 : Int32)), .val (.int (1 : Int32)), .unset, .unset, .unset, .unset, .unset, .unset] [(.ref v0)])) t
        refine XS.astore X38.here hx rfl (hb hby at_66) rfl rfl (l' := #[.val (.int p1), .val (.int p2), .val (.ref b2), .val (.int (0 : Int32)), .val (.int (1 : Int32)), .val (.ref v0), .unset, .unset, .unset, .unset, .unset]) rfl ?_
        show Steps p.tables e below (T38.setTop (mkF m 68 #[.val (.int p1), .val (.int p2), .val (.ref b2), .val (.int (0 : Int32)), .val (.int (1 : Int32)), .val (.ref v0), .unset, .unset, .unset, .unset, .unset] [])) t
        refine XS.iloadN X38.here hx rfl (hb hby at_68) rfl ?_
        show Steps p.tables e below (T38.setTop (mkF m 69 #[.val (.int p1), .val (.int p2), .val (.ref b2), .val (.int (0 : Int32)), .val (.int (1 : Int32)), .val (.ref v0), .unset, .unset, .unset, .unset, .unset] [(.int (0 : Int32))])) t
        refine XS.iconst X38.here hx rfl (hb hby at_69) ?_
        show Steps p.tables e below (T38.setTop (mkF m 70 #[.val (.int p1), .val (.int p2), .val (.ref b2), .val (.int (0 : Int32)), .val (.int (1 : Int32)), .val (.ref v0), .unset, .unset, .unset, .unset, .unset] [(.int (2 : Int32)), (.int (0 : Int32))])) t
        refine XS.icmpNo X38.here hx rfl (hb hby at_70) rfl (feq (by decide)).1 ?_
        show Steps p.tables e below (T38.setTop (mkF m 73 #[.val (.int p1), .val (.int p2), .val (.ref b2), .val (.int (0 : Int32)), .val (.int (1 : Int32)), .val (.ref v0), .unset, .unset, .unset, .unset, .unset] [])) t
        refine XS.iloadN X38.here hx rfl (hb hby at_73) rfl ?_
        show Steps p.tables e below (T38.setTop (mkF m 74 #[.val (.int p1), .val (.int p2), .val (.ref b2), .val (.int (0 : Int32)), .val (.int (1 : Int32)), .val (.ref v0), .unset, .unset, .unset, .unset, .unset] [(.int (0 : Int32))])) t
        refine XS.iconst X38.here hx rfl (hb hby at_74) ?_
        show Steps p.tables e below (T38.setTop (mkF m 75 #[.val (.int p1), .val (.int p2), .val (.ref b2), .val (.int (0 : Int32)), .val (.int (1 : Int32)), .val (.ref v0), .unset, .unset, .unset, .unset, .unset] [(.int (3 : Int32)), (.int (0 : Int32))])) t
        refine XS.icmpYes X38.here hx rfl (pc0 := 75) (pc' := 82) rfl (hb hby at_75) rfl (feq (by decide)).2 (by decide) (by decide) ?_
        show Steps p.tables e below (T38.setTop (mkF m 82 #[.val (.int p1), .val (.int p2), .val (.ref b2), .val (.int (0 : Int32)), .val (.int (1 : Int32)), .val (.ref v0), .unset, .unset, .unset, .unset, .unset] [])) t
        refine XS.iconst X38.here hx rfl (hb hby at_82) ?_
        show Steps p.tables e below (T38.setTop (mkF m 83 #[.val (.int p1), .val (.int p2), .val (.ref b2), .val (.int (0 : Int32)), .val (.int (1 : Int32)), .val (.ref v0), .unset, .unset, .unset, .unset, .unset] [(.int (0 : Int32))])) t
        refine XS.istore X38.here hx rfl (hb hby at_83) rfl (l' := #[.val (.int p1), .val (.int p2), .val (.ref b2), .val (.int (0 : Int32)), .val (.int (1 : Int32)), .val (.ref v0), .val (.int (0 : Int32)), .unset, .unset, .unset, .unset]) rfl ?_
        show Steps p.tables e below (T38.setTop (mkF m 85 #[.val (.int p1), .val (.int p2), .val (.ref b2), .val (.int (0 : Int32)), .val (.int (1 : Int32)), .val (.ref v0), .val (.int (0 : Int32)), .unset, .unset, .unset, .unset] [])) t
        refine XS.aload X38.here hx rfl (hb hby at_85) rfl rfl ?_
        exact k
      obtain ⟨cq171, kq171, q171a, q171b, q171c⟩ := isOf hZ e38 EX0_38
      obtain ⟨_, _, ⟨T171, L171, k171, n171⟩, -, X171, ⟨Lc171, hQ171, l171, y171, z171⟩, st171⟩ := X38.virtualBack hx (y := (⟨"com/example/watermark/watermark/server/TransactionState$Phase", "isEnding", "()Z"⟩ : MethodName)) (z := (⟨"com/example/watermark/watermark/server/TransactionState$Phase", "isEnding", "()Z"⟩ : MethodName)) hown (mvT hZ (hw _ (List.mem_of_getElem? (i := 17) rfl))) (mvT hZ (hw _ (List.mem_of_getElem? (i := 18) rfl))) (notFace_of_selects (args := #[]) (mvT hZ (hw _ (List.mem_of_getElem? (i := 20) rfl)))) (mvT hZ (hw _ (List.mem_of_getElem? (i := 20) rfl))) (mvT hZ (hw _ (List.mem_of_getElem? (i := 19) rfl))) (by decide) (backOf (W := 0) (rm1n l Z a0 hw [] v0 v2 v3 h38 n0 Z_39 S2_38 S3_38 n2_0 n3_0) hZ (hw _ (List.mem_of_getElem? (i := 21) rfl)) (hw _ (List.mem_of_getElem? (i := 3) rfl)) (by decide) (by decide)) q171a q171c (g := (mkF m 87 #[.val (.int p1), .val (.int p2), .val (.ref b2), .val (.int (0 : Int32)), .val (.int (1 : Int32)), .val (.ref v0), .val (.int (0 : Int32)), .unset, .unset, .unset, .unset] [(.ref v0)])) rfl (by rw [hml]; rfl) (Steps.refl _) (argsL := []) (rest := []) (lenOf pd___Z rfl) rfl (by show 2 * 0 + _ ≤ _; exact Nat.le_of_eq rfl) (hb hby at_87) (fun _ _ => ⟨rfl, e38, (by decide : 1 + 0 ≤ _), (by decide : 6 + 0 ≤ _)⟩)
      dsimp only [Pt.U, Pt.locs, Pt.cells, Pt.slots] at X171 l171 y171 z171 st171 hQ171
      subst l171 y171 z171
      obtain ⟨rfl, N171q, e171⟩ := hQ171
      have N171 := Fr.app N38 N171q
      have P172 : ∀ t, Steps p.tables e below (T171.setTop (mkF m 90 #[.val (.int p1), .val (.int p2), .val (.ref b2), .val (.int (0 : Int32)), .val (.int (1 : Int32)), .val (.ref v0), .val (.int (0 : Int32)), .unset, .unset, .unset, .unset] [(.int (0 : Int32))])) t → Steps p.tables e below (s₁.setTop (mkF m 0 #[.val (.int p1), .val (.int p2), .unset, .unset, .unset, .unset, .unset, .unset, .unset, .unset, .unset] [])) t := fun t k => P170 t (st171.trans k)
      have P173 : ∀ t, Steps p.tables e below (T171.setTop (mkF m 96 #[.val (.int p1), .val (.int p2), .val (.ref b2), .val (.int (0 : Int32)), .val (.int (1 : Int32)), .val (.ref v0), .val (.int (0 : Int32)), .val (.int (0 : Int32)), .unset, .unset, .unset] [(.int (1 : Int32)), (.ref v0)])) t → Steps p.tables e below (s₁.setTop (mkF m 0 #[.val (.int p1), .val (.int p2), .unset, .unset, .unset, .unset, .unset, .unset, .unset, .unset, .unset] [])) t := fun t k => by
        refine P172 t ?_
        show Steps p.tables e below (T171.setTop (mkF m 90 #[.val (.int p1), .val (.int p2), .val (.ref b2), .val (.int (0 : Int32)), .val (.int (1 : Int32)), .val (.ref v0), .val (.int (0 : Int32)), .unset, .unset, .unset, .unset] [(.int (0 : Int32))])) t
        refine XS.istore X171.here hx rfl (hb hby at_90) rfl (l' := #[.val (.int p1), .val (.int p2), .val (.ref b2), .val (.int (0 : Int32)), .val (.int (1 : Int32)), .val (.ref v0), .val (.int (0 : Int32)), .val (.int (0 : Int32)), .unset, .unset, .unset]) rfl ?_
        show Steps p.tables e below (T171.setTop (mkF m 92 #[.val (.int p1), .val (.int p2), .val (.ref b2), .val (.int (0 : Int32)), .val (.int (1 : Int32)), .val (.ref v0), .val (.int (0 : Int32)), .val (.int (0 : Int32)), .unset, .unset, .unset] [])) t
        refine XS.aload X171.here hx rfl (hb hby at_92) rfl rfl ?_
        show Steps p.tables e below (T171.setTop (mkF m 94 #[.val (.int p1), .val (.int p2), .val (.ref b2), .val (.int (0 : Int32)), .val (.int (1 : Int32)), .val (.ref v0), .val (.int (0 : Int32)), .val (.int (0 : Int32)), .unset, .unset, .unset] [(.ref v0)])) t
        refine XS.iload X171.here hx rfl (hb hby at_94) rfl ?_
        exact k
      obtain ⟨_, _, ⟨T174, L174, k174, n174⟩, -, X174, ⟨Lc174, hQ174, l174, y174, z174⟩, st174⟩ := Jvm.LawKit.callS X171 hx (y := (⟨"com/example/watermark/watermark/server/TransactionState$Phase", "prepare", "(Z)Lcom/example/watermark/watermark/server/TransactionState$Phase;"⟩ : MethodName)) hown (mvT hZ (hw _ (List.mem_of_getElem? (i := 24) rfl))) (mvT hZ (hw _ (List.mem_of_getElem? (i := 25) rfl))) (mvT hZ (hw _ (List.mem_of_getElem? (i := 3) rfl))) (mvT hZ (hw _ (List.mem_of_getElem? (i := 26) rfl))) (by decide) (backOf (W := 1) (rm2t l Z a0 hw [] (1 : Int32) v2 h38 n0 Z_39 S2_38 (by decide)) hZ (hw _ (List.mem_of_getElem? (i := 26) rfl)) (hw _ (List.mem_of_getElem? (i := 3) rfl)) (by decide) (by decide)) (g := (mkF m 96 #[.val (.int p1), .val (.int p2), .val (.ref b2), .val (.int (0 : Int32)), .val (.int (1 : Int32)), .val (.ref v0), .val (.int (0 : Int32)), .val (.int (0 : Int32)), .unset, .unset, .unset] [(.int (1 : Int32)), (.ref v0)])) rfl (by rw [hml]; rfl) (argsL := [(.int (1 : Int32))]) (rest := [(.ref v0)]) (lenOf pd__Z_Lcom_example_watermark_watermark_server_TransactionState_Phase_ rfl) rfl (by show 2 * 0 + _ ≤ _; exact Nat.le_of_eq rfl) (hb hby at_96) (fun _ _ => ⟨rfl, e171, (by decide : 1 + 0 ≤ _), (by decide : 6 + 0 ≤ _)⟩)
      dsimp only [Pt.U, Pt.locs, Pt.cells, Pt.slots] at X174 l174 y174 z174 st174 hQ174
      subst l174 y174 z174
      obtain ⟨rfl, N174q, e174⟩ := hQ174
      have N174 := Fr.app N171 N174q
      have P175 : ∀ t, Steps p.tables e below (T174.setTop (mkF m 99 #[.val (.int p1), .val (.int p2), .val (.ref b2), .val (.int (0 : Int32)), .val (.int (1 : Int32)), .val (.ref v0), .val (.int (0 : Int32)), .val (.int (0 : Int32)), .unset, .unset, .unset] [(.ref v2), (.ref v0)])) t → Steps p.tables e below (s₁.setTop (mkF m 0 #[.val (.int p1), .val (.int p2), .unset, .unset, .unset, .unset, .unset, .unset, .unset, .unset, .unset] [])) t := fun t k => P173 t (st174 _ k)
      have P176 : ∀ t, Steps p.tables e below (T174.setTop (mkF m 114 #[.val (.int p1), .val (.int p2), .val (.ref b2), .val (.int (0 : Int32)), .val (.int (1 : Int32)), .val (.ref v0), .val (.int (0 : Int32)), .val (.int (0 : Int32)), .unset, .unset, .unset] [(.int (0 : Int32)), (.ref v0)])) t → Steps p.tables e below (s₁.setTop (mkF m 0 #[.val (.int p1), .val (.int p2), .unset, .unset, .unset, .unset, .unset, .unset, .unset, .unset, .unset] [])) t := fun t k => by
        refine P175 t ?_
        show Steps p.tables e below (T174.setTop (mkF m 99 #[.val (.int p1), .val (.int p2), .val (.ref b2), .val (.int (0 : Int32)), .val (.int (1 : Int32)), .val (.ref v0), .val (.int (0 : Int32)), .val (.int (0 : Int32)), .unset, .unset, .unset] [(.ref v2), (.ref v0)])) t
        refine Jvm.RoadKit.acmp (g := (mkF m 99 #[.val (.int p1), .val (.int p2), .val (.ref b2), .val (.int (0 : Int32)), .val (.int (1 : Int32)), .val (.ref v0), .val (.int (0 : Int32)), .val (.int (0 : Int32)), .unset, .unset, .unset] [(.ref v2), (.ref v0)])) X174 hx rfl rfl rfl (pc0 := 99) (pc' := 102) (same := false) rfl (hb hby at_99) rfl (decide_eq_false fun q => n2_0 (Value.ref.inj q)) (by decide) (by decide) ?_
        show Steps p.tables e below (T174.setTop (mkF m 102 #[.val (.int p1), .val (.int p2), .val (.ref b2), .val (.int (0 : Int32)), .val (.int (1 : Int32)), .val (.ref v0), .val (.int (0 : Int32)), .val (.int (0 : Int32)), .unset, .unset, .unset] [])) t
        refine XS.aload X174.here hx rfl (hb hby at_102) rfl rfl ?_
        show Steps p.tables e below (T174.setTop (mkF m 104 #[.val (.int p1), .val (.int p2), .val (.ref b2), .val (.int (0 : Int32)), .val (.int (1 : Int32)), .val (.ref v0), .val (.int (0 : Int32)), .val (.int (0 : Int32)), .unset, .unset, .unset] [(.ref v0)])) t
        refine XS.iload X174.here hx rfl (hb hby at_104) rfl ?_
        show Steps p.tables e below (T174.setTop (mkF m 106 #[.val (.int p1), .val (.int p2), .val (.ref b2), .val (.int (0 : Int32)), .val (.int (1 : Int32)), .val (.ref v0), .val (.int (0 : Int32)), .val (.int (0 : Int32)), .unset, .unset, .unset] [(.int (1 : Int32)), (.ref v0)])) t
        refine XS.ifYes X174.here hx rfl (pc0 := 106) (pc' := 113) rfl (hb hby at_106) rfl ((if0 _ _).trans (feq (by decide)).2) (by decide) (by decide) ?_
        show Steps p.tables e below (T174.setTop (mkF m 113 #[.val (.int p1), .val (.int p2), .val (.ref b2), .val (.int (0 : Int32)), .val (.int (1 : Int32)), .val (.ref v0), .val (.int (0 : Int32)), .val (.int (0 : Int32)), .unset, .unset, .unset] [(.ref v0)])) t
        refine XS.iconst X174.here hx rfl (hb hby at_113) ?_
        exact k
      obtain ⟨_, _, ⟨T177, L177, k177, n177⟩, -, X177, ⟨Lc177, hQ177, l177, y177, z177⟩, st177⟩ := Jvm.LawKit.callS X174 hx (y := (⟨"com/example/watermark/watermark/server/TransactionState$Phase", "prepare", "(Z)Lcom/example/watermark/watermark/server/TransactionState$Phase;"⟩ : MethodName)) hown (mvT hZ (hw _ (List.mem_of_getElem? (i := 24) rfl))) (mvT hZ (hw _ (List.mem_of_getElem? (i := 25) rfl))) (mvT hZ (hw _ (List.mem_of_getElem? (i := 3) rfl))) (mvT hZ (hw _ (List.mem_of_getElem? (i := 26) rfl))) (by decide) (backOf (W := 1) (rm2f l Z a0 hw [] (0 : Int32) v3 h38 n0 Z_39 S3_38 rfl) hZ (hw _ (List.mem_of_getElem? (i := 26) rfl)) (hw _ (List.mem_of_getElem? (i := 3) rfl)) (by decide) (by decide)) (g := (mkF m 114 #[.val (.int p1), .val (.int p2), .val (.ref b2), .val (.int (0 : Int32)), .val (.int (1 : Int32)), .val (.ref v0), .val (.int (0 : Int32)), .val (.int (0 : Int32)), .unset, .unset, .unset] [(.int (0 : Int32)), (.ref v0)])) rfl (by rw [hml]; rfl) (argsL := [(.int (0 : Int32))]) (rest := [(.ref v0)]) (lenOf pd__Z_Lcom_example_watermark_watermark_server_TransactionState_Phase_ rfl) rfl (by show 2 * 0 + _ ≤ _; exact Nat.le_of_eq rfl) (hb hby at_114) (fun _ _ => ⟨rfl, e174, (by decide : 1 + 0 ≤ _), (by decide : 6 + 0 ≤ _)⟩)
      dsimp only [Pt.U, Pt.locs, Pt.cells, Pt.slots] at X177 l177 y177 z177 st177 hQ177
      subst l177 y177 z177
      obtain ⟨rfl, N177q, e177⟩ := hQ177
      have N177 := Fr.app N174 N177q
      have P178 : ∀ t, Steps p.tables e below (T177.setTop (mkF m 117 #[.val (.int p1), .val (.int p2), .val (.ref b2), .val (.int (0 : Int32)), .val (.int (1 : Int32)), .val (.ref v0), .val (.int (0 : Int32)), .val (.int (0 : Int32)), .unset, .unset, .unset] [(.ref v3), (.ref v0)])) t → Steps p.tables e below (s₁.setTop (mkF m 0 #[.val (.int p1), .val (.int p2), .unset, .unset, .unset, .unset, .unset, .unset, .unset, .unset, .unset] [])) t := fun t k => P176 t (st177 _ k)
      have P179 : ∀ t, Steps p.tables e below (T177.setTop (mkF m 129 #[.val (.int p1), .val (.int p2), .val (.ref b2), .val (.int (0 : Int32)), .val (.int (1 : Int32)), .val (.ref v0), .val (.int (0 : Int32)), .val (.int (0 : Int32)), .val (.int (0 : Int32)), .unset, .unset] [(.int (1 : Int32))])) t → Steps p.tables e below (s₁.setTop (mkF m 0 #[.val (.int p1), .val (.int p2), .unset, .unset, .unset, .unset, .unset, .unset, .unset, .unset, .unset] [])) t := fun t k => by
        refine P178 t ?_
        show Steps p.tables e below (T177.setTop (mkF m 117 #[.val (.int p1), .val (.int p2), .val (.ref b2), .val (.int (0 : Int32)), .val (.int (1 : Int32)), .val (.ref v0), .val (.int (0 : Int32)), .val (.int (0 : Int32)), .unset, .unset, .unset] [(.ref v3), (.ref v0)])) t
        refine Jvm.RoadKit.acmp (g := (mkF m 117 #[.val (.int p1), .val (.int p2), .val (.ref b2), .val (.int (0 : Int32)), .val (.int (1 : Int32)), .val (.ref v0), .val (.int (0 : Int32)), .val (.int (0 : Int32)), .unset, .unset, .unset] [(.ref v3), (.ref v0)])) X177 hx rfl rfl rfl (pc0 := 117) (pc' := 124) (same := false) rfl (hb hby at_117) rfl (decide_eq_false fun q => n3_0 (Value.ref.inj q)) (by decide) (by decide) ?_
        show Steps p.tables e below (T177.setTop (mkF m 124 #[.val (.int p1), .val (.int p2), .val (.ref b2), .val (.int (0 : Int32)), .val (.int (1 : Int32)), .val (.ref v0), .val (.int (0 : Int32)), .val (.int (0 : Int32)), .unset, .unset, .unset] [])) t
        refine XS.iconst X177.here hx rfl (hb hby at_124) ?_
        show Steps p.tables e below (T177.setTop (mkF m 125 #[.val (.int p1), .val (.int p2), .val (.ref b2), .val (.int (0 : Int32)), .val (.int (1 : Int32)), .val (.ref v0), .val (.int (0 : Int32)), .val (.int (0 : Int32)), .unset, .unset, .unset] [(.int (0 : Int32))])) t
        refine XS.istore X177.here hx rfl (hb hby at_125) rfl (l' := #[.val (.int p1), .val (.int p2), .val (.ref b2), .val (.int (0 : Int32)), .val (.int (1 : Int32)), .val (.ref v0), .val (.int (0 : Int32)), .val (.int (0 : Int32)), .val (.int (0 : Int32)), .unset, .unset]) rfl ?_
        show Steps p.tables e below (T177.setTop (mkF m 127 #[.val (.int p1), .val (.int p2), .val (.ref b2), .val (.int (0 : Int32)), .val (.int (1 : Int32)), .val (.ref v0), .val (.int (0 : Int32)), .val (.int (0 : Int32)), .val (.int (0 : Int32)), .unset, .unset] [])) t
        refine XS.iload X177.here hx rfl (hb hby at_127) rfl ?_
        exact k
      obtain ⟨_, _, ⟨T180, L180, k180, n180⟩, -, X180, ⟨Lc180, hQ180, l180, y180, z180⟩, st180⟩ := Jvm.LawKit.callS X177 hx (y := (⟨"com/example/watermark/watermark/server/TransactionState$Phase", "prepare", "(Z)Lcom/example/watermark/watermark/server/TransactionState$Phase;"⟩ : MethodName)) hown (mvT hZ (hw _ (List.mem_of_getElem? (i := 24) rfl))) (mvT hZ (hw _ (List.mem_of_getElem? (i := 25) rfl))) (mvT hZ (hw _ (List.mem_of_getElem? (i := 3) rfl))) (mvT hZ (hw _ (List.mem_of_getElem? (i := 26) rfl))) (by decide) (backOf (W := 0) (rm2t l Z a0 hw [] (1 : Int32) v2 h38 n0 Z_39 S2_38 (by decide)) hZ (hw _ (List.mem_of_getElem? (i := 26) rfl)) (hw _ (List.mem_of_getElem? (i := 3) rfl)) (by decide) (by decide)) (g := (mkF m 129 #[.val (.int p1), .val (.int p2), .val (.ref b2), .val (.int (0 : Int32)), .val (.int (1 : Int32)), .val (.ref v0), .val (.int (0 : Int32)), .val (.int (0 : Int32)), .val (.int (0 : Int32)), .unset, .unset] [(.int (1 : Int32))])) rfl (by rw [hml]; rfl) (argsL := [(.int (1 : Int32))]) (rest := []) (lenOf pd__Z_Lcom_example_watermark_watermark_server_TransactionState_Phase_ rfl) rfl (by show 2 * 0 + _ ≤ _; exact Nat.le_of_eq rfl) (hb hby at_129) (fun _ _ => ⟨rfl, e177, (by decide : 1 + 0 ≤ _), (by decide : 6 + 0 ≤ _)⟩)
      dsimp only [Pt.U, Pt.locs, Pt.cells, Pt.slots] at X180 l180 y180 z180 st180 hQ180
      subst l180 y180 z180
      obtain ⟨rfl, N180q, e180⟩ := hQ180
      have N180 := Fr.app N177 N180q
      have P181 : ∀ t, Steps p.tables e below (T180.setTop (mkF m 132 #[.val (.int p1), .val (.int p2), .val (.ref b2), .val (.int (0 : Int32)), .val (.int (1 : Int32)), .val (.ref v0), .val (.int (0 : Int32)), .val (.int (0 : Int32)), .val (.int (0 : Int32)), .unset, .unset] [(.ref v2)])) t → Steps p.tables e below (s₁.setTop (mkF m 0 #[.val (.int p1), .val (.int p2), .unset, .unset, .unset, .unset, .unset, .unset, .unset, .unset, .unset] [])) t := fun t k => P179 t (st180 _ k)
      obtain ⟨cq182, kq182, q182a, q182b, q182c⟩ := isOf hZ e180 EX2_38
      obtain ⟨_, _, ⟨T182, L182, k182, n182⟩, -, X182, ⟨Lc182, hQ182, l182, y182, z182⟩, st182⟩ := X180.virtualBack hx (y := (⟨"com/example/watermark/watermark/server/TransactionState$Phase", "isEnding", "()Z"⟩ : MethodName)) (z := (⟨"com/example/watermark/watermark/server/TransactionState$Phase", "isEnding", "()Z"⟩ : MethodName)) hown (mvT hZ (hw _ (List.mem_of_getElem? (i := 17) rfl))) (mvT hZ (hw _ (List.mem_of_getElem? (i := 18) rfl))) (notFace_of_selects (args := #[]) (mvT hZ (hw _ (List.mem_of_getElem? (i := 20) rfl)))) (mvT hZ (hw _ (List.mem_of_getElem? (i := 20) rfl))) (mvT hZ (hw _ (List.mem_of_getElem? (i := 19) rfl))) (by decide) (backOf (W := 0) (rm1c l Z a0 hw [] v2 v2 v3 h38 n0 Z_39 S2_38 S3_38 rfl) hZ (hw _ (List.mem_of_getElem? (i := 21) rfl)) (hw _ (List.mem_of_getElem? (i := 3) rfl)) (by decide) (by decide)) q182a q182c (g := (mkF m 132 #[.val (.int p1), .val (.int p2), .val (.ref b2), .val (.int (0 : Int32)), .val (.int (1 : Int32)), .val (.ref v0), .val (.int (0 : Int32)), .val (.int (0 : Int32)), .val (.int (0 : Int32)), .unset, .unset] [(.ref v2)])) rfl (by rw [hml]; rfl) (Steps.refl _) (argsL := []) (rest := []) (lenOf pd___Z rfl) rfl (by show 2 * 0 + _ ≤ _; exact Nat.le_of_eq rfl) (hb hby at_132) (fun _ _ => ⟨rfl, e180, (by decide : 1 + 0 ≤ _), (by decide : 6 + 0 ≤ _)⟩)
      dsimp only [Pt.U, Pt.locs, Pt.cells, Pt.slots] at X182 l182 y182 z182 st182 hQ182
      subst l182 y182 z182
      obtain ⟨rfl, N182q, e182⟩ := hQ182
      have N182 := Fr.app N180 N182q
      have P183 : ∀ t, Steps p.tables e below (T182.setTop (mkF m 135 #[.val (.int p1), .val (.int p2), .val (.ref b2), .val (.int (0 : Int32)), .val (.int (1 : Int32)), .val (.ref v0), .val (.int (0 : Int32)), .val (.int (0 : Int32)), .val (.int (0 : Int32)), .unset, .unset] [(.int (1 : Int32))])) t → Steps p.tables e below (s₁.setTop (mkF m 0 #[.val (.int p1), .val (.int p2), .unset, .unset, .unset, .unset, .unset, .unset, .unset, .unset, .unset] [])) t := fun t k => P181 t (st182.trans k)
      have P184 : ∀ t, Steps p.tables e below (T182.setTop (mkF m 139 #[.val (.int p1), .val (.int p2), .val (.ref b2), .val (.int (0 : Int32)), .val (.int (1 : Int32)), .val (.ref v0), .val (.int (0 : Int32)), .val (.int (0 : Int32)), .val (.int (0 : Int32)), .val (.int (1 : Int32)), .unset] [(.int (1 : Int32))])) t → Steps p.tables e below (s₁.setTop (mkF m 0 #[.val (.int p1), .val (.int p2), .unset, .unset, .unset, .unset, .unset, .unset, .unset, .unset, .unset] [])) t := fun t k => by
        refine P183 t ?_
        show Steps p.tables e below (T182.setTop (mkF m 135 #[.val (.int p1), .val (.int p2), .val (.ref b2), .val (.int (0 : Int32)), .val (.int (1 : Int32)), .val (.ref v0), .val (.int (0 : Int32)), .val (.int (0 : Int32)), .val (.int (0 : Int32)), .unset, .unset] [(.int (1 : Int32))])) t
        refine XS.istore X182.here hx rfl (hb hby at_135) rfl (l' := #[.val (.int p1), .val (.int p2), .val (.ref b2), .val (.int (0 : Int32)), .val (.int (1 : Int32)), .val (.ref v0), .val (.int (0 : Int32)), .val (.int (0 : Int32)), .val (.int (0 : Int32)), .val (.int (1 : Int32)), .unset]) rfl ?_
        show Steps p.tables e below (T182.setTop (mkF m 137 #[.val (.int p1), .val (.int p2), .val (.ref b2), .val (.int (0 : Int32)), .val (.int (1 : Int32)), .val (.ref v0), .val (.int (0 : Int32)), .val (.int (0 : Int32)), .val (.int (0 : Int32)), .val (.int (1 : Int32)), .unset] [])) t
        refine XS.iload X182.here hx rfl (hb hby at_137) rfl ?_
        exact k
      obtain ⟨_, _, ⟨T185, L185, k185, n185⟩, -, X185, ⟨Lc185, hQ185, l185, y185, z185⟩, st185⟩ := Jvm.LawKit.callS X182 hx (y := (⟨"com/example/watermark/watermark/server/TransactionState$Phase", "complete", "(Z)Lcom/example/watermark/watermark/server/TransactionState$Phase;"⟩ : MethodName)) hown (mvT hZ (hw _ (List.mem_of_getElem? (i := 27) rfl))) (mvT hZ (hw _ (List.mem_of_getElem? (i := 28) rfl))) (mvT hZ (hw _ (List.mem_of_getElem? (i := 3) rfl))) (mvT hZ (hw _ (List.mem_of_getElem? (i := 29) rfl))) (by decide) (backOf (W := 0) (rm3t l Z a0 hw [] (1 : Int32) v4 h38 n0 Z_39 S4_38 (by decide)) hZ (hw _ (List.mem_of_getElem? (i := 29) rfl)) (hw _ (List.mem_of_getElem? (i := 3) rfl)) (by decide) (by decide)) (g := (mkF m 139 #[.val (.int p1), .val (.int p2), .val (.ref b2), .val (.int (0 : Int32)), .val (.int (1 : Int32)), .val (.ref v0), .val (.int (0 : Int32)), .val (.int (0 : Int32)), .val (.int (0 : Int32)), .val (.int (1 : Int32)), .unset] [(.int (1 : Int32))])) rfl (by rw [hml]; rfl) (argsL := [(.int (1 : Int32))]) (rest := []) (lenOf pd__Z_Lcom_example_watermark_watermark_server_TransactionState_Phase_ rfl) rfl (by show 2 * 0 + _ ≤ _; exact Nat.le_of_eq rfl) (hb hby at_139) (fun _ _ => ⟨rfl, e182, (by decide : 1 + 0 ≤ _), (by decide : 6 + 0 ≤ _)⟩)
      dsimp only [Pt.U, Pt.locs, Pt.cells, Pt.slots] at X185 l185 y185 z185 st185 hQ185
      subst l185 y185 z185
      obtain ⟨rfl, N185q, e185⟩ := hQ185
      have N185 := Fr.app N182 N185q
      have P186 : ∀ t, Steps p.tables e below (T185.setTop (mkF m 142 #[.val (.int p1), .val (.int p2), .val (.ref b2), .val (.int (0 : Int32)), .val (.int (1 : Int32)), .val (.ref v0), .val (.int (0 : Int32)), .val (.int (0 : Int32)), .val (.int (0 : Int32)), .val (.int (1 : Int32)), .unset] [(.ref v4)])) t → Steps p.tables e below (s₁.setTop (mkF m 0 #[.val (.int p1), .val (.int p2), .unset, .unset, .unset, .unset, .unset, .unset, .unset, .unset, .unset] [])) t := fun t k => P184 t (st185 _ k)
      obtain ⟨cq187, kq187, q187a, q187b, q187c⟩ := isOf hZ e185 EX4_38
      obtain ⟨_, _, ⟨T187, L187, k187, n187⟩, -, X187, ⟨Lc187, hQ187, l187, y187, z187⟩, st187⟩ := X185.virtualBack hx (y := (⟨"com/example/watermark/watermark/server/TransactionState$Phase", "isEnding", "()Z"⟩ : MethodName)) (z := (⟨"com/example/watermark/watermark/server/TransactionState$Phase", "isEnding", "()Z"⟩ : MethodName)) hown (mvT hZ (hw _ (List.mem_of_getElem? (i := 17) rfl))) (mvT hZ (hw _ (List.mem_of_getElem? (i := 18) rfl))) (notFace_of_selects (args := #[]) (mvT hZ (hw _ (List.mem_of_getElem? (i := 20) rfl)))) (mvT hZ (hw _ (List.mem_of_getElem? (i := 20) rfl))) (mvT hZ (hw _ (List.mem_of_getElem? (i := 19) rfl))) (by decide) (backOf (W := 0) (rm1n l Z a0 hw [] v4 v2 v3 h38 n0 Z_39 S2_38 S3_38 n2_4 n3_4) hZ (hw _ (List.mem_of_getElem? (i := 21) rfl)) (hw _ (List.mem_of_getElem? (i := 3) rfl)) (by decide) (by decide)) q187a q187c (g := (mkF m 142 #[.val (.int p1), .val (.int p2), .val (.ref b2), .val (.int (0 : Int32)), .val (.int (1 : Int32)), .val (.ref v0), .val (.int (0 : Int32)), .val (.int (0 : Int32)), .val (.int (0 : Int32)), .val (.int (1 : Int32)), .unset] [(.ref v4)])) rfl (by rw [hml]; rfl) (Steps.refl _) (argsL := []) (rest := []) (lenOf pd___Z rfl) rfl (by show 2 * 0 + _ ≤ _; exact Nat.le_of_eq rfl) (hb hby at_142) (fun _ _ => ⟨rfl, e185, (by decide : 1 + 0 ≤ _), (by decide : 6 + 0 ≤ _)⟩)
      dsimp only [Pt.U, Pt.locs, Pt.cells, Pt.slots] at X187 l187 y187 z187 st187 hQ187
      subst l187 y187 z187
      obtain ⟨rfl, N187q, e187⟩ := hQ187
      have N187 := Fr.app N185 N187q
      have P188 : ∀ t, Steps p.tables e below (T187.setTop (mkF m 145 #[.val (.int p1), .val (.int p2), .val (.ref b2), .val (.int (0 : Int32)), .val (.int (1 : Int32)), .val (.ref v0), .val (.int (0 : Int32)), .val (.int (0 : Int32)), .val (.int (0 : Int32)), .val (.int (1 : Int32)), .unset] [(.int (0 : Int32))])) t → Steps p.tables e below (s₁.setTop (mkF m 0 #[.val (.int p1), .val (.int p2), .unset, .unset, .unset, .unset, .unset, .unset, .unset, .unset, .unset] [])) t := fun t k => P186 t (st187.trans k)
      have P189 : ∀ t, Steps p.tables e below (T187.setTop (mkF m 176 #[.val (.int p1), .val (.int p2), .val (.ref b2), .val (.int (0 : Int32)), .val (.int (1 : Int32)), .val (.ref v0), .val (.int (0 : Int32)), .val (.int (0 : Int32)), .val (.int (0 : Int32)), .val (.int (1 : Int32)), .val (.int (0 : Int32))] [(.int (1 : Int32))])) t → Steps p.tables e below (s₁.setTop (mkF m 0 #[.val (.int p1), .val (.int p2), .unset, .unset, .unset, .unset, .unset, .unset, .unset, .unset, .unset] [])) t := fun t k => by
        refine P188 t ?_
        show Steps p.tables e below (T187.setTop (mkF m 145 #[.val (.int p1), .val (.int p2), .val (.ref b2), .val (.int (0 : Int32)), .val (.int (1 : Int32)), .val (.ref v0), .val (.int (0 : Int32)), .val (.int (0 : Int32)), .val (.int (0 : Int32)), .val (.int (1 : Int32)), .unset] [(.int (0 : Int32))])) t
        refine XS.istore X187.here hx rfl (hb hby at_145) rfl (l' := #[.val (.int p1), .val (.int p2), .val (.ref b2), .val (.int (0 : Int32)), .val (.int (1 : Int32)), .val (.ref v0), .val (.int (0 : Int32)), .val (.int (0 : Int32)), .val (.int (0 : Int32)), .val (.int (1 : Int32)), .val (.int (0 : Int32))]) rfl ?_
        show Steps p.tables e below (T187.setTop (mkF m 147 #[.val (.int p1), .val (.int p2), .val (.ref b2), .val (.int (0 : Int32)), .val (.int (1 : Int32)), .val (.ref v0), .val (.int (0 : Int32)), .val (.int (0 : Int32)), .val (.int (0 : Int32)), .val (.int (1 : Int32)), .val (.int (0 : Int32))] [])) t
        refine XS.iload X187.here hx rfl (hb hby at_147) rfl ?_
        show Steps p.tables e below (T187.setTop (mkF m 149 #[.val (.int p1), .val (.int p2), .val (.ref b2), .val (.int (0 : Int32)), .val (.int (1 : Int32)), .val (.ref v0), .val (.int (0 : Int32)), .val (.int (0 : Int32)), .val (.int (0 : Int32)), .val (.int (1 : Int32)), .val (.int (0 : Int32))] [(.int (0 : Int32))])) t
        refine XS.iload X187.here hx rfl (hb hby at_149) rfl ?_
        show Steps p.tables e below (T187.setTop (mkF m 151 #[.val (.int p1), .val (.int p2), .val (.ref b2), .val (.int (0 : Int32)), .val (.int (1 : Int32)), .val (.ref v0), .val (.int (0 : Int32)), .val (.int (0 : Int32)), .val (.int (0 : Int32)), .val (.int (1 : Int32)), .val (.int (0 : Int32))] [(.int (0 : Int32)), (.int (0 : Int32))])) t
        refine XS.icmpNo X187.here hx rfl (hb hby at_151) rfl (teq rfl).2 ?_
        show Steps p.tables e below (T187.setTop (mkF m 154 #[.val (.int p1), .val (.int p2), .val (.ref b2), .val (.int (0 : Int32)), .val (.int (1 : Int32)), .val (.ref v0), .val (.int (0 : Int32)), .val (.int (0 : Int32)), .val (.int (0 : Int32)), .val (.int (1 : Int32)), .val (.int (0 : Int32))] [])) t
        refine XS.iload X187.here hx rfl (hb hby at_154) rfl ?_
        show Steps p.tables e below (T187.setTop (mkF m 156 #[.val (.int p1), .val (.int p2), .val (.ref b2), .val (.int (0 : Int32)), .val (.int (1 : Int32)), .val (.ref v0), .val (.int (0 : Int32)), .val (.int (0 : Int32)), .val (.int (0 : Int32)), .val (.int (1 : Int32)), .val (.int (0 : Int32))] [(.int (0 : Int32))])) t
        refine XS.iload X187.here hx rfl (hb hby at_156) rfl ?_
        show Steps p.tables e below (T187.setTop (mkF m 158 #[.val (.int p1), .val (.int p2), .val (.ref b2), .val (.int (0 : Int32)), .val (.int (1 : Int32)), .val (.ref v0), .val (.int (0 : Int32)), .val (.int (0 : Int32)), .val (.int (0 : Int32)), .val (.int (1 : Int32)), .val (.int (0 : Int32))] [(.int (0 : Int32)), (.int (0 : Int32))])) t
        refine XS.icmpNo X187.here hx rfl (hb hby at_158) rfl (teq rfl).2 ?_
        show Steps p.tables e below (T187.setTop (mkF m 161 #[.val (.int p1), .val (.int p2), .val (.ref b2), .val (.int (0 : Int32)), .val (.int (1 : Int32)), .val (.ref v0), .val (.int (0 : Int32)), .val (.int (0 : Int32)), .val (.int (0 : Int32)), .val (.int (1 : Int32)), .val (.int (0 : Int32))] [])) t
        refine XS.iload X187.here hx rfl (hb hby at_161) rfl ?_
        show Steps p.tables e below (T187.setTop (mkF m 163 #[.val (.int p1), .val (.int p2), .val (.ref b2), .val (.int (0 : Int32)), .val (.int (1 : Int32)), .val (.ref v0), .val (.int (0 : Int32)), .val (.int (0 : Int32)), .val (.int (0 : Int32)), .val (.int (1 : Int32)), .val (.int (0 : Int32))] [(.int (1 : Int32))])) t
        refine XS.ifNo X187.here hx rfl (hb hby at_163) rfl ((if0 _ _).trans (feq (by decide)).1) ?_
        show Steps p.tables e below (T187.setTop (mkF m 166 #[.val (.int p1), .val (.int p2), .val (.ref b2), .val (.int (0 : Int32)), .val (.int (1 : Int32)), .val (.ref v0), .val (.int (0 : Int32)), .val (.int (0 : Int32)), .val (.int (0 : Int32)), .val (.int (1 : Int32)), .val (.int (0 : Int32))] [])) t
        refine XS.iload X187.here hx rfl (hb hby at_166) rfl ?_
        show Steps p.tables e below (T187.setTop (mkF m 168 #[.val (.int p1), .val (.int p2), .val (.ref b2), .val (.int (0 : Int32)), .val (.int (1 : Int32)), .val (.ref v0), .val (.int (0 : Int32)), .val (.int (0 : Int32)), .val (.int (0 : Int32)), .val (.int (1 : Int32)), .val (.int (0 : Int32))] [(.int (0 : Int32))])) t
        refine XS.ifNo X187.here hx rfl (hb hby at_168) rfl ((if0 _ _).trans (teq rfl).2) ?_
        show Steps p.tables e below (T187.setTop (mkF m 171 #[.val (.int p1), .val (.int p2), .val (.ref b2), .val (.int (0 : Int32)), .val (.int (1 : Int32)), .val (.ref v0), .val (.int (0 : Int32)), .val (.int (0 : Int32)), .val (.int (0 : Int32)), .val (.int (1 : Int32)), .val (.int (0 : Int32))] [])) t
        refine XS.iconst X187.here hx rfl (hb hby at_171) ?_
        show Steps p.tables e below (T187.setTop (mkF m 172 #[.val (.int p1), .val (.int p2), .val (.ref b2), .val (.int (0 : Int32)), .val (.int (1 : Int32)), .val (.ref v0), .val (.int (0 : Int32)), .val (.int (0 : Int32)), .val (.int (0 : Int32)), .val (.int (1 : Int32)), .val (.int (0 : Int32))] [(.int (1 : Int32))])) t
        refine XS.goto X187.here hx rfl (pc0 := 172) (pc' := 176) rfl (hb hby at_172) (by decide) (by decide) ?_
        exact k
      obtain ⟨fs, hr, hrun, hended, hW, hsame⟩ := X187.leave (v := some (.int (1 : Int32))) (fun h => by rw [Bd.returns] at h; cases h)
      refine ⟨_, _, pre0 _ (P189 _ ?_), hrun, hended, _, _, rfl, ?_, ⟨_, rfl⟩, hW, hsame.mono (by decide) (by decide)⟩
      · exact retN X187 hx (t := .boolean) Bd.returns (by simp) (hb hby at_176) hr
      · show Q0 Z p1 p2 v0 v1 v2 v3 v4 v5 h0 n0 _ T187.heap _
        rw [e187]
        exact ⟨rfl, N187⟩
    · obtain ⟨cl190, Ar190, q190, S190_, N190_, H190_, G190_⟩ := V_b2_38
      have hin190 : ¬ ((1 : Int32) < 0 ∨ cl190.slots.size ≤ ((1 : Int32)).toNatClampNeg) := inb_of S190_ ⟨by decide, by decide⟩
      have P191 : ∀ t, Steps p.tables e below (T38.setTop (mkF m 87 #[.val (.int p1), .val (.int p2), .val (.ref b2), .val (.int (1 : Int32)), .val (.int (1 : Int32)), .val (.ref v1), .val (.int (0 : Int32)), .unset, .unset, .unset, .unset] [(.ref v1)])) t → Steps p.tables e below (s₁.setTop (mkF m 0 #[.val (.int p1), .val (.int p2), .unset, .unset, .unset, .unset, .unset, .unset, .unset, .unset, .unset] [])) t := fun t k => by
        refine P168 t ?_
        show Steps p.tables e below (T38.setTop (mkF m 63 #[.val (.int p1), .val (.int p2), .val (.ref b2), .val (.int (1 : Int32)), .val (.int (1 : Int32)), .unset, .unset, .unset, .unset, .unset, .unset] [])) t
        refine XS.aloadN X38.here hx rfl (hb hby at_63) rfl rfl ?_
        show Steps p.tables e below (T38.setTop (mkF m 64 #[.val (.int p1), .val (.int p2), .val (.ref b2), .val (.int (1 : Int32)), .val (.int (1 : Int32)), .unset, .unset, .unset, .unset, .unset, .unset] [(.ref b2)])) t
        refine XS.iloadN X38.here hx rfl (hb hby at_64) rfl ?_
        show Steps p.tables e below (T38.setTop (mkF m 65 #[.val (.int p1), .val (.int p2), .val (.ref b2), .val (.int (1 : Int32)), .val (.int (1 : Int32)), .unset, .unset, .unset, .unset, .unset, .unset] [(.int (1 : Int32)), (.ref b2)])) t
        refine X38.aaload hx (j := (1 : Int32)) (v := (.ref v1)) (by rw [e38]; exact Ar190.1) (State.isArrayOf_alike hZ.alike Ar190.2.1) rfl Ar190.2.2 hin190 (Has.at H190_ hin190 rfl) (g := (mkF m 65 #[.val (.int p1), .val (.int p2), .val (.ref b2), .val (.int (1 : Int32)), .val (.int (1 : Int32)), .unset, .unset, .unset, .unset, .unset, .unset] [(.int (1 : Int32)), (.ref b2)])) rfl rfl (hb hby at_65) _ ?_
        show Steps p.tables e below (T38.setTop (mkF m 66 #[.val (.int p1), .val (.int p2), .val (.ref b2), .val (.int (1 : Int32)), .val (.int (1 : Int32)), .unset, .unset, .unset, .unset, .unset, .unset] [(.ref v1)])) t
        refine XS.astore X38.here hx rfl (hb hby at_66) rfl rfl (l' := #[.val (.int p1), .val (.int p2), .val (.ref b2), .val (.int (1 : Int32)), .val (.int (1 : Int32)), .val (.ref v1), .unset, .unset, .unset, .unset, .unset]) rfl ?_
        show Steps p.tables e below (T38.setTop (mkF m 68 #[.val (.int p1), .val (.int p2), .val (.ref b2), .val (.int (1 : Int32)), .val (.int (1 : Int32)), .val (.ref v1), .unset, .unset, .unset, .unset, .unset] [])) t
        refine XS.iloadN X38.here hx rfl (hb hby at_68) rfl ?_
        show Steps p.tables e below (T38.setTop (mkF m 69 #[.val (.int p1), .val (.int p2), .val (.ref b2), .val (.int (1 : Int32)), .val (.int (1 : Int32)), .val (.ref v1), .unset, .unset, .unset, .unset, .unset] [(.int (1 : Int32))])) t
        refine XS.iconst X38.here hx rfl (hb hby at_69) ?_
        show Steps p.tables e below (T38.setTop (mkF m 70 #[.val (.int p1), .val (.int p2), .val (.ref b2), .val (.int (1 : Int32)), .val (.int (1 : Int32)), .val (.ref v1), .unset, .unset, .unset, .unset, .unset] [(.int (2 : Int32)), (.int (1 : Int32))])) t
        refine XS.icmpNo X38.here hx rfl (hb hby at_70) rfl (feq (by decide)).1 ?_
        show Steps p.tables e below (T38.setTop (mkF m 73 #[.val (.int p1), .val (.int p2), .val (.ref b2), .val (.int (1 : Int32)), .val (.int (1 : Int32)), .val (.ref v1), .unset, .unset, .unset, .unset, .unset] [])) t
        refine XS.iloadN X38.here hx rfl (hb hby at_73) rfl ?_
        show Steps p.tables e below (T38.setTop (mkF m 74 #[.val (.int p1), .val (.int p2), .val (.ref b2), .val (.int (1 : Int32)), .val (.int (1 : Int32)), .val (.ref v1), .unset, .unset, .unset, .unset, .unset] [(.int (1 : Int32))])) t
        refine XS.iconst X38.here hx rfl (hb hby at_74) ?_
        show Steps p.tables e below (T38.setTop (mkF m 75 #[.val (.int p1), .val (.int p2), .val (.ref b2), .val (.int (1 : Int32)), .val (.int (1 : Int32)), .val (.ref v1), .unset, .unset, .unset, .unset, .unset] [(.int (3 : Int32)), (.int (1 : Int32))])) t
        refine XS.icmpYes X38.here hx rfl (pc0 := 75) (pc' := 82) rfl (hb hby at_75) rfl (feq (by decide)).2 (by decide) (by decide) ?_
        show Steps p.tables e below (T38.setTop (mkF m 82 #[.val (.int p1), .val (.int p2), .val (.ref b2), .val (.int (1 : Int32)), .val (.int (1 : Int32)), .val (.ref v1), .unset, .unset, .unset, .unset, .unset] [])) t
        refine XS.iconst X38.here hx rfl (hb hby at_82) ?_
        show Steps p.tables e below (T38.setTop (mkF m 83 #[.val (.int p1), .val (.int p2), .val (.ref b2), .val (.int (1 : Int32)), .val (.int (1 : Int32)), .val (.ref v1), .unset, .unset, .unset, .unset, .unset] [(.int (0 : Int32))])) t
        refine XS.istore X38.here hx rfl (hb hby at_83) rfl (l' := #[.val (.int p1), .val (.int p2), .val (.ref b2), .val (.int (1 : Int32)), .val (.int (1 : Int32)), .val (.ref v1), .val (.int (0 : Int32)), .unset, .unset, .unset, .unset]) rfl ?_
        show Steps p.tables e below (T38.setTop (mkF m 85 #[.val (.int p1), .val (.int p2), .val (.ref b2), .val (.int (1 : Int32)), .val (.int (1 : Int32)), .val (.ref v1), .val (.int (0 : Int32)), .unset, .unset, .unset, .unset] [])) t
        refine XS.aload X38.here hx rfl (hb hby at_85) rfl rfl ?_
        exact k
      obtain ⟨cq192, kq192, q192a, q192b, q192c⟩ := isOf hZ e38 EX1_38
      obtain ⟨_, _, ⟨T192, L192, k192, n192⟩, -, X192, ⟨Lc192, hQ192, l192, y192, z192⟩, st192⟩ := X38.virtualBack hx (y := (⟨"com/example/watermark/watermark/server/TransactionState$Phase", "isEnding", "()Z"⟩ : MethodName)) (z := (⟨"com/example/watermark/watermark/server/TransactionState$Phase", "isEnding", "()Z"⟩ : MethodName)) hown (mvT hZ (hw _ (List.mem_of_getElem? (i := 17) rfl))) (mvT hZ (hw _ (List.mem_of_getElem? (i := 18) rfl))) (notFace_of_selects (args := #[]) (mvT hZ (hw _ (List.mem_of_getElem? (i := 20) rfl)))) (mvT hZ (hw _ (List.mem_of_getElem? (i := 20) rfl))) (mvT hZ (hw _ (List.mem_of_getElem? (i := 19) rfl))) (by decide) (backOf (W := 0) (rm1n l Z a0 hw [] v1 v2 v3 h38 n0 Z_39 S2_38 S3_38 n2_1 n3_1) hZ (hw _ (List.mem_of_getElem? (i := 21) rfl)) (hw _ (List.mem_of_getElem? (i := 3) rfl)) (by decide) (by decide)) q192a q192c (g := (mkF m 87 #[.val (.int p1), .val (.int p2), .val (.ref b2), .val (.int (1 : Int32)), .val (.int (1 : Int32)), .val (.ref v1), .val (.int (0 : Int32)), .unset, .unset, .unset, .unset] [(.ref v1)])) rfl (by rw [hml]; rfl) (Steps.refl _) (argsL := []) (rest := []) (lenOf pd___Z rfl) rfl (by show 2 * 0 + _ ≤ _; exact Nat.le_of_eq rfl) (hb hby at_87) (fun _ _ => ⟨rfl, e38, (by decide : 1 + 0 ≤ _), (by decide : 6 + 0 ≤ _)⟩)
      dsimp only [Pt.U, Pt.locs, Pt.cells, Pt.slots] at X192 l192 y192 z192 st192 hQ192
      subst l192 y192 z192
      obtain ⟨rfl, N192q, e192⟩ := hQ192
      have N192 := Fr.app N38 N192q
      have P193 : ∀ t, Steps p.tables e below (T192.setTop (mkF m 90 #[.val (.int p1), .val (.int p2), .val (.ref b2), .val (.int (1 : Int32)), .val (.int (1 : Int32)), .val (.ref v1), .val (.int (0 : Int32)), .unset, .unset, .unset, .unset] [(.int (0 : Int32))])) t → Steps p.tables e below (s₁.setTop (mkF m 0 #[.val (.int p1), .val (.int p2), .unset, .unset, .unset, .unset, .unset, .unset, .unset, .unset, .unset] [])) t := fun t k => P191 t (st192.trans k)
      have P194 : ∀ t, Steps p.tables e below (T192.setTop (mkF m 96 #[.val (.int p1), .val (.int p2), .val (.ref b2), .val (.int (1 : Int32)), .val (.int (1 : Int32)), .val (.ref v1), .val (.int (0 : Int32)), .val (.int (0 : Int32)), .unset, .unset, .unset] [(.int (1 : Int32)), (.ref v1)])) t → Steps p.tables e below (s₁.setTop (mkF m 0 #[.val (.int p1), .val (.int p2), .unset, .unset, .unset, .unset, .unset, .unset, .unset, .unset, .unset] [])) t := fun t k => by
        refine P193 t ?_
        show Steps p.tables e below (T192.setTop (mkF m 90 #[.val (.int p1), .val (.int p2), .val (.ref b2), .val (.int (1 : Int32)), .val (.int (1 : Int32)), .val (.ref v1), .val (.int (0 : Int32)), .unset, .unset, .unset, .unset] [(.int (0 : Int32))])) t
        refine XS.istore X192.here hx rfl (hb hby at_90) rfl (l' := #[.val (.int p1), .val (.int p2), .val (.ref b2), .val (.int (1 : Int32)), .val (.int (1 : Int32)), .val (.ref v1), .val (.int (0 : Int32)), .val (.int (0 : Int32)), .unset, .unset, .unset]) rfl ?_
        show Steps p.tables e below (T192.setTop (mkF m 92 #[.val (.int p1), .val (.int p2), .val (.ref b2), .val (.int (1 : Int32)), .val (.int (1 : Int32)), .val (.ref v1), .val (.int (0 : Int32)), .val (.int (0 : Int32)), .unset, .unset, .unset] [])) t
        refine XS.aload X192.here hx rfl (hb hby at_92) rfl rfl ?_
        show Steps p.tables e below (T192.setTop (mkF m 94 #[.val (.int p1), .val (.int p2), .val (.ref b2), .val (.int (1 : Int32)), .val (.int (1 : Int32)), .val (.ref v1), .val (.int (0 : Int32)), .val (.int (0 : Int32)), .unset, .unset, .unset] [(.ref v1)])) t
        refine XS.iload X192.here hx rfl (hb hby at_94) rfl ?_
        exact k
      obtain ⟨_, _, ⟨T195, L195, k195, n195⟩, -, X195, ⟨Lc195, hQ195, l195, y195, z195⟩, st195⟩ := Jvm.LawKit.callS X192 hx (y := (⟨"com/example/watermark/watermark/server/TransactionState$Phase", "prepare", "(Z)Lcom/example/watermark/watermark/server/TransactionState$Phase;"⟩ : MethodName)) hown (mvT hZ (hw _ (List.mem_of_getElem? (i := 24) rfl))) (mvT hZ (hw _ (List.mem_of_getElem? (i := 25) rfl))) (mvT hZ (hw _ (List.mem_of_getElem? (i := 3) rfl))) (mvT hZ (hw _ (List.mem_of_getElem? (i := 26) rfl))) (by decide) (backOf (W := 1) (rm2t l Z a0 hw [] (1 : Int32) v2 h38 n0 Z_39 S2_38 (by decide)) hZ (hw _ (List.mem_of_getElem? (i := 26) rfl)) (hw _ (List.mem_of_getElem? (i := 3) rfl)) (by decide) (by decide)) (g := (mkF m 96 #[.val (.int p1), .val (.int p2), .val (.ref b2), .val (.int (1 : Int32)), .val (.int (1 : Int32)), .val (.ref v1), .val (.int (0 : Int32)), .val (.int (0 : Int32)), .unset, .unset, .unset] [(.int (1 : Int32)), (.ref v1)])) rfl (by rw [hml]; rfl) (argsL := [(.int (1 : Int32))]) (rest := [(.ref v1)]) (lenOf pd__Z_Lcom_example_watermark_watermark_server_TransactionState_Phase_ rfl) rfl (by show 2 * 0 + _ ≤ _; exact Nat.le_of_eq rfl) (hb hby at_96) (fun _ _ => ⟨rfl, e192, (by decide : 1 + 0 ≤ _), (by decide : 6 + 0 ≤ _)⟩)
      dsimp only [Pt.U, Pt.locs, Pt.cells, Pt.slots] at X195 l195 y195 z195 st195 hQ195
      subst l195 y195 z195
      obtain ⟨rfl, N195q, e195⟩ := hQ195
      have N195 := Fr.app N192 N195q
      have P196 : ∀ t, Steps p.tables e below (T195.setTop (mkF m 99 #[.val (.int p1), .val (.int p2), .val (.ref b2), .val (.int (1 : Int32)), .val (.int (1 : Int32)), .val (.ref v1), .val (.int (0 : Int32)), .val (.int (0 : Int32)), .unset, .unset, .unset] [(.ref v2), (.ref v1)])) t → Steps p.tables e below (s₁.setTop (mkF m 0 #[.val (.int p1), .val (.int p2), .unset, .unset, .unset, .unset, .unset, .unset, .unset, .unset, .unset] [])) t := fun t k => P194 t (st195 _ k)
      have P197 : ∀ t, Steps p.tables e below (T195.setTop (mkF m 114 #[.val (.int p1), .val (.int p2), .val (.ref b2), .val (.int (1 : Int32)), .val (.int (1 : Int32)), .val (.ref v1), .val (.int (0 : Int32)), .val (.int (0 : Int32)), .unset, .unset, .unset] [(.int (0 : Int32)), (.ref v1)])) t → Steps p.tables e below (s₁.setTop (mkF m 0 #[.val (.int p1), .val (.int p2), .unset, .unset, .unset, .unset, .unset, .unset, .unset, .unset, .unset] [])) t := fun t k => by
        refine P196 t ?_
        show Steps p.tables e below (T195.setTop (mkF m 99 #[.val (.int p1), .val (.int p2), .val (.ref b2), .val (.int (1 : Int32)), .val (.int (1 : Int32)), .val (.ref v1), .val (.int (0 : Int32)), .val (.int (0 : Int32)), .unset, .unset, .unset] [(.ref v2), (.ref v1)])) t
        refine Jvm.RoadKit.acmp (g := (mkF m 99 #[.val (.int p1), .val (.int p2), .val (.ref b2), .val (.int (1 : Int32)), .val (.int (1 : Int32)), .val (.ref v1), .val (.int (0 : Int32)), .val (.int (0 : Int32)), .unset, .unset, .unset] [(.ref v2), (.ref v1)])) X195 hx rfl rfl rfl (pc0 := 99) (pc' := 102) (same := false) rfl (hb hby at_99) rfl (decide_eq_false fun q => n2_1 (Value.ref.inj q)) (by decide) (by decide) ?_
        show Steps p.tables e below (T195.setTop (mkF m 102 #[.val (.int p1), .val (.int p2), .val (.ref b2), .val (.int (1 : Int32)), .val (.int (1 : Int32)), .val (.ref v1), .val (.int (0 : Int32)), .val (.int (0 : Int32)), .unset, .unset, .unset] [])) t
        refine XS.aload X195.here hx rfl (hb hby at_102) rfl rfl ?_
        show Steps p.tables e below (T195.setTop (mkF m 104 #[.val (.int p1), .val (.int p2), .val (.ref b2), .val (.int (1 : Int32)), .val (.int (1 : Int32)), .val (.ref v1), .val (.int (0 : Int32)), .val (.int (0 : Int32)), .unset, .unset, .unset] [(.ref v1)])) t
        refine XS.iload X195.here hx rfl (hb hby at_104) rfl ?_
        show Steps p.tables e below (T195.setTop (mkF m 106 #[.val (.int p1), .val (.int p2), .val (.ref b2), .val (.int (1 : Int32)), .val (.int (1 : Int32)), .val (.ref v1), .val (.int (0 : Int32)), .val (.int (0 : Int32)), .unset, .unset, .unset] [(.int (1 : Int32)), (.ref v1)])) t
        refine XS.ifYes X195.here hx rfl (pc0 := 106) (pc' := 113) rfl (hb hby at_106) rfl ((if0 _ _).trans (feq (by decide)).2) (by decide) (by decide) ?_
        show Steps p.tables e below (T195.setTop (mkF m 113 #[.val (.int p1), .val (.int p2), .val (.ref b2), .val (.int (1 : Int32)), .val (.int (1 : Int32)), .val (.ref v1), .val (.int (0 : Int32)), .val (.int (0 : Int32)), .unset, .unset, .unset] [(.ref v1)])) t
        refine XS.iconst X195.here hx rfl (hb hby at_113) ?_
        exact k
      obtain ⟨_, _, ⟨T198, L198, k198, n198⟩, -, X198, ⟨Lc198, hQ198, l198, y198, z198⟩, st198⟩ := Jvm.LawKit.callS X195 hx (y := (⟨"com/example/watermark/watermark/server/TransactionState$Phase", "prepare", "(Z)Lcom/example/watermark/watermark/server/TransactionState$Phase;"⟩ : MethodName)) hown (mvT hZ (hw _ (List.mem_of_getElem? (i := 24) rfl))) (mvT hZ (hw _ (List.mem_of_getElem? (i := 25) rfl))) (mvT hZ (hw _ (List.mem_of_getElem? (i := 3) rfl))) (mvT hZ (hw _ (List.mem_of_getElem? (i := 26) rfl))) (by decide) (backOf (W := 1) (rm2f l Z a0 hw [] (0 : Int32) v3 h38 n0 Z_39 S3_38 rfl) hZ (hw _ (List.mem_of_getElem? (i := 26) rfl)) (hw _ (List.mem_of_getElem? (i := 3) rfl)) (by decide) (by decide)) (g := (mkF m 114 #[.val (.int p1), .val (.int p2), .val (.ref b2), .val (.int (1 : Int32)), .val (.int (1 : Int32)), .val (.ref v1), .val (.int (0 : Int32)), .val (.int (0 : Int32)), .unset, .unset, .unset] [(.int (0 : Int32)), (.ref v1)])) rfl (by rw [hml]; rfl) (argsL := [(.int (0 : Int32))]) (rest := [(.ref v1)]) (lenOf pd__Z_Lcom_example_watermark_watermark_server_TransactionState_Phase_ rfl) rfl (by show 2 * 0 + _ ≤ _; exact Nat.le_of_eq rfl) (hb hby at_114) (fun _ _ => ⟨rfl, e195, (by decide : 1 + 0 ≤ _), (by decide : 6 + 0 ≤ _)⟩)
      dsimp only [Pt.U, Pt.locs, Pt.cells, Pt.slots] at X198 l198 y198 z198 st198 hQ198
      subst l198 y198 z198
      obtain ⟨rfl, N198q, e198⟩ := hQ198
      have N198 := Fr.app N195 N198q
      have P199 : ∀ t, Steps p.tables e below (T198.setTop (mkF m 117 #[.val (.int p1), .val (.int p2), .val (.ref b2), .val (.int (1 : Int32)), .val (.int (1 : Int32)), .val (.ref v1), .val (.int (0 : Int32)), .val (.int (0 : Int32)), .unset, .unset, .unset] [(.ref v3), (.ref v1)])) t → Steps p.tables e below (s₁.setTop (mkF m 0 #[.val (.int p1), .val (.int p2), .unset, .unset, .unset, .unset, .unset, .unset, .unset, .unset, .unset] [])) t := fun t k => P197 t (st198 _ k)
      have P200 : ∀ t, Steps p.tables e below (T198.setTop (mkF m 129 #[.val (.int p1), .val (.int p2), .val (.ref b2), .val (.int (1 : Int32)), .val (.int (1 : Int32)), .val (.ref v1), .val (.int (0 : Int32)), .val (.int (0 : Int32)), .val (.int (0 : Int32)), .unset, .unset] [(.int (1 : Int32))])) t → Steps p.tables e below (s₁.setTop (mkF m 0 #[.val (.int p1), .val (.int p2), .unset, .unset, .unset, .unset, .unset, .unset, .unset, .unset, .unset] [])) t := fun t k => by
        refine P199 t ?_
        show Steps p.tables e below (T198.setTop (mkF m 117 #[.val (.int p1), .val (.int p2), .val (.ref b2), .val (.int (1 : Int32)), .val (.int (1 : Int32)), .val (.ref v1), .val (.int (0 : Int32)), .val (.int (0 : Int32)), .unset, .unset, .unset] [(.ref v3), (.ref v1)])) t
        refine Jvm.RoadKit.acmp (g := (mkF m 117 #[.val (.int p1), .val (.int p2), .val (.ref b2), .val (.int (1 : Int32)), .val (.int (1 : Int32)), .val (.ref v1), .val (.int (0 : Int32)), .val (.int (0 : Int32)), .unset, .unset, .unset] [(.ref v3), (.ref v1)])) X198 hx rfl rfl rfl (pc0 := 117) (pc' := 124) (same := false) rfl (hb hby at_117) rfl (decide_eq_false fun q => n3_1 (Value.ref.inj q)) (by decide) (by decide) ?_
        show Steps p.tables e below (T198.setTop (mkF m 124 #[.val (.int p1), .val (.int p2), .val (.ref b2), .val (.int (1 : Int32)), .val (.int (1 : Int32)), .val (.ref v1), .val (.int (0 : Int32)), .val (.int (0 : Int32)), .unset, .unset, .unset] [])) t
        refine XS.iconst X198.here hx rfl (hb hby at_124) ?_
        show Steps p.tables e below (T198.setTop (mkF m 125 #[.val (.int p1), .val (.int p2), .val (.ref b2), .val (.int (1 : Int32)), .val (.int (1 : Int32)), .val (.ref v1), .val (.int (0 : Int32)), .val (.int (0 : Int32)), .unset, .unset, .unset] [(.int (0 : Int32))])) t
        refine XS.istore X198.here hx rfl (hb hby at_125) rfl (l' := #[.val (.int p1), .val (.int p2), .val (.ref b2), .val (.int (1 : Int32)), .val (.int (1 : Int32)), .val (.ref v1), .val (.int (0 : Int32)), .val (.int (0 : Int32)), .val (.int (0 : Int32)), .unset, .unset]) rfl ?_
        show Steps p.tables e below (T198.setTop (mkF m 127 #[.val (.int p1), .val (.int p2), .val (.ref b2), .val (.int (1 : Int32)), .val (.int (1 : Int32)), .val (.ref v1), .val (.int (0 : Int32)), .val (.int (0 : Int32)), .val (.int (0 : Int32)), .unset, .unset] [])) t
        refine XS.iload X198.here hx rfl (hb hby at_127) rfl ?_
        exact k
      obtain ⟨_, _, ⟨T201, L201, k201, n201⟩, -, X201, ⟨Lc201, hQ201, l201, y201, z201⟩, st201⟩ := Jvm.LawKit.callS X198 hx (y := (⟨"com/example/watermark/watermark/server/TransactionState$Phase", "prepare", "(Z)Lcom/example/watermark/watermark/server/TransactionState$Phase;"⟩ : MethodName)) hown (mvT hZ (hw _ (List.mem_of_getElem? (i := 24) rfl))) (mvT hZ (hw _ (List.mem_of_getElem? (i := 25) rfl))) (mvT hZ (hw _ (List.mem_of_getElem? (i := 3) rfl))) (mvT hZ (hw _ (List.mem_of_getElem? (i := 26) rfl))) (by decide) (backOf (W := 0) (rm2t l Z a0 hw [] (1 : Int32) v2 h38 n0 Z_39 S2_38 (by decide)) hZ (hw _ (List.mem_of_getElem? (i := 26) rfl)) (hw _ (List.mem_of_getElem? (i := 3) rfl)) (by decide) (by decide)) (g := (mkF m 129 #[.val (.int p1), .val (.int p2), .val (.ref b2), .val (.int (1 : Int32)), .val (.int (1 : Int32)), .val (.ref v1), .val (.int (0 : Int32)), .val (.int (0 : Int32)), .val (.int (0 : Int32)), .unset, .unset] [(.int (1 : Int32))])) rfl (by rw [hml]; rfl) (argsL := [(.int (1 : Int32))]) (rest := []) (lenOf pd__Z_Lcom_example_watermark_watermark_server_TransactionState_Phase_ rfl) rfl (by show 2 * 0 + _ ≤ _; exact Nat.le_of_eq rfl) (hb hby at_129) (fun _ _ => ⟨rfl, e198, (by decide : 1 + 0 ≤ _), (by decide : 6 + 0 ≤ _)⟩)
      dsimp only [Pt.U, Pt.locs, Pt.cells, Pt.slots] at X201 l201 y201 z201 st201 hQ201
      subst l201 y201 z201
      obtain ⟨rfl, N201q, e201⟩ := hQ201
      have N201 := Fr.app N198 N201q
      have P202 : ∀ t, Steps p.tables e below (T201.setTop (mkF m 132 #[.val (.int p1), .val (.int p2), .val (.ref b2), .val (.int (1 : Int32)), .val (.int (1 : Int32)), .val (.ref v1), .val (.int (0 : Int32)), .val (.int (0 : Int32)), .val (.int (0 : Int32)), .unset, .unset] [(.ref v2)])) t → Steps p.tables e below (s₁.setTop (mkF m 0 #[.val (.int p1), .val (.int p2), .unset, .unset, .unset, .unset, .unset, .unset, .unset, .unset, .unset] [])) t := fun t k => P200 t (st201 _ k)
      obtain ⟨cq203, kq203, q203a, q203b, q203c⟩ := isOf hZ e201 EX2_38
      obtain ⟨_, _, ⟨T203, L203, k203, n203⟩, -, X203, ⟨Lc203, hQ203, l203, y203, z203⟩, st203⟩ := X201.virtualBack hx (y := (⟨"com/example/watermark/watermark/server/TransactionState$Phase", "isEnding", "()Z"⟩ : MethodName)) (z := (⟨"com/example/watermark/watermark/server/TransactionState$Phase", "isEnding", "()Z"⟩ : MethodName)) hown (mvT hZ (hw _ (List.mem_of_getElem? (i := 17) rfl))) (mvT hZ (hw _ (List.mem_of_getElem? (i := 18) rfl))) (notFace_of_selects (args := #[]) (mvT hZ (hw _ (List.mem_of_getElem? (i := 20) rfl)))) (mvT hZ (hw _ (List.mem_of_getElem? (i := 20) rfl))) (mvT hZ (hw _ (List.mem_of_getElem? (i := 19) rfl))) (by decide) (backOf (W := 0) (rm1c l Z a0 hw [] v2 v2 v3 h38 n0 Z_39 S2_38 S3_38 rfl) hZ (hw _ (List.mem_of_getElem? (i := 21) rfl)) (hw _ (List.mem_of_getElem? (i := 3) rfl)) (by decide) (by decide)) q203a q203c (g := (mkF m 132 #[.val (.int p1), .val (.int p2), .val (.ref b2), .val (.int (1 : Int32)), .val (.int (1 : Int32)), .val (.ref v1), .val (.int (0 : Int32)), .val (.int (0 : Int32)), .val (.int (0 : Int32)), .unset, .unset] [(.ref v2)])) rfl (by rw [hml]; rfl) (Steps.refl _) (argsL := []) (rest := []) (lenOf pd___Z rfl) rfl (by show 2 * 0 + _ ≤ _; exact Nat.le_of_eq rfl) (hb hby at_132) (fun _ _ => ⟨rfl, e201, (by decide : 1 + 0 ≤ _), (by decide : 6 + 0 ≤ _)⟩)
      dsimp only [Pt.U, Pt.locs, Pt.cells, Pt.slots] at X203 l203 y203 z203 st203 hQ203
      subst l203 y203 z203
      obtain ⟨rfl, N203q, e203⟩ := hQ203
      have N203 := Fr.app N201 N203q
      have P204 : ∀ t, Steps p.tables e below (T203.setTop (mkF m 135 #[.val (.int p1), .val (.int p2), .val (.ref b2), .val (.int (1 : Int32)), .val (.int (1 : Int32)), .val (.ref v1), .val (.int (0 : Int32)), .val (.int (0 : Int32)), .val (.int (0 : Int32)), .unset, .unset] [(.int (1 : Int32))])) t → Steps p.tables e below (s₁.setTop (mkF m 0 #[.val (.int p1), .val (.int p2), .unset, .unset, .unset, .unset, .unset, .unset, .unset, .unset, .unset] [])) t := fun t k => P202 t (st203.trans k)
      have P205 : ∀ t, Steps p.tables e below (T203.setTop (mkF m 139 #[.val (.int p1), .val (.int p2), .val (.ref b2), .val (.int (1 : Int32)), .val (.int (1 : Int32)), .val (.ref v1), .val (.int (0 : Int32)), .val (.int (0 : Int32)), .val (.int (0 : Int32)), .val (.int (1 : Int32)), .unset] [(.int (1 : Int32))])) t → Steps p.tables e below (s₁.setTop (mkF m 0 #[.val (.int p1), .val (.int p2), .unset, .unset, .unset, .unset, .unset, .unset, .unset, .unset, .unset] [])) t := fun t k => by
        refine P204 t ?_
        show Steps p.tables e below (T203.setTop (mkF m 135 #[.val (.int p1), .val (.int p2), .val (.ref b2), .val (.int (1 : Int32)), .val (.int (1 : Int32)), .val (.ref v1), .val (.int (0 : Int32)), .val (.int (0 : Int32)), .val (.int (0 : Int32)), .unset, .unset] [(.int (1 : Int32))])) t
        refine XS.istore X203.here hx rfl (hb hby at_135) rfl (l' := #[.val (.int p1), .val (.int p2), .val (.ref b2), .val (.int (1 : Int32)), .val (.int (1 : Int32)), .val (.ref v1), .val (.int (0 : Int32)), .val (.int (0 : Int32)), .val (.int (0 : Int32)), .val (.int (1 : Int32)), .unset]) rfl ?_
        show Steps p.tables e below (T203.setTop (mkF m 137 #[.val (.int p1), .val (.int p2), .val (.ref b2), .val (.int (1 : Int32)), .val (.int (1 : Int32)), .val (.ref v1), .val (.int (0 : Int32)), .val (.int (0 : Int32)), .val (.int (0 : Int32)), .val (.int (1 : Int32)), .unset] [])) t
        refine XS.iload X203.here hx rfl (hb hby at_137) rfl ?_
        exact k
      obtain ⟨_, _, ⟨T206, L206, k206, n206⟩, -, X206, ⟨Lc206, hQ206, l206, y206, z206⟩, st206⟩ := Jvm.LawKit.callS X203 hx (y := (⟨"com/example/watermark/watermark/server/TransactionState$Phase", "complete", "(Z)Lcom/example/watermark/watermark/server/TransactionState$Phase;"⟩ : MethodName)) hown (mvT hZ (hw _ (List.mem_of_getElem? (i := 27) rfl))) (mvT hZ (hw _ (List.mem_of_getElem? (i := 28) rfl))) (mvT hZ (hw _ (List.mem_of_getElem? (i := 3) rfl))) (mvT hZ (hw _ (List.mem_of_getElem? (i := 29) rfl))) (by decide) (backOf (W := 0) (rm3t l Z a0 hw [] (1 : Int32) v4 h38 n0 Z_39 S4_38 (by decide)) hZ (hw _ (List.mem_of_getElem? (i := 29) rfl)) (hw _ (List.mem_of_getElem? (i := 3) rfl)) (by decide) (by decide)) (g := (mkF m 139 #[.val (.int p1), .val (.int p2), .val (.ref b2), .val (.int (1 : Int32)), .val (.int (1 : Int32)), .val (.ref v1), .val (.int (0 : Int32)), .val (.int (0 : Int32)), .val (.int (0 : Int32)), .val (.int (1 : Int32)), .unset] [(.int (1 : Int32))])) rfl (by rw [hml]; rfl) (argsL := [(.int (1 : Int32))]) (rest := []) (lenOf pd__Z_Lcom_example_watermark_watermark_server_TransactionState_Phase_ rfl) rfl (by show 2 * 0 + _ ≤ _; exact Nat.le_of_eq rfl) (hb hby at_139) (fun _ _ => ⟨rfl, e203, (by decide : 1 + 0 ≤ _), (by decide : 6 + 0 ≤ _)⟩)
      dsimp only [Pt.U, Pt.locs, Pt.cells, Pt.slots] at X206 l206 y206 z206 st206 hQ206
      subst l206 y206 z206
      obtain ⟨rfl, N206q, e206⟩ := hQ206
      have N206 := Fr.app N203 N206q
      have P207 : ∀ t, Steps p.tables e below (T206.setTop (mkF m 142 #[.val (.int p1), .val (.int p2), .val (.ref b2), .val (.int (1 : Int32)), .val (.int (1 : Int32)), .val (.ref v1), .val (.int (0 : Int32)), .val (.int (0 : Int32)), .val (.int (0 : Int32)), .val (.int (1 : Int32)), .unset] [(.ref v4)])) t → Steps p.tables e below (s₁.setTop (mkF m 0 #[.val (.int p1), .val (.int p2), .unset, .unset, .unset, .unset, .unset, .unset, .unset, .unset, .unset] [])) t := fun t k => P205 t (st206 _ k)
      obtain ⟨cq208, kq208, q208a, q208b, q208c⟩ := isOf hZ e206 EX4_38
      obtain ⟨_, _, ⟨T208, L208, k208, n208⟩, -, X208, ⟨Lc208, hQ208, l208, y208, z208⟩, st208⟩ := X206.virtualBack hx (y := (⟨"com/example/watermark/watermark/server/TransactionState$Phase", "isEnding", "()Z"⟩ : MethodName)) (z := (⟨"com/example/watermark/watermark/server/TransactionState$Phase", "isEnding", "()Z"⟩ : MethodName)) hown (mvT hZ (hw _ (List.mem_of_getElem? (i := 17) rfl))) (mvT hZ (hw _ (List.mem_of_getElem? (i := 18) rfl))) (notFace_of_selects (args := #[]) (mvT hZ (hw _ (List.mem_of_getElem? (i := 20) rfl)))) (mvT hZ (hw _ (List.mem_of_getElem? (i := 20) rfl))) (mvT hZ (hw _ (List.mem_of_getElem? (i := 19) rfl))) (by decide) (backOf (W := 0) (rm1n l Z a0 hw [] v4 v2 v3 h38 n0 Z_39 S2_38 S3_38 n2_4 n3_4) hZ (hw _ (List.mem_of_getElem? (i := 21) rfl)) (hw _ (List.mem_of_getElem? (i := 3) rfl)) (by decide) (by decide)) q208a q208c (g := (mkF m 142 #[.val (.int p1), .val (.int p2), .val (.ref b2), .val (.int (1 : Int32)), .val (.int (1 : Int32)), .val (.ref v1), .val (.int (0 : Int32)), .val (.int (0 : Int32)), .val (.int (0 : Int32)), .val (.int (1 : Int32)), .unset] [(.ref v4)])) rfl (by rw [hml]; rfl) (Steps.refl _) (argsL := []) (rest := []) (lenOf pd___Z rfl) rfl (by show 2 * 0 + _ ≤ _; exact Nat.le_of_eq rfl) (hb hby at_142) (fun _ _ => ⟨rfl, e206, (by decide : 1 + 0 ≤ _), (by decide : 6 + 0 ≤ _)⟩)
      dsimp only [Pt.U, Pt.locs, Pt.cells, Pt.slots] at X208 l208 y208 z208 st208 hQ208
      subst l208 y208 z208
      obtain ⟨rfl, N208q, e208⟩ := hQ208
      have N208 := Fr.app N206 N208q
      have P209 : ∀ t, Steps p.tables e below (T208.setTop (mkF m 145 #[.val (.int p1), .val (.int p2), .val (.ref b2), .val (.int (1 : Int32)), .val (.int (1 : Int32)), .val (.ref v1), .val (.int (0 : Int32)), .val (.int (0 : Int32)), .val (.int (0 : Int32)), .val (.int (1 : Int32)), .unset] [(.int (0 : Int32))])) t → Steps p.tables e below (s₁.setTop (mkF m 0 #[.val (.int p1), .val (.int p2), .unset, .unset, .unset, .unset, .unset, .unset, .unset, .unset, .unset] [])) t := fun t k => P207 t (st208.trans k)
      have P210 : ∀ t, Steps p.tables e below (T208.setTop (mkF m 176 #[.val (.int p1), .val (.int p2), .val (.ref b2), .val (.int (1 : Int32)), .val (.int (1 : Int32)), .val (.ref v1), .val (.int (0 : Int32)), .val (.int (0 : Int32)), .val (.int (0 : Int32)), .val (.int (1 : Int32)), .val (.int (0 : Int32))] [(.int (1 : Int32))])) t → Steps p.tables e below (s₁.setTop (mkF m 0 #[.val (.int p1), .val (.int p2), .unset, .unset, .unset, .unset, .unset, .unset, .unset, .unset, .unset] [])) t := fun t k => by
        refine P209 t ?_
        show Steps p.tables e below (T208.setTop (mkF m 145 #[.val (.int p1), .val (.int p2), .val (.ref b2), .val (.int (1 : Int32)), .val (.int (1 : Int32)), .val (.ref v1), .val (.int (0 : Int32)), .val (.int (0 : Int32)), .val (.int (0 : Int32)), .val (.int (1 : Int32)), .unset] [(.int (0 : Int32))])) t
        refine XS.istore X208.here hx rfl (hb hby at_145) rfl (l' := #[.val (.int p1), .val (.int p2), .val (.ref b2), .val (.int (1 : Int32)), .val (.int (1 : Int32)), .val (.ref v1), .val (.int (0 : Int32)), .val (.int (0 : Int32)), .val (.int (0 : Int32)), .val (.int (1 : Int32)), .val (.int (0 : Int32))]) rfl ?_
        show Steps p.tables e below (T208.setTop (mkF m 147 #[.val (.int p1), .val (.int p2), .val (.ref b2), .val (.int (1 : Int32)), .val (.int (1 : Int32)), .val (.ref v1), .val (.int (0 : Int32)), .val (.int (0 : Int32)), .val (.int (0 : Int32)), .val (.int (1 : Int32)), .val (.int (0 : Int32))] [])) t
        refine XS.iload X208.here hx rfl (hb hby at_147) rfl ?_
        show Steps p.tables e below (T208.setTop (mkF m 149 #[.val (.int p1), .val (.int p2), .val (.ref b2), .val (.int (1 : Int32)), .val (.int (1 : Int32)), .val (.ref v1), .val (.int (0 : Int32)), .val (.int (0 : Int32)), .val (.int (0 : Int32)), .val (.int (1 : Int32)), .val (.int (0 : Int32))] [(.int (0 : Int32))])) t
        refine XS.iload X208.here hx rfl (hb hby at_149) rfl ?_
        show Steps p.tables e below (T208.setTop (mkF m 151 #[.val (.int p1), .val (.int p2), .val (.ref b2), .val (.int (1 : Int32)), .val (.int (1 : Int32)), .val (.ref v1), .val (.int (0 : Int32)), .val (.int (0 : Int32)), .val (.int (0 : Int32)), .val (.int (1 : Int32)), .val (.int (0 : Int32))] [(.int (0 : Int32)), (.int (0 : Int32))])) t
        refine XS.icmpNo X208.here hx rfl (hb hby at_151) rfl (teq rfl).2 ?_
        show Steps p.tables e below (T208.setTop (mkF m 154 #[.val (.int p1), .val (.int p2), .val (.ref b2), .val (.int (1 : Int32)), .val (.int (1 : Int32)), .val (.ref v1), .val (.int (0 : Int32)), .val (.int (0 : Int32)), .val (.int (0 : Int32)), .val (.int (1 : Int32)), .val (.int (0 : Int32))] [])) t
        refine XS.iload X208.here hx rfl (hb hby at_154) rfl ?_
        show Steps p.tables e below (T208.setTop (mkF m 156 #[.val (.int p1), .val (.int p2), .val (.ref b2), .val (.int (1 : Int32)), .val (.int (1 : Int32)), .val (.ref v1), .val (.int (0 : Int32)), .val (.int (0 : Int32)), .val (.int (0 : Int32)), .val (.int (1 : Int32)), .val (.int (0 : Int32))] [(.int (0 : Int32))])) t
        refine XS.iload X208.here hx rfl (hb hby at_156) rfl ?_
        show Steps p.tables e below (T208.setTop (mkF m 158 #[.val (.int p1), .val (.int p2), .val (.ref b2), .val (.int (1 : Int32)), .val (.int (1 : Int32)), .val (.ref v1), .val (.int (0 : Int32)), .val (.int (0 : Int32)), .val (.int (0 : Int32)), .val (.int (1 : Int32)), .val (.int (0 : Int32))] [(.int (0 : Int32)), (.int (0 : Int32))])) t
        refine XS.icmpNo X208.here hx rfl (hb hby at_158) rfl (teq rfl).2 ?_
        show Steps p.tables e below (T208.setTop (mkF m 161 #[.val (.int p1), .val (.int p2), .val (.ref b2), .val (.int (1 : Int32)), .val (.int (1 : Int32)), .val (.ref v1), .val (.int (0 : Int32)), .val (.int (0 : Int32)), .val (.int (0 : Int32)), .val (.int (1 : Int32)), .val (.int (0 : Int32))] [])) t
        refine XS.iload X208.here hx rfl (hb hby at_161) rfl ?_
        show Steps p.tables e below (T208.setTop (mkF m 163 #[.val (.int p1), .val (.int p2), .val (.ref b2), .val (.int (1 : Int32)), .val (.int (1 : Int32)), .val (.ref v1), .val (.int (0 : Int32)), .val (.int (0 : Int32)), .val (.int (0 : Int32)), .val (.int (1 : Int32)), .val (.int (0 : Int32))] [(.int (1 : Int32))])) t
        refine XS.ifNo X208.here hx rfl (hb hby at_163) rfl ((if0 _ _).trans (feq (by decide)).1) ?_
        show Steps p.tables e below (T208.setTop (mkF m 166 #[.val (.int p1), .val (.int p2), .val (.ref b2), .val (.int (1 : Int32)), .val (.int (1 : Int32)), .val (.ref v1), .val (.int (0 : Int32)), .val (.int (0 : Int32)), .val (.int (0 : Int32)), .val (.int (1 : Int32)), .val (.int (0 : Int32))] [])) t
        refine XS.iload X208.here hx rfl (hb hby at_166) rfl ?_
        show Steps p.tables e below (T208.setTop (mkF m 168 #[.val (.int p1), .val (.int p2), .val (.ref b2), .val (.int (1 : Int32)), .val (.int (1 : Int32)), .val (.ref v1), .val (.int (0 : Int32)), .val (.int (0 : Int32)), .val (.int (0 : Int32)), .val (.int (1 : Int32)), .val (.int (0 : Int32))] [(.int (0 : Int32))])) t
        refine XS.ifNo X208.here hx rfl (hb hby at_168) rfl ((if0 _ _).trans (teq rfl).2) ?_
        show Steps p.tables e below (T208.setTop (mkF m 171 #[.val (.int p1), .val (.int p2), .val (.ref b2), .val (.int (1 : Int32)), .val (.int (1 : Int32)), .val (.ref v1), .val (.int (0 : Int32)), .val (.int (0 : Int32)), .val (.int (0 : Int32)), .val (.int (1 : Int32)), .val (.int (0 : Int32))] [])) t
        refine XS.iconst X208.here hx rfl (hb hby at_171) ?_
        show Steps p.tables e below (T208.setTop (mkF m 172 #[.val (.int p1), .val (.int p2), .val (.ref b2), .val (.int (1 : Int32)), .val (.int (1 : Int32)), .val (.ref v1), .val (.int (0 : Int32)), .val (.int (0 : Int32)), .val (.int (0 : Int32)), .val (.int (1 : Int32)), .val (.int (0 : Int32))] [(.int (1 : Int32))])) t
        refine XS.goto X208.here hx rfl (pc0 := 172) (pc' := 176) rfl (hb hby at_172) (by decide) (by decide) ?_
        exact k
      obtain ⟨fs, hr, hrun, hended, hW, hsame⟩ := X208.leave (v := some (.int (1 : Int32))) (fun h => by rw [Bd.returns] at h; cases h)
      refine ⟨_, _, pre0 _ (P210 _ ?_), hrun, hended, _, _, rfl, ?_, ⟨_, rfl⟩, hW, hsame.mono (by decide) (by decide)⟩
      · exact retN X208 hx (t := .boolean) Bd.returns (by simp) (hb hby at_176) hr
      · show Q0 Z p1 p2 v0 v1 v2 v3 v4 v5 h0 n0 _ T208.heap _
        rw [e208]
        exact ⟨rfl, N208⟩
    · obtain ⟨cl211, Ar211, q211, S211_, N211_, H211_, G211_⟩ := V_b2_38
      have hin211 : ¬ ((2 : Int32) < 0 ∨ cl211.slots.size ≤ ((2 : Int32)).toNatClampNeg) := inb_of S211_ ⟨by decide, by decide⟩
      have P212 : ∀ t, Steps p.tables e below (T38.setTop (mkF m 87 #[.val (.int p1), .val (.int p2), .val (.ref b2), .val (.int (2 : Int32)), .val (.int (1 : Int32)), .val (.ref v2), .val (.int (1 : Int32)), .unset, .unset, .unset, .unset] [(.ref v2)])) t → Steps p.tables e below (s₁.setTop (mkF m 0 #[.val (.int p1), .val (.int p2), .unset, .unset, .unset, .unset, .unset, .unset, .unset, .unset, .unset] [])) t := fun t k => by
        refine P168 t ?_
        show Steps p.tables e below (T38.setTop (mkF m 63 #[.val (.int p1), .val (.int p2), .val (.ref b2), .val (.int (2 : Int32)), .val (.int (1 : Int32)), .unset, .unset, .unset, .unset, .unset, .unset] [])) t
        refine XS.aloadN X38.here hx rfl (hb hby at_63) rfl rfl ?_
        show Steps p.tables e below (T38.setTop (mkF m 64 #[.val (.int p1), .val (.int p2), .val (.ref b2), .val (.int (2 : Int32)), .val (.int (1 : Int32)), .unset, .unset, .unset, .unset, .unset, .unset] [(.ref b2)])) t
        refine XS.iloadN X38.here hx rfl (hb hby at_64) rfl ?_
        show Steps p.tables e below (T38.setTop (mkF m 65 #[.val (.int p1), .val (.int p2), .val (.ref b2), .val (.int (2 : Int32)), .val (.int (1 : Int32)), .unset, .unset, .unset, .unset, .unset, .unset] [(.int (2 : Int32)), (.ref b2)])) t
        refine X38.aaload hx (j := (2 : Int32)) (v := (.ref v2)) (by rw [e38]; exact Ar211.1) (State.isArrayOf_alike hZ.alike Ar211.2.1) rfl Ar211.2.2 hin211 (Has.at H211_ hin211 rfl) (g := (mkF m 65 #[.val (.int p1), .val (.int p2), .val (.ref b2), .val (.int (2 : Int32)), .val (.int (1 : Int32)), .unset, .unset, .unset, .unset, .unset, .unset] [(.int (2 : Int32)), (.ref b2)])) rfl rfl (hb hby at_65) _ ?_
        show Steps p.tables e below (T38.setTop (mkF m 66 #[.val (.int p1), .val (.int p2), .val (.ref b2), .val (.int (2 : Int32)), .val (.int (1 : Int32)), .unset, .unset, .unset, .unset, .unset, .unset] [(.ref v2)])) t
        refine XS.astore X38.here hx rfl (hb hby at_66) rfl rfl (l' := #[.val (.int p1), .val (.int p2), .val (.ref b2), .val (.int (2 : Int32)), .val (.int (1 : Int32)), .val (.ref v2), .unset, .unset, .unset, .unset, .unset]) rfl ?_
        show Steps p.tables e below (T38.setTop (mkF m 68 #[.val (.int p1), .val (.int p2), .val (.ref b2), .val (.int (2 : Int32)), .val (.int (1 : Int32)), .val (.ref v2), .unset, .unset, .unset, .unset, .unset] [])) t
        refine XS.iloadN X38.here hx rfl (hb hby at_68) rfl ?_
        show Steps p.tables e below (T38.setTop (mkF m 69 #[.val (.int p1), .val (.int p2), .val (.ref b2), .val (.int (2 : Int32)), .val (.int (1 : Int32)), .val (.ref v2), .unset, .unset, .unset, .unset, .unset] [(.int (2 : Int32))])) t
        refine XS.iconst X38.here hx rfl (hb hby at_69) ?_
        show Steps p.tables e below (T38.setTop (mkF m 70 #[.val (.int p1), .val (.int p2), .val (.ref b2), .val (.int (2 : Int32)), .val (.int (1 : Int32)), .val (.ref v2), .unset, .unset, .unset, .unset, .unset] [(.int (2 : Int32)), (.int (2 : Int32))])) t
        refine XS.icmpYes X38.here hx rfl (pc0 := 70) (pc' := 78) rfl (hb hby at_70) rfl (teq rfl).1 (by decide) (by decide) ?_
        show Steps p.tables e below (T38.setTop (mkF m 78 #[.val (.int p1), .val (.int p2), .val (.ref b2), .val (.int (2 : Int32)), .val (.int (1 : Int32)), .val (.ref v2), .unset, .unset, .unset, .unset, .unset] [])) t
        refine XS.iconst X38.here hx rfl (hb hby at_78) ?_
        show Steps p.tables e below (T38.setTop (mkF m 79 #[.val (.int p1), .val (.int p2), .val (.ref b2), .val (.int (2 : Int32)), .val (.int (1 : Int32)), .val (.ref v2), .unset, .unset, .unset, .unset, .unset] [(.int (1 : Int32))])) t
        refine XS.goto X38.here hx rfl (pc0 := 79) (pc' := 83) rfl (hb hby at_79) (by decide) (by decide) ?_
        show Steps p.tables e below (T38.setTop (mkF m 83 #[.val (.int p1), .val (.int p2), .val (.ref b2), .val (.int (2 : Int32)), .val (.int (1 : Int32)), .val (.ref v2), .unset, .unset, .unset, .unset, .unset] [(.int (1 : Int32))])) t
        refine XS.istore X38.here hx rfl (hb hby at_83) rfl (l' := #[.val (.int p1), .val (.int p2), .val (.ref b2), .val (.int (2 : Int32)), .val (.int (1 : Int32)), .val (.ref v2), .val (.int (1 : Int32)), .unset, .unset, .unset, .unset]) rfl ?_
        show Steps p.tables e below (T38.setTop (mkF m 85 #[.val (.int p1), .val (.int p2), .val (.ref b2), .val (.int (2 : Int32)), .val (.int (1 : Int32)), .val (.ref v2), .val (.int (1 : Int32)), .unset, .unset, .unset, .unset] [])) t
        refine XS.aload X38.here hx rfl (hb hby at_85) rfl rfl ?_
        exact k
      obtain ⟨cq213, kq213, q213a, q213b, q213c⟩ := isOf hZ e38 EX2_38
      obtain ⟨_, _, ⟨T213, L213, k213, n213⟩, -, X213, ⟨Lc213, hQ213, l213, y213, z213⟩, st213⟩ := X38.virtualBack hx (y := (⟨"com/example/watermark/watermark/server/TransactionState$Phase", "isEnding", "()Z"⟩ : MethodName)) (z := (⟨"com/example/watermark/watermark/server/TransactionState$Phase", "isEnding", "()Z"⟩ : MethodName)) hown (mvT hZ (hw _ (List.mem_of_getElem? (i := 17) rfl))) (mvT hZ (hw _ (List.mem_of_getElem? (i := 18) rfl))) (notFace_of_selects (args := #[]) (mvT hZ (hw _ (List.mem_of_getElem? (i := 20) rfl)))) (mvT hZ (hw _ (List.mem_of_getElem? (i := 20) rfl))) (mvT hZ (hw _ (List.mem_of_getElem? (i := 19) rfl))) (by decide) (backOf (W := 0) (rm1c l Z a0 hw [] v2 v2 v3 h38 n0 Z_39 S2_38 S3_38 rfl) hZ (hw _ (List.mem_of_getElem? (i := 21) rfl)) (hw _ (List.mem_of_getElem? (i := 3) rfl)) (by decide) (by decide)) q213a q213c (g := (mkF m 87 #[.val (.int p1), .val (.int p2), .val (.ref b2), .val (.int (2 : Int32)), .val (.int (1 : Int32)), .val (.ref v2), .val (.int (1 : Int32)), .unset, .unset, .unset, .unset] [(.ref v2)])) rfl (by rw [hml]; rfl) (Steps.refl _) (argsL := []) (rest := []) (lenOf pd___Z rfl) rfl (by show 2 * 0 + _ ≤ _; exact Nat.le_of_eq rfl) (hb hby at_87) (fun _ _ => ⟨rfl, e38, (by decide : 1 + 0 ≤ _), (by decide : 6 + 0 ≤ _)⟩)
      dsimp only [Pt.U, Pt.locs, Pt.cells, Pt.slots] at X213 l213 y213 z213 st213 hQ213
      subst l213 y213 z213
      obtain ⟨rfl, N213q, e213⟩ := hQ213
      have N213 := Fr.app N38 N213q
      have P214 : ∀ t, Steps p.tables e below (T213.setTop (mkF m 90 #[.val (.int p1), .val (.int p2), .val (.ref b2), .val (.int (2 : Int32)), .val (.int (1 : Int32)), .val (.ref v2), .val (.int (1 : Int32)), .unset, .unset, .unset, .unset] [(.int (1 : Int32))])) t → Steps p.tables e below (s₁.setTop (mkF m 0 #[.val (.int p1), .val (.int p2), .unset, .unset, .unset, .unset, .unset, .unset, .unset, .unset, .unset] [])) t := fun t k => P212 t (st213.trans k)
      have P215 : ∀ t, Steps p.tables e below (T213.setTop (mkF m 96 #[.val (.int p1), .val (.int p2), .val (.ref b2), .val (.int (2 : Int32)), .val (.int (1 : Int32)), .val (.ref v2), .val (.int (1 : Int32)), .val (.int (1 : Int32)), .unset, .unset, .unset] [(.int (1 : Int32)), (.ref v2)])) t → Steps p.tables e below (s₁.setTop (mkF m 0 #[.val (.int p1), .val (.int p2), .unset, .unset, .unset, .unset, .unset, .unset, .unset, .unset, .unset] [])) t := fun t k => by
        refine P214 t ?_
        show Steps p.tables e below (T213.setTop (mkF m 90 #[.val (.int p1), .val (.int p2), .val (.ref b2), .val (.int (2 : Int32)), .val (.int (1 : Int32)), .val (.ref v2), .val (.int (1 : Int32)), .unset, .unset, .unset, .unset] [(.int (1 : Int32))])) t
        refine XS.istore X213.here hx rfl (hb hby at_90) rfl (l' := #[.val (.int p1), .val (.int p2), .val (.ref b2), .val (.int (2 : Int32)), .val (.int (1 : Int32)), .val (.ref v2), .val (.int (1 : Int32)), .val (.int (1 : Int32)), .unset, .unset, .unset]) rfl ?_
        show Steps p.tables e below (T213.setTop (mkF m 92 #[.val (.int p1), .val (.int p2), .val (.ref b2), .val (.int (2 : Int32)), .val (.int (1 : Int32)), .val (.ref v2), .val (.int (1 : Int32)), .val (.int (1 : Int32)), .unset, .unset, .unset] [])) t
        refine XS.aload X213.here hx rfl (hb hby at_92) rfl rfl ?_
        show Steps p.tables e below (T213.setTop (mkF m 94 #[.val (.int p1), .val (.int p2), .val (.ref b2), .val (.int (2 : Int32)), .val (.int (1 : Int32)), .val (.ref v2), .val (.int (1 : Int32)), .val (.int (1 : Int32)), .unset, .unset, .unset] [(.ref v2)])) t
        refine XS.iload X213.here hx rfl (hb hby at_94) rfl ?_
        exact k
      obtain ⟨_, _, ⟨T216, L216, k216, n216⟩, -, X216, ⟨Lc216, hQ216, l216, y216, z216⟩, st216⟩ := Jvm.LawKit.callS X213 hx (y := (⟨"com/example/watermark/watermark/server/TransactionState$Phase", "prepare", "(Z)Lcom/example/watermark/watermark/server/TransactionState$Phase;"⟩ : MethodName)) hown (mvT hZ (hw _ (List.mem_of_getElem? (i := 24) rfl))) (mvT hZ (hw _ (List.mem_of_getElem? (i := 25) rfl))) (mvT hZ (hw _ (List.mem_of_getElem? (i := 3) rfl))) (mvT hZ (hw _ (List.mem_of_getElem? (i := 26) rfl))) (by decide) (backOf (W := 1) (rm2t l Z a0 hw [] (1 : Int32) v2 h38 n0 Z_39 S2_38 (by decide)) hZ (hw _ (List.mem_of_getElem? (i := 26) rfl)) (hw _ (List.mem_of_getElem? (i := 3) rfl)) (by decide) (by decide)) (g := (mkF m 96 #[.val (.int p1), .val (.int p2), .val (.ref b2), .val (.int (2 : Int32)), .val (.int (1 : Int32)), .val (.ref v2), .val (.int (1 : Int32)), .val (.int (1 : Int32)), .unset, .unset, .unset] [(.int (1 : Int32)), (.ref v2)])) rfl (by rw [hml]; rfl) (argsL := [(.int (1 : Int32))]) (rest := [(.ref v2)]) (lenOf pd__Z_Lcom_example_watermark_watermark_server_TransactionState_Phase_ rfl) rfl (by show 2 * 0 + _ ≤ _; exact Nat.le_of_eq rfl) (hb hby at_96) (fun _ _ => ⟨rfl, e213, (by decide : 1 + 0 ≤ _), (by decide : 6 + 0 ≤ _)⟩)
      dsimp only [Pt.U, Pt.locs, Pt.cells, Pt.slots] at X216 l216 y216 z216 st216 hQ216
      subst l216 y216 z216
      obtain ⟨rfl, N216q, e216⟩ := hQ216
      have N216 := Fr.app N213 N216q
      have P217 : ∀ t, Steps p.tables e below (T216.setTop (mkF m 99 #[.val (.int p1), .val (.int p2), .val (.ref b2), .val (.int (2 : Int32)), .val (.int (1 : Int32)), .val (.ref v2), .val (.int (1 : Int32)), .val (.int (1 : Int32)), .unset, .unset, .unset] [(.ref v2), (.ref v2)])) t → Steps p.tables e below (s₁.setTop (mkF m 0 #[.val (.int p1), .val (.int p2), .unset, .unset, .unset, .unset, .unset, .unset, .unset, .unset, .unset] [])) t := fun t k => P215 t (st216 _ k)
      have P218 : ∀ t, Steps p.tables e below (T216.setTop (mkF m 129 #[.val (.int p1), .val (.int p2), .val (.ref b2), .val (.int (2 : Int32)), .val (.int (1 : Int32)), .val (.ref v2), .val (.int (1 : Int32)), .val (.int (1 : Int32)), .val (.int (1 : Int32)), .unset, .unset] [(.int (1 : Int32))])) t → Steps p.tables e below (s₁.setTop (mkF m 0 #[.val (.int p1), .val (.int p2), .unset, .unset, .unset, .unset, .unset, .unset, .unset, .unset, .unset] [])) t := fun t k => by
        refine P217 t ?_
        show Steps p.tables e below (T216.setTop (mkF m 99 #[.val (.int p1), .val (.int p2), .val (.ref b2), .val (.int (2 : Int32)), .val (.int (1 : Int32)), .val (.ref v2), .val (.int (1 : Int32)), .val (.int (1 : Int32)), .unset, .unset, .unset] [(.ref v2), (.ref v2)])) t
        refine Jvm.RoadKit.acmp (g := (mkF m 99 #[.val (.int p1), .val (.int p2), .val (.ref b2), .val (.int (2 : Int32)), .val (.int (1 : Int32)), .val (.ref v2), .val (.int (1 : Int32)), .val (.int (1 : Int32)), .unset, .unset, .unset] [(.ref v2), (.ref v2)])) X216 hx rfl rfl rfl (pc0 := 99) (pc' := 120) (same := true) rfl (hb hby at_99) rfl (decide_eq_true rfl) (by decide) (by decide) ?_
        show Steps p.tables e below (T216.setTop (mkF m 120 #[.val (.int p1), .val (.int p2), .val (.ref b2), .val (.int (2 : Int32)), .val (.int (1 : Int32)), .val (.ref v2), .val (.int (1 : Int32)), .val (.int (1 : Int32)), .unset, .unset, .unset] [])) t
        refine XS.iconst X216.here hx rfl (hb hby at_120) ?_
        show Steps p.tables e below (T216.setTop (mkF m 121 #[.val (.int p1), .val (.int p2), .val (.ref b2), .val (.int (2 : Int32)), .val (.int (1 : Int32)), .val (.ref v2), .val (.int (1 : Int32)), .val (.int (1 : Int32)), .unset, .unset, .unset] [(.int (1 : Int32))])) t
        refine XS.goto X216.here hx rfl (pc0 := 121) (pc' := 125) rfl (hb hby at_121) (by decide) (by decide) ?_
        show Steps p.tables e below (T216.setTop (mkF m 125 #[.val (.int p1), .val (.int p2), .val (.ref b2), .val (.int (2 : Int32)), .val (.int (1 : Int32)), .val (.ref v2), .val (.int (1 : Int32)), .val (.int (1 : Int32)), .unset, .unset, .unset] [(.int (1 : Int32))])) t
        refine XS.istore X216.here hx rfl (hb hby at_125) rfl (l' := #[.val (.int p1), .val (.int p2), .val (.ref b2), .val (.int (2 : Int32)), .val (.int (1 : Int32)), .val (.ref v2), .val (.int (1 : Int32)), .val (.int (1 : Int32)), .val (.int (1 : Int32)), .unset, .unset]) rfl ?_
        show Steps p.tables e below (T216.setTop (mkF m 127 #[.val (.int p1), .val (.int p2), .val (.ref b2), .val (.int (2 : Int32)), .val (.int (1 : Int32)), .val (.ref v2), .val (.int (1 : Int32)), .val (.int (1 : Int32)), .val (.int (1 : Int32)), .unset, .unset] [])) t
        refine XS.iload X216.here hx rfl (hb hby at_127) rfl ?_
        exact k
      obtain ⟨_, _, ⟨T219, L219, k219, n219⟩, -, X219, ⟨Lc219, hQ219, l219, y219, z219⟩, st219⟩ := Jvm.LawKit.callS X216 hx (y := (⟨"com/example/watermark/watermark/server/TransactionState$Phase", "prepare", "(Z)Lcom/example/watermark/watermark/server/TransactionState$Phase;"⟩ : MethodName)) hown (mvT hZ (hw _ (List.mem_of_getElem? (i := 24) rfl))) (mvT hZ (hw _ (List.mem_of_getElem? (i := 25) rfl))) (mvT hZ (hw _ (List.mem_of_getElem? (i := 3) rfl))) (mvT hZ (hw _ (List.mem_of_getElem? (i := 26) rfl))) (by decide) (backOf (W := 0) (rm2t l Z a0 hw [] (1 : Int32) v2 h38 n0 Z_39 S2_38 (by decide)) hZ (hw _ (List.mem_of_getElem? (i := 26) rfl)) (hw _ (List.mem_of_getElem? (i := 3) rfl)) (by decide) (by decide)) (g := (mkF m 129 #[.val (.int p1), .val (.int p2), .val (.ref b2), .val (.int (2 : Int32)), .val (.int (1 : Int32)), .val (.ref v2), .val (.int (1 : Int32)), .val (.int (1 : Int32)), .val (.int (1 : Int32)), .unset, .unset] [(.int (1 : Int32))])) rfl (by rw [hml]; rfl) (argsL := [(.int (1 : Int32))]) (rest := []) (lenOf pd__Z_Lcom_example_watermark_watermark_server_TransactionState_Phase_ rfl) rfl (by show 2 * 0 + _ ≤ _; exact Nat.le_of_eq rfl) (hb hby at_129) (fun _ _ => ⟨rfl, e216, (by decide : 1 + 0 ≤ _), (by decide : 6 + 0 ≤ _)⟩)
      dsimp only [Pt.U, Pt.locs, Pt.cells, Pt.slots] at X219 l219 y219 z219 st219 hQ219
      subst l219 y219 z219
      obtain ⟨rfl, N219q, e219⟩ := hQ219
      have N219 := Fr.app N216 N219q
      have P220 : ∀ t, Steps p.tables e below (T219.setTop (mkF m 132 #[.val (.int p1), .val (.int p2), .val (.ref b2), .val (.int (2 : Int32)), .val (.int (1 : Int32)), .val (.ref v2), .val (.int (1 : Int32)), .val (.int (1 : Int32)), .val (.int (1 : Int32)), .unset, .unset] [(.ref v2)])) t → Steps p.tables e below (s₁.setTop (mkF m 0 #[.val (.int p1), .val (.int p2), .unset, .unset, .unset, .unset, .unset, .unset, .unset, .unset, .unset] [])) t := fun t k => P218 t (st219 _ k)
      obtain ⟨cq221, kq221, q221a, q221b, q221c⟩ := isOf hZ e219 EX2_38
      obtain ⟨_, _, ⟨T221, L221, k221, n221⟩, -, X221, ⟨Lc221, hQ221, l221, y221, z221⟩, st221⟩ := X219.virtualBack hx (y := (⟨"com/example/watermark/watermark/server/TransactionState$Phase", "isEnding", "()Z"⟩ : MethodName)) (z := (⟨"com/example/watermark/watermark/server/TransactionState$Phase", "isEnding", "()Z"⟩ : MethodName)) hown (mvT hZ (hw _ (List.mem_of_getElem? (i := 17) rfl))) (mvT hZ (hw _ (List.mem_of_getElem? (i := 18) rfl))) (notFace_of_selects (args := #[]) (mvT hZ (hw _ (List.mem_of_getElem? (i := 20) rfl)))) (mvT hZ (hw _ (List.mem_of_getElem? (i := 20) rfl))) (mvT hZ (hw _ (List.mem_of_getElem? (i := 19) rfl))) (by decide) (backOf (W := 0) (rm1c l Z a0 hw [] v2 v2 v3 h38 n0 Z_39 S2_38 S3_38 rfl) hZ (hw _ (List.mem_of_getElem? (i := 21) rfl)) (hw _ (List.mem_of_getElem? (i := 3) rfl)) (by decide) (by decide)) q221a q221c (g := (mkF m 132 #[.val (.int p1), .val (.int p2), .val (.ref b2), .val (.int (2 : Int32)), .val (.int (1 : Int32)), .val (.ref v2), .val (.int (1 : Int32)), .val (.int (1 : Int32)), .val (.int (1 : Int32)), .unset, .unset] [(.ref v2)])) rfl (by rw [hml]; rfl) (Steps.refl _) (argsL := []) (rest := []) (lenOf pd___Z rfl) rfl (by show 2 * 0 + _ ≤ _; exact Nat.le_of_eq rfl) (hb hby at_132) (fun _ _ => ⟨rfl, e219, (by decide : 1 + 0 ≤ _), (by decide : 6 + 0 ≤ _)⟩)
      dsimp only [Pt.U, Pt.locs, Pt.cells, Pt.slots] at X221 l221 y221 z221 st221 hQ221
      subst l221 y221 z221
      obtain ⟨rfl, N221q, e221⟩ := hQ221
      have N221 := Fr.app N219 N221q
      have P222 : ∀ t, Steps p.tables e below (T221.setTop (mkF m 135 #[.val (.int p1), .val (.int p2), .val (.ref b2), .val (.int (2 : Int32)), .val (.int (1 : Int32)), .val (.ref v2), .val (.int (1 : Int32)), .val (.int (1 : Int32)), .val (.int (1 : Int32)), .unset, .unset] [(.int (1 : Int32))])) t → Steps p.tables e below (s₁.setTop (mkF m 0 #[.val (.int p1), .val (.int p2), .unset, .unset, .unset, .unset, .unset, .unset, .unset, .unset, .unset] [])) t := fun t k => P220 t (st221.trans k)
      have P223 : ∀ t, Steps p.tables e below (T221.setTop (mkF m 139 #[.val (.int p1), .val (.int p2), .val (.ref b2), .val (.int (2 : Int32)), .val (.int (1 : Int32)), .val (.ref v2), .val (.int (1 : Int32)), .val (.int (1 : Int32)), .val (.int (1 : Int32)), .val (.int (1 : Int32)), .unset] [(.int (1 : Int32))])) t → Steps p.tables e below (s₁.setTop (mkF m 0 #[.val (.int p1), .val (.int p2), .unset, .unset, .unset, .unset, .unset, .unset, .unset, .unset, .unset] [])) t := fun t k => by
        refine P222 t ?_
        show Steps p.tables e below (T221.setTop (mkF m 135 #[.val (.int p1), .val (.int p2), .val (.ref b2), .val (.int (2 : Int32)), .val (.int (1 : Int32)), .val (.ref v2), .val (.int (1 : Int32)), .val (.int (1 : Int32)), .val (.int (1 : Int32)), .unset, .unset] [(.int (1 : Int32))])) t
        refine XS.istore X221.here hx rfl (hb hby at_135) rfl (l' := #[.val (.int p1), .val (.int p2), .val (.ref b2), .val (.int (2 : Int32)), .val (.int (1 : Int32)), .val (.ref v2), .val (.int (1 : Int32)), .val (.int (1 : Int32)), .val (.int (1 : Int32)), .val (.int (1 : Int32)), .unset]) rfl ?_
        show Steps p.tables e below (T221.setTop (mkF m 137 #[.val (.int p1), .val (.int p2), .val (.ref b2), .val (.int (2 : Int32)), .val (.int (1 : Int32)), .val (.ref v2), .val (.int (1 : Int32)), .val (.int (1 : Int32)), .val (.int (1 : Int32)), .val (.int (1 : Int32)), .unset] [])) t
        refine XS.iload X221.here hx rfl (hb hby at_137) rfl ?_
        exact k
      obtain ⟨_, _, ⟨T224, L224, k224, n224⟩, -, X224, ⟨Lc224, hQ224, l224, y224, z224⟩, st224⟩ := Jvm.LawKit.callS X221 hx (y := (⟨"com/example/watermark/watermark/server/TransactionState$Phase", "complete", "(Z)Lcom/example/watermark/watermark/server/TransactionState$Phase;"⟩ : MethodName)) hown (mvT hZ (hw _ (List.mem_of_getElem? (i := 27) rfl))) (mvT hZ (hw _ (List.mem_of_getElem? (i := 28) rfl))) (mvT hZ (hw _ (List.mem_of_getElem? (i := 3) rfl))) (mvT hZ (hw _ (List.mem_of_getElem? (i := 29) rfl))) (by decide) (backOf (W := 0) (rm3t l Z a0 hw [] (1 : Int32) v4 h38 n0 Z_39 S4_38 (by decide)) hZ (hw _ (List.mem_of_getElem? (i := 29) rfl)) (hw _ (List.mem_of_getElem? (i := 3) rfl)) (by decide) (by decide)) (g := (mkF m 139 #[.val (.int p1), .val (.int p2), .val (.ref b2), .val (.int (2 : Int32)), .val (.int (1 : Int32)), .val (.ref v2), .val (.int (1 : Int32)), .val (.int (1 : Int32)), .val (.int (1 : Int32)), .val (.int (1 : Int32)), .unset] [(.int (1 : Int32))])) rfl (by rw [hml]; rfl) (argsL := [(.int (1 : Int32))]) (rest := []) (lenOf pd__Z_Lcom_example_watermark_watermark_server_TransactionState_Phase_ rfl) rfl (by show 2 * 0 + _ ≤ _; exact Nat.le_of_eq rfl) (hb hby at_139) (fun _ _ => ⟨rfl, e221, (by decide : 1 + 0 ≤ _), (by decide : 6 + 0 ≤ _)⟩)
      dsimp only [Pt.U, Pt.locs, Pt.cells, Pt.slots] at X224 l224 y224 z224 st224 hQ224
      subst l224 y224 z224
      obtain ⟨rfl, N224q, e224⟩ := hQ224
      have N224 := Fr.app N221 N224q
      have P225 : ∀ t, Steps p.tables e below (T224.setTop (mkF m 142 #[.val (.int p1), .val (.int p2), .val (.ref b2), .val (.int (2 : Int32)), .val (.int (1 : Int32)), .val (.ref v2), .val (.int (1 : Int32)), .val (.int (1 : Int32)), .val (.int (1 : Int32)), .val (.int (1 : Int32)), .unset] [(.ref v4)])) t → Steps p.tables e below (s₁.setTop (mkF m 0 #[.val (.int p1), .val (.int p2), .unset, .unset, .unset, .unset, .unset, .unset, .unset, .unset, .unset] [])) t := fun t k => P223 t (st224 _ k)
      obtain ⟨cq226, kq226, q226a, q226b, q226c⟩ := isOf hZ e224 EX4_38
      obtain ⟨_, _, ⟨T226, L226, k226, n226⟩, -, X226, ⟨Lc226, hQ226, l226, y226, z226⟩, st226⟩ := X224.virtualBack hx (y := (⟨"com/example/watermark/watermark/server/TransactionState$Phase", "isEnding", "()Z"⟩ : MethodName)) (z := (⟨"com/example/watermark/watermark/server/TransactionState$Phase", "isEnding", "()Z"⟩ : MethodName)) hown (mvT hZ (hw _ (List.mem_of_getElem? (i := 17) rfl))) (mvT hZ (hw _ (List.mem_of_getElem? (i := 18) rfl))) (notFace_of_selects (args := #[]) (mvT hZ (hw _ (List.mem_of_getElem? (i := 20) rfl)))) (mvT hZ (hw _ (List.mem_of_getElem? (i := 20) rfl))) (mvT hZ (hw _ (List.mem_of_getElem? (i := 19) rfl))) (by decide) (backOf (W := 0) (rm1n l Z a0 hw [] v4 v2 v3 h38 n0 Z_39 S2_38 S3_38 n2_4 n3_4) hZ (hw _ (List.mem_of_getElem? (i := 21) rfl)) (hw _ (List.mem_of_getElem? (i := 3) rfl)) (by decide) (by decide)) q226a q226c (g := (mkF m 142 #[.val (.int p1), .val (.int p2), .val (.ref b2), .val (.int (2 : Int32)), .val (.int (1 : Int32)), .val (.ref v2), .val (.int (1 : Int32)), .val (.int (1 : Int32)), .val (.int (1 : Int32)), .val (.int (1 : Int32)), .unset] [(.ref v4)])) rfl (by rw [hml]; rfl) (Steps.refl _) (argsL := []) (rest := []) (lenOf pd___Z rfl) rfl (by show 2 * 0 + _ ≤ _; exact Nat.le_of_eq rfl) (hb hby at_142) (fun _ _ => ⟨rfl, e224, (by decide : 1 + 0 ≤ _), (by decide : 6 + 0 ≤ _)⟩)
      dsimp only [Pt.U, Pt.locs, Pt.cells, Pt.slots] at X226 l226 y226 z226 st226 hQ226
      subst l226 y226 z226
      obtain ⟨rfl, N226q, e226⟩ := hQ226
      have N226 := Fr.app N224 N226q
      have P227 : ∀ t, Steps p.tables e below (T226.setTop (mkF m 145 #[.val (.int p1), .val (.int p2), .val (.ref b2), .val (.int (2 : Int32)), .val (.int (1 : Int32)), .val (.ref v2), .val (.int (1 : Int32)), .val (.int (1 : Int32)), .val (.int (1 : Int32)), .val (.int (1 : Int32)), .unset] [(.int (0 : Int32))])) t → Steps p.tables e below (s₁.setTop (mkF m 0 #[.val (.int p1), .val (.int p2), .unset, .unset, .unset, .unset, .unset, .unset, .unset, .unset, .unset] [])) t := fun t k => P225 t (st226.trans k)
      have P228 : ∀ t, Steps p.tables e below (T226.setTop (mkF m 176 #[.val (.int p1), .val (.int p2), .val (.ref b2), .val (.int (2 : Int32)), .val (.int (1 : Int32)), .val (.ref v2), .val (.int (1 : Int32)), .val (.int (1 : Int32)), .val (.int (1 : Int32)), .val (.int (1 : Int32)), .val (.int (0 : Int32))] [(.int (1 : Int32))])) t → Steps p.tables e below (s₁.setTop (mkF m 0 #[.val (.int p1), .val (.int p2), .unset, .unset, .unset, .unset, .unset, .unset, .unset, .unset, .unset] [])) t := fun t k => by
        refine P227 t ?_
        show Steps p.tables e below (T226.setTop (mkF m 145 #[.val (.int p1), .val (.int p2), .val (.ref b2), .val (.int (2 : Int32)), .val (.int (1 : Int32)), .val (.ref v2), .val (.int (1 : Int32)), .val (.int (1 : Int32)), .val (.int (1 : Int32)), .val (.int (1 : Int32)), .unset] [(.int (0 : Int32))])) t
        refine XS.istore X226.here hx rfl (hb hby at_145) rfl (l' := #[.val (.int p1), .val (.int p2), .val (.ref b2), .val (.int (2 : Int32)), .val (.int (1 : Int32)), .val (.ref v2), .val (.int (1 : Int32)), .val (.int (1 : Int32)), .val (.int (1 : Int32)), .val (.int (1 : Int32)), .val (.int (0 : Int32))]) rfl ?_
        show Steps p.tables e below (T226.setTop (mkF m 147 #[.val (.int p1), .val (.int p2), .val (.ref b2), .val (.int (2 : Int32)), .val (.int (1 : Int32)), .val (.ref v2), .val (.int (1 : Int32)), .val (.int (1 : Int32)), .val (.int (1 : Int32)), .val (.int (1 : Int32)), .val (.int (0 : Int32))] [])) t
        refine XS.iload X226.here hx rfl (hb hby at_147) rfl ?_
        show Steps p.tables e below (T226.setTop (mkF m 149 #[.val (.int p1), .val (.int p2), .val (.ref b2), .val (.int (2 : Int32)), .val (.int (1 : Int32)), .val (.ref v2), .val (.int (1 : Int32)), .val (.int (1 : Int32)), .val (.int (1 : Int32)), .val (.int (1 : Int32)), .val (.int (0 : Int32))] [(.int (1 : Int32))])) t
        refine XS.iload X226.here hx rfl (hb hby at_149) rfl ?_
        show Steps p.tables e below (T226.setTop (mkF m 151 #[.val (.int p1), .val (.int p2), .val (.ref b2), .val (.int (2 : Int32)), .val (.int (1 : Int32)), .val (.ref v2), .val (.int (1 : Int32)), .val (.int (1 : Int32)), .val (.int (1 : Int32)), .val (.int (1 : Int32)), .val (.int (0 : Int32))] [(.int (1 : Int32)), (.int (1 : Int32))])) t
        refine XS.icmpNo X226.here hx rfl (hb hby at_151) rfl (teq rfl).2 ?_
        show Steps p.tables e below (T226.setTop (mkF m 154 #[.val (.int p1), .val (.int p2), .val (.ref b2), .val (.int (2 : Int32)), .val (.int (1 : Int32)), .val (.ref v2), .val (.int (1 : Int32)), .val (.int (1 : Int32)), .val (.int (1 : Int32)), .val (.int (1 : Int32)), .val (.int (0 : Int32))] [])) t
        refine XS.iload X226.here hx rfl (hb hby at_154) rfl ?_
        show Steps p.tables e below (T226.setTop (mkF m 156 #[.val (.int p1), .val (.int p2), .val (.ref b2), .val (.int (2 : Int32)), .val (.int (1 : Int32)), .val (.ref v2), .val (.int (1 : Int32)), .val (.int (1 : Int32)), .val (.int (1 : Int32)), .val (.int (1 : Int32)), .val (.int (0 : Int32))] [(.int (1 : Int32))])) t
        refine XS.iload X226.here hx rfl (hb hby at_156) rfl ?_
        show Steps p.tables e below (T226.setTop (mkF m 158 #[.val (.int p1), .val (.int p2), .val (.ref b2), .val (.int (2 : Int32)), .val (.int (1 : Int32)), .val (.ref v2), .val (.int (1 : Int32)), .val (.int (1 : Int32)), .val (.int (1 : Int32)), .val (.int (1 : Int32)), .val (.int (0 : Int32))] [(.int (1 : Int32)), (.int (1 : Int32))])) t
        refine XS.icmpNo X226.here hx rfl (hb hby at_158) rfl (teq rfl).2 ?_
        show Steps p.tables e below (T226.setTop (mkF m 161 #[.val (.int p1), .val (.int p2), .val (.ref b2), .val (.int (2 : Int32)), .val (.int (1 : Int32)), .val (.ref v2), .val (.int (1 : Int32)), .val (.int (1 : Int32)), .val (.int (1 : Int32)), .val (.int (1 : Int32)), .val (.int (0 : Int32))] [])) t
        refine XS.iload X226.here hx rfl (hb hby at_161) rfl ?_
        show Steps p.tables e below (T226.setTop (mkF m 163 #[.val (.int p1), .val (.int p2), .val (.ref b2), .val (.int (2 : Int32)), .val (.int (1 : Int32)), .val (.ref v2), .val (.int (1 : Int32)), .val (.int (1 : Int32)), .val (.int (1 : Int32)), .val (.int (1 : Int32)), .val (.int (0 : Int32))] [(.int (1 : Int32))])) t
        refine XS.ifNo X226.here hx rfl (hb hby at_163) rfl ((if0 _ _).trans (feq (by decide)).1) ?_
        show Steps p.tables e below (T226.setTop (mkF m 166 #[.val (.int p1), .val (.int p2), .val (.ref b2), .val (.int (2 : Int32)), .val (.int (1 : Int32)), .val (.ref v2), .val (.int (1 : Int32)), .val (.int (1 : Int32)), .val (.int (1 : Int32)), .val (.int (1 : Int32)), .val (.int (0 : Int32))] [])) t
        refine XS.iload X226.here hx rfl (hb hby at_166) rfl ?_
        show Steps p.tables e below (T226.setTop (mkF m 168 #[.val (.int p1), .val (.int p2), .val (.ref b2), .val (.int (2 : Int32)), .val (.int (1 : Int32)), .val (.ref v2), .val (.int (1 : Int32)), .val (.int (1 : Int32)), .val (.int (1 : Int32)), .val (.int (1 : Int32)), .val (.int (0 : Int32))] [(.int (0 : Int32))])) t
        refine XS.ifNo X226.here hx rfl (hb hby at_168) rfl ((if0 _ _).trans (teq rfl).2) ?_
        show Steps p.tables e below (T226.setTop (mkF m 171 #[.val (.int p1), .val (.int p2), .val (.ref b2), .val (.int (2 : Int32)), .val (.int (1 : Int32)), .val (.ref v2), .val (.int (1 : Int32)), .val (.int (1 : Int32)), .val (.int (1 : Int32)), .val (.int (1 : Int32)), .val (.int (0 : Int32))] [])) t
        refine XS.iconst X226.here hx rfl (hb hby at_171) ?_
        show Steps p.tables e below (T226.setTop (mkF m 172 #[.val (.int p1), .val (.int p2), .val (.ref b2), .val (.int (2 : Int32)), .val (.int (1 : Int32)), .val (.ref v2), .val (.int (1 : Int32)), .val (.int (1 : Int32)), .val (.int (1 : Int32)), .val (.int (1 : Int32)), .val (.int (0 : Int32))] [(.int (1 : Int32))])) t
        refine XS.goto X226.here hx rfl (pc0 := 172) (pc' := 176) rfl (hb hby at_172) (by decide) (by decide) ?_
        exact k
      obtain ⟨fs, hr, hrun, hended, hW, hsame⟩ := X226.leave (v := some (.int (1 : Int32))) (fun h => by rw [Bd.returns] at h; cases h)
      refine ⟨_, _, pre0 _ (P228 _ ?_), hrun, hended, _, _, rfl, ?_, ⟨_, rfl⟩, hW, hsame.mono (by decide) (by decide)⟩
      · exact retN X226 hx (t := .boolean) Bd.returns (by simp) (hb hby at_176) hr
      · show Q0 Z p1 p2 v0 v1 v2 v3 v4 v5 h0 n0 _ T226.heap _
        rw [e226]
        exact ⟨rfl, N226⟩
    · obtain ⟨cl229, Ar229, q229, S229_, N229_, H229_, G229_⟩ := V_b2_38
      have hin229 : ¬ ((3 : Int32) < 0 ∨ cl229.slots.size ≤ ((3 : Int32)).toNatClampNeg) := inb_of S229_ ⟨by decide, by decide⟩
      have P230 : ∀ t, Steps p.tables e below (T38.setTop (mkF m 87 #[.val (.int p1), .val (.int p2), .val (.ref b2), .val (.int (3 : Int32)), .val (.int (1 : Int32)), .val (.ref v3), .val (.int (1 : Int32)), .unset, .unset, .unset, .unset] [(.ref v3)])) t → Steps p.tables e below (s₁.setTop (mkF m 0 #[.val (.int p1), .val (.int p2), .unset, .unset, .unset, .unset, .unset, .unset, .unset, .unset, .unset] [])) t := fun t k => by
        refine P168 t ?_
        show Steps p.tables e below (T38.setTop (mkF m 63 #[.val (.int p1), .val (.int p2), .val (.ref b2), .val (.int (3 : Int32)), .val (.int (1 : Int32)), .unset, .unset, .unset, .unset, .unset, .unset] [])) t
        refine XS.aloadN X38.here hx rfl (hb hby at_63) rfl rfl ?_
        show Steps p.tables e below (T38.setTop (mkF m 64 #[.val (.int p1), .val (.int p2), .val (.ref b2), .val (.int (3 : Int32)), .val (.int (1 : Int32)), .unset, .unset, .unset, .unset, .unset, .unset] [(.ref b2)])) t
        refine XS.iloadN X38.here hx rfl (hb hby at_64) rfl ?_
        show Steps p.tables e below (T38.setTop (mkF m 65 #[.val (.int p1), .val (.int p2), .val (.ref b2), .val (.int (3 : Int32)), .val (.int (1 : Int32)), .unset, .unset, .unset, .unset, .unset, .unset] [(.int (3 : Int32)), (.ref b2)])) t
        refine X38.aaload hx (j := (3 : Int32)) (v := (.ref v3)) (by rw [e38]; exact Ar229.1) (State.isArrayOf_alike hZ.alike Ar229.2.1) rfl Ar229.2.2 hin229 (Has.at H229_ hin229 rfl) (g := (mkF m 65 #[.val (.int p1), .val (.int p2), .val (.ref b2), .val (.int (3 : Int32)), .val (.int (1 : Int32)), .unset, .unset, .unset, .unset, .unset, .unset] [(.int (3 : Int32)), (.ref b2)])) rfl rfl (hb hby at_65) _ ?_
        show Steps p.tables e below (T38.setTop (mkF m 66 #[.val (.int p1), .val (.int p2), .val (.ref b2), .val (.int (3 : Int32)), .val (.int (1 : Int32)), .unset, .unset, .unset, .unset, .unset, .unset] [(.ref v3)])) t
        refine XS.astore X38.here hx rfl (hb hby at_66) rfl rfl (l' := #[.val (.int p1), .val (.int p2), .val (.ref b2), .val (.int (3 : Int32)), .val (.int (1 : Int32)), .val (.ref v3), .unset, .unset, .unset, .unset, .unset]) rfl ?_
        show Steps p.tables e below (T38.setTop (mkF m 68 #[.val (.int p1), .val (.int p2), .val (.ref b2), .val (.int (3 : Int32)), .val (.int (1 : Int32)), .val (.ref v3), .unset, .unset, .unset, .unset, .unset] [])) t
        refine XS.iloadN X38.here hx rfl (hb hby at_68) rfl ?_
        show Steps p.tables e below (T38.setTop (mkF m 69 #[.val (.int p1), .val (.int p2), .val (.ref b2), .val (.int (3 : Int32)), .val (.int (1 : Int32)), .val (.ref v3), .unset, .unset, .unset, .unset, .unset] [(.int (3 : Int32))])) t
        refine XS.iconst X38.here hx rfl (hb hby at_69) ?_
        show Steps p.tables e below (T38.setTop (mkF m 70 #[.val (.int p1), .val (.int p2), .val (.ref b2), .val (.int (3 : Int32)), .val (.int (1 : Int32)), .val (.ref v3), .unset, .unset, .unset, .unset, .unset] [(.int (2 : Int32)), (.int (3 : Int32))])) t
        refine XS.icmpNo X38.here hx rfl (hb hby at_70) rfl (feq (by decide)).1 ?_
        show Steps p.tables e below (T38.setTop (mkF m 73 #[.val (.int p1), .val (.int p2), .val (.ref b2), .val (.int (3 : Int32)), .val (.int (1 : Int32)), .val (.ref v3), .unset, .unset, .unset, .unset, .unset] [])) t
        refine XS.iloadN X38.here hx rfl (hb hby at_73) rfl ?_
        show Steps p.tables e below (T38.setTop (mkF m 74 #[.val (.int p1), .val (.int p2), .val (.ref b2), .val (.int (3 : Int32)), .val (.int (1 : Int32)), .val (.ref v3), .unset, .unset, .unset, .unset, .unset] [(.int (3 : Int32))])) t
        refine XS.iconst X38.here hx rfl (hb hby at_74) ?_
        show Steps p.tables e below (T38.setTop (mkF m 75 #[.val (.int p1), .val (.int p2), .val (.ref b2), .val (.int (3 : Int32)), .val (.int (1 : Int32)), .val (.ref v3), .unset, .unset, .unset, .unset, .unset] [(.int (3 : Int32)), (.int (3 : Int32))])) t
        refine XS.icmpNo X38.here hx rfl (hb hby at_75) rfl (teq rfl).2 ?_
        show Steps p.tables e below (T38.setTop (mkF m 78 #[.val (.int p1), .val (.int p2), .val (.ref b2), .val (.int (3 : Int32)), .val (.int (1 : Int32)), .val (.ref v3), .unset, .unset, .unset, .unset, .unset] [])) t
        refine XS.iconst X38.here hx rfl (hb hby at_78) ?_
        show Steps p.tables e below (T38.setTop (mkF m 79 #[.val (.int p1), .val (.int p2), .val (.ref b2), .val (.int (3 : Int32)), .val (.int (1 : Int32)), .val (.ref v3), .unset, .unset, .unset, .unset, .unset] [(.int (1 : Int32))])) t
        refine XS.goto X38.here hx rfl (pc0 := 79) (pc' := 83) rfl (hb hby at_79) (by decide) (by decide) ?_
        show Steps p.tables e below (T38.setTop (mkF m 83 #[.val (.int p1), .val (.int p2), .val (.ref b2), .val (.int (3 : Int32)), .val (.int (1 : Int32)), .val (.ref v3), .unset, .unset, .unset, .unset, .unset] [(.int (1 : Int32))])) t
        refine XS.istore X38.here hx rfl (hb hby at_83) rfl (l' := #[.val (.int p1), .val (.int p2), .val (.ref b2), .val (.int (3 : Int32)), .val (.int (1 : Int32)), .val (.ref v3), .val (.int (1 : Int32)), .unset, .unset, .unset, .unset]) rfl ?_
        show Steps p.tables e below (T38.setTop (mkF m 85 #[.val (.int p1), .val (.int p2), .val (.ref b2), .val (.int (3 : Int32)), .val (.int (1 : Int32)), .val (.ref v3), .val (.int (1 : Int32)), .unset, .unset, .unset, .unset] [])) t
        refine XS.aload X38.here hx rfl (hb hby at_85) rfl rfl ?_
        exact k
      obtain ⟨cq231, kq231, q231a, q231b, q231c⟩ := isOf hZ e38 EX3_38
      obtain ⟨_, _, ⟨T231, L231, k231, n231⟩, -, X231, ⟨Lc231, hQ231, l231, y231, z231⟩, st231⟩ := X38.virtualBack hx (y := (⟨"com/example/watermark/watermark/server/TransactionState$Phase", "isEnding", "()Z"⟩ : MethodName)) (z := (⟨"com/example/watermark/watermark/server/TransactionState$Phase", "isEnding", "()Z"⟩ : MethodName)) hown (mvT hZ (hw _ (List.mem_of_getElem? (i := 17) rfl))) (mvT hZ (hw _ (List.mem_of_getElem? (i := 18) rfl))) (notFace_of_selects (args := #[]) (mvT hZ (hw _ (List.mem_of_getElem? (i := 20) rfl)))) (mvT hZ (hw _ (List.mem_of_getElem? (i := 20) rfl))) (mvT hZ (hw _ (List.mem_of_getElem? (i := 19) rfl))) (by decide) (backOf (W := 0) (rm1s l Z a0 hw [] v3 v2 v3 h38 n0 Z_39 S2_38 S3_38 n2_3 rfl) hZ (hw _ (List.mem_of_getElem? (i := 21) rfl)) (hw _ (List.mem_of_getElem? (i := 3) rfl)) (by decide) (by decide)) q231a q231c (g := (mkF m 87 #[.val (.int p1), .val (.int p2), .val (.ref b2), .val (.int (3 : Int32)), .val (.int (1 : Int32)), .val (.ref v3), .val (.int (1 : Int32)), .unset, .unset, .unset, .unset] [(.ref v3)])) rfl (by rw [hml]; rfl) (Steps.refl _) (argsL := []) (rest := []) (lenOf pd___Z rfl) rfl (by show 2 * 0 + _ ≤ _; exact Nat.le_of_eq rfl) (hb hby at_87) (fun _ _ => ⟨rfl, e38, (by decide : 1 + 0 ≤ _), (by decide : 6 + 0 ≤ _)⟩)
      dsimp only [Pt.U, Pt.locs, Pt.cells, Pt.slots] at X231 l231 y231 z231 st231 hQ231
      subst l231 y231 z231
      obtain ⟨rfl, N231q, e231⟩ := hQ231
      have N231 := Fr.app N38 N231q
      have P232 : ∀ t, Steps p.tables e below (T231.setTop (mkF m 90 #[.val (.int p1), .val (.int p2), .val (.ref b2), .val (.int (3 : Int32)), .val (.int (1 : Int32)), .val (.ref v3), .val (.int (1 : Int32)), .unset, .unset, .unset, .unset] [(.int (1 : Int32))])) t → Steps p.tables e below (s₁.setTop (mkF m 0 #[.val (.int p1), .val (.int p2), .unset, .unset, .unset, .unset, .unset, .unset, .unset, .unset, .unset] [])) t := fun t k => P230 t (st231.trans k)
      have P233 : ∀ t, Steps p.tables e below (T231.setTop (mkF m 96 #[.val (.int p1), .val (.int p2), .val (.ref b2), .val (.int (3 : Int32)), .val (.int (1 : Int32)), .val (.ref v3), .val (.int (1 : Int32)), .val (.int (1 : Int32)), .unset, .unset, .unset] [(.int (1 : Int32)), (.ref v3)])) t → Steps p.tables e below (s₁.setTop (mkF m 0 #[.val (.int p1), .val (.int p2), .unset, .unset, .unset, .unset, .unset, .unset, .unset, .unset, .unset] [])) t := fun t k => by
        refine P232 t ?_
        show Steps p.tables e below (T231.setTop (mkF m 90 #[.val (.int p1), .val (.int p2), .val (.ref b2), .val (.int (3 : Int32)), .val (.int (1 : Int32)), .val (.ref v3), .val (.int (1 : Int32)), .unset, .unset, .unset, .unset] [(.int (1 : Int32))])) t
        refine XS.istore X231.here hx rfl (hb hby at_90) rfl (l' := #[.val (.int p1), .val (.int p2), .val (.ref b2), .val (.int (3 : Int32)), .val (.int (1 : Int32)), .val (.ref v3), .val (.int (1 : Int32)), .val (.int (1 : Int32)), .unset, .unset, .unset]) rfl ?_
        show Steps p.tables e below (T231.setTop (mkF m 92 #[.val (.int p1), .val (.int p2), .val (.ref b2), .val (.int (3 : Int32)), .val (.int (1 : Int32)), .val (.ref v3), .val (.int (1 : Int32)), .val (.int (1 : Int32)), .unset, .unset, .unset] [])) t
        refine XS.aload X231.here hx rfl (hb hby at_92) rfl rfl ?_
        show Steps p.tables e below (T231.setTop (mkF m 94 #[.val (.int p1), .val (.int p2), .val (.ref b2), .val (.int (3 : Int32)), .val (.int (1 : Int32)), .val (.ref v3), .val (.int (1 : Int32)), .val (.int (1 : Int32)), .unset, .unset, .unset] [(.ref v3)])) t
        refine XS.iload X231.here hx rfl (hb hby at_94) rfl ?_
        exact k
      obtain ⟨_, _, ⟨T234, L234, k234, n234⟩, -, X234, ⟨Lc234, hQ234, l234, y234, z234⟩, st234⟩ := Jvm.LawKit.callS X231 hx (y := (⟨"com/example/watermark/watermark/server/TransactionState$Phase", "prepare", "(Z)Lcom/example/watermark/watermark/server/TransactionState$Phase;"⟩ : MethodName)) hown (mvT hZ (hw _ (List.mem_of_getElem? (i := 24) rfl))) (mvT hZ (hw _ (List.mem_of_getElem? (i := 25) rfl))) (mvT hZ (hw _ (List.mem_of_getElem? (i := 3) rfl))) (mvT hZ (hw _ (List.mem_of_getElem? (i := 26) rfl))) (by decide) (backOf (W := 1) (rm2t l Z a0 hw [] (1 : Int32) v2 h38 n0 Z_39 S2_38 (by decide)) hZ (hw _ (List.mem_of_getElem? (i := 26) rfl)) (hw _ (List.mem_of_getElem? (i := 3) rfl)) (by decide) (by decide)) (g := (mkF m 96 #[.val (.int p1), .val (.int p2), .val (.ref b2), .val (.int (3 : Int32)), .val (.int (1 : Int32)), .val (.ref v3), .val (.int (1 : Int32)), .val (.int (1 : Int32)), .unset, .unset, .unset] [(.int (1 : Int32)), (.ref v3)])) rfl (by rw [hml]; rfl) (argsL := [(.int (1 : Int32))]) (rest := [(.ref v3)]) (lenOf pd__Z_Lcom_example_watermark_watermark_server_TransactionState_Phase_ rfl) rfl (by show 2 * 0 + _ ≤ _; exact Nat.le_of_eq rfl) (hb hby at_96) (fun _ _ => ⟨rfl, e231, (by decide : 1 + 0 ≤ _), (by decide : 6 + 0 ≤ _)⟩)
      dsimp only [Pt.U, Pt.locs, Pt.cells, Pt.slots] at X234 l234 y234 z234 st234 hQ234
      subst l234 y234 z234
      obtain ⟨rfl, N234q, e234⟩ := hQ234
      have N234 := Fr.app N231 N234q
      have P235 : ∀ t, Steps p.tables e below (T234.setTop (mkF m 99 #[.val (.int p1), .val (.int p2), .val (.ref b2), .val (.int (3 : Int32)), .val (.int (1 : Int32)), .val (.ref v3), .val (.int (1 : Int32)), .val (.int (1 : Int32)), .unset, .unset, .unset] [(.ref v2), (.ref v3)])) t → Steps p.tables e below (s₁.setTop (mkF m 0 #[.val (.int p1), .val (.int p2), .unset, .unset, .unset, .unset, .unset, .unset, .unset, .unset, .unset] [])) t := fun t k => P233 t (st234 _ k)
      have P236 : ∀ t, Steps p.tables e below (T234.setTop (mkF m 114 #[.val (.int p1), .val (.int p2), .val (.ref b2), .val (.int (3 : Int32)), .val (.int (1 : Int32)), .val (.ref v3), .val (.int (1 : Int32)), .val (.int (1 : Int32)), .unset, .unset, .unset] [(.int (0 : Int32)), (.ref v3)])) t → Steps p.tables e below (s₁.setTop (mkF m 0 #[.val (.int p1), .val (.int p2), .unset, .unset, .unset, .unset, .unset, .unset, .unset, .unset, .unset] [])) t := fun t k => by
        refine P235 t ?_
        show Steps p.tables e below (T234.setTop (mkF m 99 #[.val (.int p1), .val (.int p2), .val (.ref b2), .val (.int (3 : Int32)), .val (.int (1 : Int32)), .val (.ref v3), .val (.int (1 : Int32)), .val (.int (1 : Int32)), .unset, .unset, .unset] [(.ref v2), (.ref v3)])) t
        refine Jvm.RoadKit.acmp (g := (mkF m 99 #[.val (.int p1), .val (.int p2), .val (.ref b2), .val (.int (3 : Int32)), .val (.int (1 : Int32)), .val (.ref v3), .val (.int (1 : Int32)), .val (.int (1 : Int32)), .unset, .unset, .unset] [(.ref v2), (.ref v3)])) X234 hx rfl rfl rfl (pc0 := 99) (pc' := 102) (same := false) rfl (hb hby at_99) rfl (decide_eq_false fun q => n2_3 (Value.ref.inj q)) (by decide) (by decide) ?_
        show Steps p.tables e below (T234.setTop (mkF m 102 #[.val (.int p1), .val (.int p2), .val (.ref b2), .val (.int (3 : Int32)), .val (.int (1 : Int32)), .val (.ref v3), .val (.int (1 : Int32)), .val (.int (1 : Int32)), .unset, .unset, .unset] [])) t
        refine XS.aload X234.here hx rfl (hb hby at_102) rfl rfl ?_
        show Steps p.tables e below (T234.setTop (mkF m 104 #[.val (.int p1), .val (.int p2), .val (.ref b2), .val (.int (3 : Int32)), .val (.int (1 : Int32)), .val (.ref v3), .val (.int (1 : Int32)), .val (.int (1 : Int32)), .unset, .unset, .unset] [(.ref v3)])) t
        refine XS.iload X234.here hx rfl (hb hby at_104) rfl ?_
        show Steps p.tables e below (T234.setTop (mkF m 106 #[.val (.int p1), .val (.int p2), .val (.ref b2), .val (.int (3 : Int32)), .val (.int (1 : Int32)), .val (.ref v3), .val (.int (1 : Int32)), .val (.int (1 : Int32)), .unset, .unset, .unset] [(.int (1 : Int32)), (.ref v3)])) t
        refine XS.ifYes X234.here hx rfl (pc0 := 106) (pc' := 113) rfl (hb hby at_106) rfl ((if0 _ _).trans (feq (by decide)).2) (by decide) (by decide) ?_
        show Steps p.tables e below (T234.setTop (mkF m 113 #[.val (.int p1), .val (.int p2), .val (.ref b2), .val (.int (3 : Int32)), .val (.int (1 : Int32)), .val (.ref v3), .val (.int (1 : Int32)), .val (.int (1 : Int32)), .unset, .unset, .unset] [(.ref v3)])) t
        refine XS.iconst X234.here hx rfl (hb hby at_113) ?_
        exact k
      obtain ⟨_, _, ⟨T237, L237, k237, n237⟩, -, X237, ⟨Lc237, hQ237, l237, y237, z237⟩, st237⟩ := Jvm.LawKit.callS X234 hx (y := (⟨"com/example/watermark/watermark/server/TransactionState$Phase", "prepare", "(Z)Lcom/example/watermark/watermark/server/TransactionState$Phase;"⟩ : MethodName)) hown (mvT hZ (hw _ (List.mem_of_getElem? (i := 24) rfl))) (mvT hZ (hw _ (List.mem_of_getElem? (i := 25) rfl))) (mvT hZ (hw _ (List.mem_of_getElem? (i := 3) rfl))) (mvT hZ (hw _ (List.mem_of_getElem? (i := 26) rfl))) (by decide) (backOf (W := 1) (rm2f l Z a0 hw [] (0 : Int32) v3 h38 n0 Z_39 S3_38 rfl) hZ (hw _ (List.mem_of_getElem? (i := 26) rfl)) (hw _ (List.mem_of_getElem? (i := 3) rfl)) (by decide) (by decide)) (g := (mkF m 114 #[.val (.int p1), .val (.int p2), .val (.ref b2), .val (.int (3 : Int32)), .val (.int (1 : Int32)), .val (.ref v3), .val (.int (1 : Int32)), .val (.int (1 : Int32)), .unset, .unset, .unset] [(.int (0 : Int32)), (.ref v3)])) rfl (by rw [hml]; rfl) (argsL := [(.int (0 : Int32))]) (rest := [(.ref v3)]) (lenOf pd__Z_Lcom_example_watermark_watermark_server_TransactionState_Phase_ rfl) rfl (by show 2 * 0 + _ ≤ _; exact Nat.le_of_eq rfl) (hb hby at_114) (fun _ _ => ⟨rfl, e234, (by decide : 1 + 0 ≤ _), (by decide : 6 + 0 ≤ _)⟩)
      dsimp only [Pt.U, Pt.locs, Pt.cells, Pt.slots] at X237 l237 y237 z237 st237 hQ237
      subst l237 y237 z237
      obtain ⟨rfl, N237q, e237⟩ := hQ237
      have N237 := Fr.app N234 N237q
      have P238 : ∀ t, Steps p.tables e below (T237.setTop (mkF m 117 #[.val (.int p1), .val (.int p2), .val (.ref b2), .val (.int (3 : Int32)), .val (.int (1 : Int32)), .val (.ref v3), .val (.int (1 : Int32)), .val (.int (1 : Int32)), .unset, .unset, .unset] [(.ref v3), (.ref v3)])) t → Steps p.tables e below (s₁.setTop (mkF m 0 #[.val (.int p1), .val (.int p2), .unset, .unset, .unset, .unset, .unset, .unset, .unset, .unset, .unset] [])) t := fun t k => P236 t (st237 _ k)
      have P239 : ∀ t, Steps p.tables e below (T237.setTop (mkF m 129 #[.val (.int p1), .val (.int p2), .val (.ref b2), .val (.int (3 : Int32)), .val (.int (1 : Int32)), .val (.ref v3), .val (.int (1 : Int32)), .val (.int (1 : Int32)), .val (.int (1 : Int32)), .unset, .unset] [(.int (1 : Int32))])) t → Steps p.tables e below (s₁.setTop (mkF m 0 #[.val (.int p1), .val (.int p2), .unset, .unset, .unset, .unset, .unset, .unset, .unset, .unset, .unset] [])) t := fun t k => by
        refine P238 t ?_
        show Steps p.tables e below (T237.setTop (mkF m 117 #[.val (.int p1), .val (.int p2), .val (.ref b2), .val (.int (3 : Int32)), .val (.int (1 : Int32)), .val (.ref v3), .val (.int (1 : Int32)), .val (.int (1 : Int32)), .unset, .unset, .unset] [(.ref v3), (.ref v3)])) t
        refine Jvm.RoadKit.acmp (g := (mkF m 117 #[.val (.int p1), .val (.int p2), .val (.ref b2), .val (.int (3 : Int32)), .val (.int (1 : Int32)), .val (.ref v3), .val (.int (1 : Int32)), .val (.int (1 : Int32)), .unset, .unset, .unset] [(.ref v3), (.ref v3)])) X237 hx rfl rfl rfl (pc0 := 117) (pc' := 120) (same := true) rfl (hb hby at_117) rfl (decide_eq_true rfl) (by decide) (by decide) ?_
        show Steps p.tables e below (T237.setTop (mkF m 120 #[.val (.int p1), .val (.int p2), .val (.ref b2), .val (.int (3 : Int32)), .val (.int (1 : Int32)), .val (.ref v3), .val (.int (1 : Int32)), .val (.int (1 : Int32)), .unset, .unset, .unset] [])) t
        refine XS.iconst X237.here hx rfl (hb hby at_120) ?_
        show Steps p.tables e below (T237.setTop (mkF m 121 #[.val (.int p1), .val (.int p2), .val (.ref b2), .val (.int (3 : Int32)), .val (.int (1 : Int32)), .val (.ref v3), .val (.int (1 : Int32)), .val (.int (1 : Int32)), .unset, .unset, .unset] [(.int (1 : Int32))])) t
        refine XS.goto X237.here hx rfl (pc0 := 121) (pc' := 125) rfl (hb hby at_121) (by decide) (by decide) ?_
        show Steps p.tables e below (T237.setTop (mkF m 125 #[.val (.int p1), .val (.int p2), .val (.ref b2), .val (.int (3 : Int32)), .val (.int (1 : Int32)), .val (.ref v3), .val (.int (1 : Int32)), .val (.int (1 : Int32)), .unset, .unset, .unset] [(.int (1 : Int32))])) t
        refine XS.istore X237.here hx rfl (hb hby at_125) rfl (l' := #[.val (.int p1), .val (.int p2), .val (.ref b2), .val (.int (3 : Int32)), .val (.int (1 : Int32)), .val (.ref v3), .val (.int (1 : Int32)), .val (.int (1 : Int32)), .val (.int (1 : Int32)), .unset, .unset]) rfl ?_
        show Steps p.tables e below (T237.setTop (mkF m 127 #[.val (.int p1), .val (.int p2), .val (.ref b2), .val (.int (3 : Int32)), .val (.int (1 : Int32)), .val (.ref v3), .val (.int (1 : Int32)), .val (.int (1 : Int32)), .val (.int (1 : Int32)), .unset, .unset] [])) t
        refine XS.iload X237.here hx rfl (hb hby at_127) rfl ?_
        exact k
      obtain ⟨_, _, ⟨T240, L240, k240, n240⟩, -, X240, ⟨Lc240, hQ240, l240, y240, z240⟩, st240⟩ := Jvm.LawKit.callS X237 hx (y := (⟨"com/example/watermark/watermark/server/TransactionState$Phase", "prepare", "(Z)Lcom/example/watermark/watermark/server/TransactionState$Phase;"⟩ : MethodName)) hown (mvT hZ (hw _ (List.mem_of_getElem? (i := 24) rfl))) (mvT hZ (hw _ (List.mem_of_getElem? (i := 25) rfl))) (mvT hZ (hw _ (List.mem_of_getElem? (i := 3) rfl))) (mvT hZ (hw _ (List.mem_of_getElem? (i := 26) rfl))) (by decide) (backOf (W := 0) (rm2t l Z a0 hw [] (1 : Int32) v2 h38 n0 Z_39 S2_38 (by decide)) hZ (hw _ (List.mem_of_getElem? (i := 26) rfl)) (hw _ (List.mem_of_getElem? (i := 3) rfl)) (by decide) (by decide)) (g := (mkF m 129 #[.val (.int p1), .val (.int p2), .val (.ref b2), .val (.int (3 : Int32)), .val (.int (1 : Int32)), .val (.ref v3), .val (.int (1 : Int32)), .val (.int (1 : Int32)), .val (.int (1 : Int32)), .unset, .unset] [(.int (1 : Int32))])) rfl (by rw [hml]; rfl) (argsL := [(.int (1 : Int32))]) (rest := []) (lenOf pd__Z_Lcom_example_watermark_watermark_server_TransactionState_Phase_ rfl) rfl (by show 2 * 0 + _ ≤ _; exact Nat.le_of_eq rfl) (hb hby at_129) (fun _ _ => ⟨rfl, e237, (by decide : 1 + 0 ≤ _), (by decide : 6 + 0 ≤ _)⟩)
      dsimp only [Pt.U, Pt.locs, Pt.cells, Pt.slots] at X240 l240 y240 z240 st240 hQ240
      subst l240 y240 z240
      obtain ⟨rfl, N240q, e240⟩ := hQ240
      have N240 := Fr.app N237 N240q
      have P241 : ∀ t, Steps p.tables e below (T240.setTop (mkF m 132 #[.val (.int p1), .val (.int p2), .val (.ref b2), .val (.int (3 : Int32)), .val (.int (1 : Int32)), .val (.ref v3), .val (.int (1 : Int32)), .val (.int (1 : Int32)), .val (.int (1 : Int32)), .unset, .unset] [(.ref v2)])) t → Steps p.tables e below (s₁.setTop (mkF m 0 #[.val (.int p1), .val (.int p2), .unset, .unset, .unset, .unset, .unset, .unset, .unset, .unset, .unset] [])) t := fun t k => P239 t (st240 _ k)
      obtain ⟨cq242, kq242, q242a, q242b, q242c⟩ := isOf hZ e240 EX2_38
      obtain ⟨_, _, ⟨T242, L242, k242, n242⟩, -, X242, ⟨Lc242, hQ242, l242, y242, z242⟩, st242⟩ := X240.virtualBack hx (y := (⟨"com/example/watermark/watermark/server/TransactionState$Phase", "isEnding", "()Z"⟩ : MethodName)) (z := (⟨"com/example/watermark/watermark/server/TransactionState$Phase", "isEnding", "()Z"⟩ : MethodName)) hown (mvT hZ (hw _ (List.mem_of_getElem? (i := 17) rfl))) (mvT hZ (hw _ (List.mem_of_getElem? (i := 18) rfl))) (notFace_of_selects (args := #[]) (mvT hZ (hw _ (List.mem_of_getElem? (i := 20) rfl)))) (mvT hZ (hw _ (List.mem_of_getElem? (i := 20) rfl))) (mvT hZ (hw _ (List.mem_of_getElem? (i := 19) rfl))) (by decide) (backOf (W := 0) (rm1c l Z a0 hw [] v2 v2 v3 h38 n0 Z_39 S2_38 S3_38 rfl) hZ (hw _ (List.mem_of_getElem? (i := 21) rfl)) (hw _ (List.mem_of_getElem? (i := 3) rfl)) (by decide) (by decide)) q242a q242c (g := (mkF m 132 #[.val (.int p1), .val (.int p2), .val (.ref b2), .val (.int (3 : Int32)), .val (.int (1 : Int32)), .val (.ref v3), .val (.int (1 : Int32)), .val (.int (1 : Int32)), .val (.int (1 : Int32)), .unset, .unset] [(.ref v2)])) rfl (by rw [hml]; rfl) (Steps.refl _) (argsL := []) (rest := []) (lenOf pd___Z rfl) rfl (by show 2 * 0 + _ ≤ _; exact Nat.le_of_eq rfl) (hb hby at_132) (fun _ _ => ⟨rfl, e240, (by decide : 1 + 0 ≤ _), (by decide : 6 + 0 ≤ _)⟩)
      dsimp only [Pt.U, Pt.locs, Pt.cells, Pt.slots] at X242 l242 y242 z242 st242 hQ242
      subst l242 y242 z242
      obtain ⟨rfl, N242q, e242⟩ := hQ242
      have N242 := Fr.app N240 N242q
      have P243 : ∀ t, Steps p.tables e below (T242.setTop (mkF m 135 #[.val (.int p1), .val (.int p2), .val (.ref b2), .val (.int (3 : Int32)), .val (.int (1 : Int32)), .val (.ref v3), .val (.int (1 : Int32)), .val (.int (1 : Int32)), .val (.int (1 : Int32)), .unset, .unset] [(.int (1 : Int32))])) t → Steps p.tables e below (s₁.setTop (mkF m 0 #[.val (.int p1), .val (.int p2), .unset, .unset, .unset, .unset, .unset, .unset, .unset, .unset, .unset] [])) t := fun t k => P241 t (st242.trans k)
      have P244 : ∀ t, Steps p.tables e below (T242.setTop (mkF m 139 #[.val (.int p1), .val (.int p2), .val (.ref b2), .val (.int (3 : Int32)), .val (.int (1 : Int32)), .val (.ref v3), .val (.int (1 : Int32)), .val (.int (1 : Int32)), .val (.int (1 : Int32)), .val (.int (1 : Int32)), .unset] [(.int (1 : Int32))])) t → Steps p.tables e below (s₁.setTop (mkF m 0 #[.val (.int p1), .val (.int p2), .unset, .unset, .unset, .unset, .unset, .unset, .unset, .unset, .unset] [])) t := fun t k => by
        refine P243 t ?_
        show Steps p.tables e below (T242.setTop (mkF m 135 #[.val (.int p1), .val (.int p2), .val (.ref b2), .val (.int (3 : Int32)), .val (.int (1 : Int32)), .val (.ref v3), .val (.int (1 : Int32)), .val (.int (1 : Int32)), .val (.int (1 : Int32)), .unset, .unset] [(.int (1 : Int32))])) t
        refine XS.istore X242.here hx rfl (hb hby at_135) rfl (l' := #[.val (.int p1), .val (.int p2), .val (.ref b2), .val (.int (3 : Int32)), .val (.int (1 : Int32)), .val (.ref v3), .val (.int (1 : Int32)), .val (.int (1 : Int32)), .val (.int (1 : Int32)), .val (.int (1 : Int32)), .unset]) rfl ?_
        show Steps p.tables e below (T242.setTop (mkF m 137 #[.val (.int p1), .val (.int p2), .val (.ref b2), .val (.int (3 : Int32)), .val (.int (1 : Int32)), .val (.ref v3), .val (.int (1 : Int32)), .val (.int (1 : Int32)), .val (.int (1 : Int32)), .val (.int (1 : Int32)), .unset] [])) t
        refine XS.iload X242.here hx rfl (hb hby at_137) rfl ?_
        exact k
      obtain ⟨_, _, ⟨T245, L245, k245, n245⟩, -, X245, ⟨Lc245, hQ245, l245, y245, z245⟩, st245⟩ := Jvm.LawKit.callS X242 hx (y := (⟨"com/example/watermark/watermark/server/TransactionState$Phase", "complete", "(Z)Lcom/example/watermark/watermark/server/TransactionState$Phase;"⟩ : MethodName)) hown (mvT hZ (hw _ (List.mem_of_getElem? (i := 27) rfl))) (mvT hZ (hw _ (List.mem_of_getElem? (i := 28) rfl))) (mvT hZ (hw _ (List.mem_of_getElem? (i := 3) rfl))) (mvT hZ (hw _ (List.mem_of_getElem? (i := 29) rfl))) (by decide) (backOf (W := 0) (rm3t l Z a0 hw [] (1 : Int32) v4 h38 n0 Z_39 S4_38 (by decide)) hZ (hw _ (List.mem_of_getElem? (i := 29) rfl)) (hw _ (List.mem_of_getElem? (i := 3) rfl)) (by decide) (by decide)) (g := (mkF m 139 #[.val (.int p1), .val (.int p2), .val (.ref b2), .val (.int (3 : Int32)), .val (.int (1 : Int32)), .val (.ref v3), .val (.int (1 : Int32)), .val (.int (1 : Int32)), .val (.int (1 : Int32)), .val (.int (1 : Int32)), .unset] [(.int (1 : Int32))])) rfl (by rw [hml]; rfl) (argsL := [(.int (1 : Int32))]) (rest := []) (lenOf pd__Z_Lcom_example_watermark_watermark_server_TransactionState_Phase_ rfl) rfl (by show 2 * 0 + _ ≤ _; exact Nat.le_of_eq rfl) (hb hby at_139) (fun _ _ => ⟨rfl, e242, (by decide : 1 + 0 ≤ _), (by decide : 6 + 0 ≤ _)⟩)
      dsimp only [Pt.U, Pt.locs, Pt.cells, Pt.slots] at X245 l245 y245 z245 st245 hQ245
      subst l245 y245 z245
      obtain ⟨rfl, N245q, e245⟩ := hQ245
      have N245 := Fr.app N242 N245q
      have P246 : ∀ t, Steps p.tables e below (T245.setTop (mkF m 142 #[.val (.int p1), .val (.int p2), .val (.ref b2), .val (.int (3 : Int32)), .val (.int (1 : Int32)), .val (.ref v3), .val (.int (1 : Int32)), .val (.int (1 : Int32)), .val (.int (1 : Int32)), .val (.int (1 : Int32)), .unset] [(.ref v4)])) t → Steps p.tables e below (s₁.setTop (mkF m 0 #[.val (.int p1), .val (.int p2), .unset, .unset, .unset, .unset, .unset, .unset, .unset, .unset, .unset] [])) t := fun t k => P244 t (st245 _ k)
      obtain ⟨cq247, kq247, q247a, q247b, q247c⟩ := isOf hZ e245 EX4_38
      obtain ⟨_, _, ⟨T247, L247, k247, n247⟩, -, X247, ⟨Lc247, hQ247, l247, y247, z247⟩, st247⟩ := X245.virtualBack hx (y := (⟨"com/example/watermark/watermark/server/TransactionState$Phase", "isEnding", "()Z"⟩ : MethodName)) (z := (⟨"com/example/watermark/watermark/server/TransactionState$Phase", "isEnding", "()Z"⟩ : MethodName)) hown (mvT hZ (hw _ (List.mem_of_getElem? (i := 17) rfl))) (mvT hZ (hw _ (List.mem_of_getElem? (i := 18) rfl))) (notFace_of_selects (args := #[]) (mvT hZ (hw _ (List.mem_of_getElem? (i := 20) rfl)))) (mvT hZ (hw _ (List.mem_of_getElem? (i := 20) rfl))) (mvT hZ (hw _ (List.mem_of_getElem? (i := 19) rfl))) (by decide) (backOf (W := 0) (rm1n l Z a0 hw [] v4 v2 v3 h38 n0 Z_39 S2_38 S3_38 n2_4 n3_4) hZ (hw _ (List.mem_of_getElem? (i := 21) rfl)) (hw _ (List.mem_of_getElem? (i := 3) rfl)) (by decide) (by decide)) q247a q247c (g := (mkF m 142 #[.val (.int p1), .val (.int p2), .val (.ref b2), .val (.int (3 : Int32)), .val (.int (1 : Int32)), .val (.ref v3), .val (.int (1 : Int32)), .val (.int (1 : Int32)), .val (.int (1 : Int32)), .val (.int (1 : Int32)), .unset] [(.ref v4)])) rfl (by rw [hml]; rfl) (Steps.refl _) (argsL := []) (rest := []) (lenOf pd___Z rfl) rfl (by show 2 * 0 + _ ≤ _; exact Nat.le_of_eq rfl) (hb hby at_142) (fun _ _ => ⟨rfl, e245, (by decide : 1 + 0 ≤ _), (by decide : 6 + 0 ≤ _)⟩)
      dsimp only [Pt.U, Pt.locs, Pt.cells, Pt.slots] at X247 l247 y247 z247 st247 hQ247
      subst l247 y247 z247
      obtain ⟨rfl, N247q, e247⟩ := hQ247
      have N247 := Fr.app N245 N247q
      have P248 : ∀ t, Steps p.tables e below (T247.setTop (mkF m 145 #[.val (.int p1), .val (.int p2), .val (.ref b2), .val (.int (3 : Int32)), .val (.int (1 : Int32)), .val (.ref v3), .val (.int (1 : Int32)), .val (.int (1 : Int32)), .val (.int (1 : Int32)), .val (.int (1 : Int32)), .unset] [(.int (0 : Int32))])) t → Steps p.tables e below (s₁.setTop (mkF m 0 #[.val (.int p1), .val (.int p2), .unset, .unset, .unset, .unset, .unset, .unset, .unset, .unset, .unset] [])) t := fun t k => P246 t (st247.trans k)
      have P249 : ∀ t, Steps p.tables e below (T247.setTop (mkF m 176 #[.val (.int p1), .val (.int p2), .val (.ref b2), .val (.int (3 : Int32)), .val (.int (1 : Int32)), .val (.ref v3), .val (.int (1 : Int32)), .val (.int (1 : Int32)), .val (.int (1 : Int32)), .val (.int (1 : Int32)), .val (.int (0 : Int32))] [(.int (1 : Int32))])) t → Steps p.tables e below (s₁.setTop (mkF m 0 #[.val (.int p1), .val (.int p2), .unset, .unset, .unset, .unset, .unset, .unset, .unset, .unset, .unset] [])) t := fun t k => by
        refine P248 t ?_
        show Steps p.tables e below (T247.setTop (mkF m 145 #[.val (.int p1), .val (.int p2), .val (.ref b2), .val (.int (3 : Int32)), .val (.int (1 : Int32)), .val (.ref v3), .val (.int (1 : Int32)), .val (.int (1 : Int32)), .val (.int (1 : Int32)), .val (.int (1 : Int32)), .unset] [(.int (0 : Int32))])) t
        refine XS.istore X247.here hx rfl (hb hby at_145) rfl (l' := #[.val (.int p1), .val (.int p2), .val (.ref b2), .val (.int (3 : Int32)), .val (.int (1 : Int32)), .val (.ref v3), .val (.int (1 : Int32)), .val (.int (1 : Int32)), .val (.int (1 : Int32)), .val (.int (1 : Int32)), .val (.int (0 : Int32))]) rfl ?_
        show Steps p.tables e below (T247.setTop (mkF m 147 #[.val (.int p1), .val (.int p2), .val (.ref b2), .val (.int (3 : Int32)), .val (.int (1 : Int32)), .val (.ref v3), .val (.int (1 : Int32)), .val (.int (1 : Int32)), .val (.int (1 : Int32)), .val (.int (1 : Int32)), .val (.int (0 : Int32))] [])) t
        refine XS.iload X247.here hx rfl (hb hby at_147) rfl ?_
        show Steps p.tables e below (T247.setTop (mkF m 149 #[.val (.int p1), .val (.int p2), .val (.ref b2), .val (.int (3 : Int32)), .val (.int (1 : Int32)), .val (.ref v3), .val (.int (1 : Int32)), .val (.int (1 : Int32)), .val (.int (1 : Int32)), .val (.int (1 : Int32)), .val (.int (0 : Int32))] [(.int (1 : Int32))])) t
        refine XS.iload X247.here hx rfl (hb hby at_149) rfl ?_
        show Steps p.tables e below (T247.setTop (mkF m 151 #[.val (.int p1), .val (.int p2), .val (.ref b2), .val (.int (3 : Int32)), .val (.int (1 : Int32)), .val (.ref v3), .val (.int (1 : Int32)), .val (.int (1 : Int32)), .val (.int (1 : Int32)), .val (.int (1 : Int32)), .val (.int (0 : Int32))] [(.int (1 : Int32)), (.int (1 : Int32))])) t
        refine XS.icmpNo X247.here hx rfl (hb hby at_151) rfl (teq rfl).2 ?_
        show Steps p.tables e below (T247.setTop (mkF m 154 #[.val (.int p1), .val (.int p2), .val (.ref b2), .val (.int (3 : Int32)), .val (.int (1 : Int32)), .val (.ref v3), .val (.int (1 : Int32)), .val (.int (1 : Int32)), .val (.int (1 : Int32)), .val (.int (1 : Int32)), .val (.int (0 : Int32))] [])) t
        refine XS.iload X247.here hx rfl (hb hby at_154) rfl ?_
        show Steps p.tables e below (T247.setTop (mkF m 156 #[.val (.int p1), .val (.int p2), .val (.ref b2), .val (.int (3 : Int32)), .val (.int (1 : Int32)), .val (.ref v3), .val (.int (1 : Int32)), .val (.int (1 : Int32)), .val (.int (1 : Int32)), .val (.int (1 : Int32)), .val (.int (0 : Int32))] [(.int (1 : Int32))])) t
        refine XS.iload X247.here hx rfl (hb hby at_156) rfl ?_
        show Steps p.tables e below (T247.setTop (mkF m 158 #[.val (.int p1), .val (.int p2), .val (.ref b2), .val (.int (3 : Int32)), .val (.int (1 : Int32)), .val (.ref v3), .val (.int (1 : Int32)), .val (.int (1 : Int32)), .val (.int (1 : Int32)), .val (.int (1 : Int32)), .val (.int (0 : Int32))] [(.int (1 : Int32)), (.int (1 : Int32))])) t
        refine XS.icmpNo X247.here hx rfl (hb hby at_158) rfl (teq rfl).2 ?_
        show Steps p.tables e below (T247.setTop (mkF m 161 #[.val (.int p1), .val (.int p2), .val (.ref b2), .val (.int (3 : Int32)), .val (.int (1 : Int32)), .val (.ref v3), .val (.int (1 : Int32)), .val (.int (1 : Int32)), .val (.int (1 : Int32)), .val (.int (1 : Int32)), .val (.int (0 : Int32))] [])) t
        refine XS.iload X247.here hx rfl (hb hby at_161) rfl ?_
        show Steps p.tables e below (T247.setTop (mkF m 163 #[.val (.int p1), .val (.int p2), .val (.ref b2), .val (.int (3 : Int32)), .val (.int (1 : Int32)), .val (.ref v3), .val (.int (1 : Int32)), .val (.int (1 : Int32)), .val (.int (1 : Int32)), .val (.int (1 : Int32)), .val (.int (0 : Int32))] [(.int (1 : Int32))])) t
        refine XS.ifNo X247.here hx rfl (hb hby at_163) rfl ((if0 _ _).trans (feq (by decide)).1) ?_
        show Steps p.tables e below (T247.setTop (mkF m 166 #[.val (.int p1), .val (.int p2), .val (.ref b2), .val (.int (3 : Int32)), .val (.int (1 : Int32)), .val (.ref v3), .val (.int (1 : Int32)), .val (.int (1 : Int32)), .val (.int (1 : Int32)), .val (.int (1 : Int32)), .val (.int (0 : Int32))] [])) t
        refine XS.iload X247.here hx rfl (hb hby at_166) rfl ?_
        show Steps p.tables e below (T247.setTop (mkF m 168 #[.val (.int p1), .val (.int p2), .val (.ref b2), .val (.int (3 : Int32)), .val (.int (1 : Int32)), .val (.ref v3), .val (.int (1 : Int32)), .val (.int (1 : Int32)), .val (.int (1 : Int32)), .val (.int (1 : Int32)), .val (.int (0 : Int32))] [(.int (0 : Int32))])) t
        refine XS.ifNo X247.here hx rfl (hb hby at_168) rfl ((if0 _ _).trans (teq rfl).2) ?_
        show Steps p.tables e below (T247.setTop (mkF m 171 #[.val (.int p1), .val (.int p2), .val (.ref b2), .val (.int (3 : Int32)), .val (.int (1 : Int32)), .val (.ref v3), .val (.int (1 : Int32)), .val (.int (1 : Int32)), .val (.int (1 : Int32)), .val (.int (1 : Int32)), .val (.int (0 : Int32))] [])) t
        refine XS.iconst X247.here hx rfl (hb hby at_171) ?_
        show Steps p.tables e below (T247.setTop (mkF m 172 #[.val (.int p1), .val (.int p2), .val (.ref b2), .val (.int (3 : Int32)), .val (.int (1 : Int32)), .val (.ref v3), .val (.int (1 : Int32)), .val (.int (1 : Int32)), .val (.int (1 : Int32)), .val (.int (1 : Int32)), .val (.int (0 : Int32))] [(.int (1 : Int32))])) t
        refine XS.goto X247.here hx rfl (pc0 := 172) (pc' := 176) rfl (hb hby at_172) (by decide) (by decide) ?_
        exact k
      obtain ⟨fs, hr, hrun, hended, hW, hsame⟩ := X247.leave (v := some (.int (1 : Int32))) (fun h => by rw [Bd.returns] at h; cases h)
      refine ⟨_, _, pre0 _ (P249 _ ?_), hrun, hended, _, _, rfl, ?_, ⟨_, rfl⟩, hW, hsame.mono (by decide) (by decide)⟩
      · exact retN X247 hx (t := .boolean) Bd.returns (by simp) (hb hby at_176) hr
      · show Q0 Z p1 p2 v0 v1 v2 v3 v4 v5 h0 n0 _ T247.heap _
        rw [e247]
        exact ⟨rfl, N247⟩
    · obtain ⟨cl250, Ar250, q250, S250_, N250_, H250_, G250_⟩ := V_b2_38
      have hin250 : ¬ ((4 : Int32) < 0 ∨ cl250.slots.size ≤ ((4 : Int32)).toNatClampNeg) := inb_of S250_ ⟨by decide, by decide⟩
      have P251 : ∀ t, Steps p.tables e below (T38.setTop (mkF m 87 #[.val (.int p1), .val (.int p2), .val (.ref b2), .val (.int (4 : Int32)), .val (.int (1 : Int32)), .val (.ref v4), .val (.int (0 : Int32)), .unset, .unset, .unset, .unset] [(.ref v4)])) t → Steps p.tables e below (s₁.setTop (mkF m 0 #[.val (.int p1), .val (.int p2), .unset, .unset, .unset, .unset, .unset, .unset, .unset, .unset, .unset] [])) t := fun t k => by
        refine P168 t ?_
        show Steps p.tables e below (T38.setTop (mkF m 63 #[.val (.int p1), .val (.int p2), .val (.ref b2), .val (.int (4 : Int32)), .val (.int (1 : Int32)), .unset, .unset, .unset, .unset, .unset, .unset] [])) t
        refine XS.aloadN X38.here hx rfl (hb hby at_63) rfl rfl ?_
        show Steps p.tables e below (T38.setTop (mkF m 64 #[.val (.int p1), .val (.int p2), .val (.ref b2), .val (.int (4 : Int32)), .val (.int (1 : Int32)), .unset, .unset, .unset, .unset, .unset, .unset] [(.ref b2)])) t
        refine XS.iloadN X38.here hx rfl (hb hby at_64) rfl ?_
        show Steps p.tables e below (T38.setTop (mkF m 65 #[.val (.int p1), .val (.int p2), .val (.ref b2), .val (.int (4 : Int32)), .val (.int (1 : Int32)), .unset, .unset, .unset, .unset, .unset, .unset] [(.int (4 : Int32)), (.ref b2)])) t
        refine X38.aaload hx (j := (4 : Int32)) (v := (.ref v4)) (by rw [e38]; exact Ar250.1) (State.isArrayOf_alike hZ.alike Ar250.2.1) rfl Ar250.2.2 hin250 (Has.at H250_ hin250 rfl) (g := (mkF m 65 #[.val (.int p1), .val (.int p2), .val (.ref b2), .val (.int (4 : Int32)), .val (.int (1 : Int32)), .unset, .unset, .unset, .unset, .unset, .unset] [(.int (4 : Int32)), (.ref b2)])) rfl rfl (hb hby at_65) _ ?_
        show Steps p.tables e below (T38.setTop (mkF m 66 #[.val (.int p1), .val (.int p2), .val (.ref b2), .val (.int (4 : Int32)), .val (.int (1 : Int32)), .unset, .unset, .unset, .unset, .unset, .unset] [(.ref v4)])) t
        refine XS.astore X38.here hx rfl (hb hby at_66) rfl rfl (l' := #[.val (.int p1), .val (.int p2), .val (.ref b2), .val (.int (4 : Int32)), .val (.int (1 : Int32)), .val (.ref v4), .unset, .unset, .unset, .unset, .unset]) rfl ?_
        show Steps p.tables e below (T38.setTop (mkF m 68 #[.val (.int p1), .val (.int p2), .val (.ref b2), .val (.int (4 : Int32)), .val (.int (1 : Int32)), .val (.ref v4), .unset, .unset, .unset, .unset, .unset] [])) t
        refine XS.iloadN X38.here hx rfl (hb hby at_68) rfl ?_
        show Steps p.tables e below (T38.setTop (mkF m 69 #[.val (.int p1), .val (.int p2), .val (.ref b2), .val (.int (4 : Int32)), .val (.int (1 : Int32)), .val (.ref v4), .unset, .unset, .unset, .unset, .unset] [(.int (4 : Int32))])) t
        refine XS.iconst X38.here hx rfl (hb hby at_69) ?_
        show Steps p.tables e below (T38.setTop (mkF m 70 #[.val (.int p1), .val (.int p2), .val (.ref b2), .val (.int (4 : Int32)), .val (.int (1 : Int32)), .val (.ref v4), .unset, .unset, .unset, .unset, .unset] [(.int (2 : Int32)), (.int (4 : Int32))])) t
        refine XS.icmpNo X38.here hx rfl (hb hby at_70) rfl (feq (by decide)).1 ?_
        show Steps p.tables e below (T38.setTop (mkF m 73 #[.val (.int p1), .val (.int p2), .val (.ref b2), .val (.int (4 : Int32)), .val (.int (1 : Int32)), .val (.ref v4), .unset, .unset, .unset, .unset, .unset] [])) t
        refine XS.iloadN X38.here hx rfl (hb hby at_73) rfl ?_
        show Steps p.tables e below (T38.setTop (mkF m 74 #[.val (.int p1), .val (.int p2), .val (.ref b2), .val (.int (4 : Int32)), .val (.int (1 : Int32)), .val (.ref v4), .unset, .unset, .unset, .unset, .unset] [(.int (4 : Int32))])) t
        refine XS.iconst X38.here hx rfl (hb hby at_74) ?_
        show Steps p.tables e below (T38.setTop (mkF m 75 #[.val (.int p1), .val (.int p2), .val (.ref b2), .val (.int (4 : Int32)), .val (.int (1 : Int32)), .val (.ref v4), .unset, .unset, .unset, .unset, .unset] [(.int (3 : Int32)), (.int (4 : Int32))])) t
        refine XS.icmpYes X38.here hx rfl (pc0 := 75) (pc' := 82) rfl (hb hby at_75) rfl (feq (by decide)).2 (by decide) (by decide) ?_
        show Steps p.tables e below (T38.setTop (mkF m 82 #[.val (.int p1), .val (.int p2), .val (.ref b2), .val (.int (4 : Int32)), .val (.int (1 : Int32)), .val (.ref v4), .unset, .unset, .unset, .unset, .unset] [])) t
        refine XS.iconst X38.here hx rfl (hb hby at_82) ?_
        show Steps p.tables e below (T38.setTop (mkF m 83 #[.val (.int p1), .val (.int p2), .val (.ref b2), .val (.int (4 : Int32)), .val (.int (1 : Int32)), .val (.ref v4), .unset, .unset, .unset, .unset, .unset] [(.int (0 : Int32))])) t
        refine XS.istore X38.here hx rfl (hb hby at_83) rfl (l' := #[.val (.int p1), .val (.int p2), .val (.ref b2), .val (.int (4 : Int32)), .val (.int (1 : Int32)), .val (.ref v4), .val (.int (0 : Int32)), .unset, .unset, .unset, .unset]) rfl ?_
        show Steps p.tables e below (T38.setTop (mkF m 85 #[.val (.int p1), .val (.int p2), .val (.ref b2), .val (.int (4 : Int32)), .val (.int (1 : Int32)), .val (.ref v4), .val (.int (0 : Int32)), .unset, .unset, .unset, .unset] [])) t
        refine XS.aload X38.here hx rfl (hb hby at_85) rfl rfl ?_
        exact k
      obtain ⟨cq252, kq252, q252a, q252b, q252c⟩ := isOf hZ e38 EX4_38
      obtain ⟨_, _, ⟨T252, L252, k252, n252⟩, -, X252, ⟨Lc252, hQ252, l252, y252, z252⟩, st252⟩ := X38.virtualBack hx (y := (⟨"com/example/watermark/watermark/server/TransactionState$Phase", "isEnding", "()Z"⟩ : MethodName)) (z := (⟨"com/example/watermark/watermark/server/TransactionState$Phase", "isEnding", "()Z"⟩ : MethodName)) hown (mvT hZ (hw _ (List.mem_of_getElem? (i := 17) rfl))) (mvT hZ (hw _ (List.mem_of_getElem? (i := 18) rfl))) (notFace_of_selects (args := #[]) (mvT hZ (hw _ (List.mem_of_getElem? (i := 20) rfl)))) (mvT hZ (hw _ (List.mem_of_getElem? (i := 20) rfl))) (mvT hZ (hw _ (List.mem_of_getElem? (i := 19) rfl))) (by decide) (backOf (W := 0) (rm1n l Z a0 hw [] v4 v2 v3 h38 n0 Z_39 S2_38 S3_38 n2_4 n3_4) hZ (hw _ (List.mem_of_getElem? (i := 21) rfl)) (hw _ (List.mem_of_getElem? (i := 3) rfl)) (by decide) (by decide)) q252a q252c (g := (mkF m 87 #[.val (.int p1), .val (.int p2), .val (.ref b2), .val (.int (4 : Int32)), .val (.int (1 : Int32)), .val (.ref v4), .val (.int (0 : Int32)), .unset, .unset, .unset, .unset] [(.ref v4)])) rfl (by rw [hml]; rfl) (Steps.refl _) (argsL := []) (rest := []) (lenOf pd___Z rfl) rfl (by show 2 * 0 + _ ≤ _; exact Nat.le_of_eq rfl) (hb hby at_87) (fun _ _ => ⟨rfl, e38, (by decide : 1 + 0 ≤ _), (by decide : 6 + 0 ≤ _)⟩)
      dsimp only [Pt.U, Pt.locs, Pt.cells, Pt.slots] at X252 l252 y252 z252 st252 hQ252
      subst l252 y252 z252
      obtain ⟨rfl, N252q, e252⟩ := hQ252
      have N252 := Fr.app N38 N252q
      have P253 : ∀ t, Steps p.tables e below (T252.setTop (mkF m 90 #[.val (.int p1), .val (.int p2), .val (.ref b2), .val (.int (4 : Int32)), .val (.int (1 : Int32)), .val (.ref v4), .val (.int (0 : Int32)), .unset, .unset, .unset, .unset] [(.int (0 : Int32))])) t → Steps p.tables e below (s₁.setTop (mkF m 0 #[.val (.int p1), .val (.int p2), .unset, .unset, .unset, .unset, .unset, .unset, .unset, .unset, .unset] [])) t := fun t k => P251 t (st252.trans k)
      have P254 : ∀ t, Steps p.tables e below (T252.setTop (mkF m 96 #[.val (.int p1), .val (.int p2), .val (.ref b2), .val (.int (4 : Int32)), .val (.int (1 : Int32)), .val (.ref v4), .val (.int (0 : Int32)), .val (.int (0 : Int32)), .unset, .unset, .unset] [(.int (1 : Int32)), (.ref v4)])) t → Steps p.tables e below (s₁.setTop (mkF m 0 #[.val (.int p1), .val (.int p2), .unset, .unset, .unset, .unset, .unset, .unset, .unset, .unset, .unset] [])) t := fun t k => by
        refine P253 t ?_
        show Steps p.tables e below (T252.setTop (mkF m 90 #[.val (.int p1), .val (.int p2), .val (.ref b2), .val (.int (4 : Int32)), .val (.int (1 : Int32)), .val (.ref v4), .val (.int (0 : Int32)), .unset, .unset, .unset, .unset] [(.int (0 : Int32))])) t
        refine XS.istore X252.here hx rfl (hb hby at_90) rfl (l' := #[.val (.int p1), .val (.int p2), .val (.ref b2), .val (.int (4 : Int32)), .val (.int (1 : Int32)), .val (.ref v4), .val (.int (0 : Int32)), .val (.int (0 : Int32)), .unset, .unset, .unset]) rfl ?_
        show Steps p.tables e below (T252.setTop (mkF m 92 #[.val (.int p1), .val (.int p2), .val (.ref b2), .val (.int (4 : Int32)), .val (.int (1 : Int32)), .val (.ref v4), .val (.int (0 : Int32)), .val (.int (0 : Int32)), .unset, .unset, .unset] [])) t
        refine XS.aload X252.here hx rfl (hb hby at_92) rfl rfl ?_
        show Steps p.tables e below (T252.setTop (mkF m 94 #[.val (.int p1), .val (.int p2), .val (.ref b2), .val (.int (4 : Int32)), .val (.int (1 : Int32)), .val (.ref v4), .val (.int (0 : Int32)), .val (.int (0 : Int32)), .unset, .unset, .unset] [(.ref v4)])) t
        refine XS.iload X252.here hx rfl (hb hby at_94) rfl ?_
        exact k
      obtain ⟨_, _, ⟨T255, L255, k255, n255⟩, -, X255, ⟨Lc255, hQ255, l255, y255, z255⟩, st255⟩ := Jvm.LawKit.callS X252 hx (y := (⟨"com/example/watermark/watermark/server/TransactionState$Phase", "prepare", "(Z)Lcom/example/watermark/watermark/server/TransactionState$Phase;"⟩ : MethodName)) hown (mvT hZ (hw _ (List.mem_of_getElem? (i := 24) rfl))) (mvT hZ (hw _ (List.mem_of_getElem? (i := 25) rfl))) (mvT hZ (hw _ (List.mem_of_getElem? (i := 3) rfl))) (mvT hZ (hw _ (List.mem_of_getElem? (i := 26) rfl))) (by decide) (backOf (W := 1) (rm2t l Z a0 hw [] (1 : Int32) v2 h38 n0 Z_39 S2_38 (by decide)) hZ (hw _ (List.mem_of_getElem? (i := 26) rfl)) (hw _ (List.mem_of_getElem? (i := 3) rfl)) (by decide) (by decide)) (g := (mkF m 96 #[.val (.int p1), .val (.int p2), .val (.ref b2), .val (.int (4 : Int32)), .val (.int (1 : Int32)), .val (.ref v4), .val (.int (0 : Int32)), .val (.int (0 : Int32)), .unset, .unset, .unset] [(.int (1 : Int32)), (.ref v4)])) rfl (by rw [hml]; rfl) (argsL := [(.int (1 : Int32))]) (rest := [(.ref v4)]) (lenOf pd__Z_Lcom_example_watermark_watermark_server_TransactionState_Phase_ rfl) rfl (by show 2 * 0 + _ ≤ _; exact Nat.le_of_eq rfl) (hb hby at_96) (fun _ _ => ⟨rfl, e252, (by decide : 1 + 0 ≤ _), (by decide : 6 + 0 ≤ _)⟩)
      dsimp only [Pt.U, Pt.locs, Pt.cells, Pt.slots] at X255 l255 y255 z255 st255 hQ255
      subst l255 y255 z255
      obtain ⟨rfl, N255q, e255⟩ := hQ255
      have N255 := Fr.app N252 N255q
      have P256 : ∀ t, Steps p.tables e below (T255.setTop (mkF m 99 #[.val (.int p1), .val (.int p2), .val (.ref b2), .val (.int (4 : Int32)), .val (.int (1 : Int32)), .val (.ref v4), .val (.int (0 : Int32)), .val (.int (0 : Int32)), .unset, .unset, .unset] [(.ref v2), (.ref v4)])) t → Steps p.tables e below (s₁.setTop (mkF m 0 #[.val (.int p1), .val (.int p2), .unset, .unset, .unset, .unset, .unset, .unset, .unset, .unset, .unset] [])) t := fun t k => P254 t (st255 _ k)
      have P257 : ∀ t, Steps p.tables e below (T255.setTop (mkF m 114 #[.val (.int p1), .val (.int p2), .val (.ref b2), .val (.int (4 : Int32)), .val (.int (1 : Int32)), .val (.ref v4), .val (.int (0 : Int32)), .val (.int (0 : Int32)), .unset, .unset, .unset] [(.int (0 : Int32)), (.ref v4)])) t → Steps p.tables e below (s₁.setTop (mkF m 0 #[.val (.int p1), .val (.int p2), .unset, .unset, .unset, .unset, .unset, .unset, .unset, .unset, .unset] [])) t := fun t k => by
        refine P256 t ?_
        show Steps p.tables e below (T255.setTop (mkF m 99 #[.val (.int p1), .val (.int p2), .val (.ref b2), .val (.int (4 : Int32)), .val (.int (1 : Int32)), .val (.ref v4), .val (.int (0 : Int32)), .val (.int (0 : Int32)), .unset, .unset, .unset] [(.ref v2), (.ref v4)])) t
        refine Jvm.RoadKit.acmp (g := (mkF m 99 #[.val (.int p1), .val (.int p2), .val (.ref b2), .val (.int (4 : Int32)), .val (.int (1 : Int32)), .val (.ref v4), .val (.int (0 : Int32)), .val (.int (0 : Int32)), .unset, .unset, .unset] [(.ref v2), (.ref v4)])) X255 hx rfl rfl rfl (pc0 := 99) (pc' := 102) (same := false) rfl (hb hby at_99) rfl (decide_eq_false fun q => n2_4 (Value.ref.inj q)) (by decide) (by decide) ?_
        show Steps p.tables e below (T255.setTop (mkF m 102 #[.val (.int p1), .val (.int p2), .val (.ref b2), .val (.int (4 : Int32)), .val (.int (1 : Int32)), .val (.ref v4), .val (.int (0 : Int32)), .val (.int (0 : Int32)), .unset, .unset, .unset] [])) t
        refine XS.aload X255.here hx rfl (hb hby at_102) rfl rfl ?_
        show Steps p.tables e below (T255.setTop (mkF m 104 #[.val (.int p1), .val (.int p2), .val (.ref b2), .val (.int (4 : Int32)), .val (.int (1 : Int32)), .val (.ref v4), .val (.int (0 : Int32)), .val (.int (0 : Int32)), .unset, .unset, .unset] [(.ref v4)])) t
        refine XS.iload X255.here hx rfl (hb hby at_104) rfl ?_
        show Steps p.tables e below (T255.setTop (mkF m 106 #[.val (.int p1), .val (.int p2), .val (.ref b2), .val (.int (4 : Int32)), .val (.int (1 : Int32)), .val (.ref v4), .val (.int (0 : Int32)), .val (.int (0 : Int32)), .unset, .unset, .unset] [(.int (1 : Int32)), (.ref v4)])) t
        refine XS.ifYes X255.here hx rfl (pc0 := 106) (pc' := 113) rfl (hb hby at_106) rfl ((if0 _ _).trans (feq (by decide)).2) (by decide) (by decide) ?_
        show Steps p.tables e below (T255.setTop (mkF m 113 #[.val (.int p1), .val (.int p2), .val (.ref b2), .val (.int (4 : Int32)), .val (.int (1 : Int32)), .val (.ref v4), .val (.int (0 : Int32)), .val (.int (0 : Int32)), .unset, .unset, .unset] [(.ref v4)])) t
        refine XS.iconst X255.here hx rfl (hb hby at_113) ?_
        exact k
      obtain ⟨_, _, ⟨T258, L258, k258, n258⟩, -, X258, ⟨Lc258, hQ258, l258, y258, z258⟩, st258⟩ := Jvm.LawKit.callS X255 hx (y := (⟨"com/example/watermark/watermark/server/TransactionState$Phase", "prepare", "(Z)Lcom/example/watermark/watermark/server/TransactionState$Phase;"⟩ : MethodName)) hown (mvT hZ (hw _ (List.mem_of_getElem? (i := 24) rfl))) (mvT hZ (hw _ (List.mem_of_getElem? (i := 25) rfl))) (mvT hZ (hw _ (List.mem_of_getElem? (i := 3) rfl))) (mvT hZ (hw _ (List.mem_of_getElem? (i := 26) rfl))) (by decide) (backOf (W := 1) (rm2f l Z a0 hw [] (0 : Int32) v3 h38 n0 Z_39 S3_38 rfl) hZ (hw _ (List.mem_of_getElem? (i := 26) rfl)) (hw _ (List.mem_of_getElem? (i := 3) rfl)) (by decide) (by decide)) (g := (mkF m 114 #[.val (.int p1), .val (.int p2), .val (.ref b2), .val (.int (4 : Int32)), .val (.int (1 : Int32)), .val (.ref v4), .val (.int (0 : Int32)), .val (.int (0 : Int32)), .unset, .unset, .unset] [(.int (0 : Int32)), (.ref v4)])) rfl (by rw [hml]; rfl) (argsL := [(.int (0 : Int32))]) (rest := [(.ref v4)]) (lenOf pd__Z_Lcom_example_watermark_watermark_server_TransactionState_Phase_ rfl) rfl (by show 2 * 0 + _ ≤ _; exact Nat.le_of_eq rfl) (hb hby at_114) (fun _ _ => ⟨rfl, e255, (by decide : 1 + 0 ≤ _), (by decide : 6 + 0 ≤ _)⟩)
      dsimp only [Pt.U, Pt.locs, Pt.cells, Pt.slots] at X258 l258 y258 z258 st258 hQ258
      subst l258 y258 z258
      obtain ⟨rfl, N258q, e258⟩ := hQ258
      have N258 := Fr.app N255 N258q
      have P259 : ∀ t, Steps p.tables e below (T258.setTop (mkF m 117 #[.val (.int p1), .val (.int p2), .val (.ref b2), .val (.int (4 : Int32)), .val (.int (1 : Int32)), .val (.ref v4), .val (.int (0 : Int32)), .val (.int (0 : Int32)), .unset, .unset, .unset] [(.ref v3), (.ref v4)])) t → Steps p.tables e below (s₁.setTop (mkF m 0 #[.val (.int p1), .val (.int p2), .unset, .unset, .unset, .unset, .unset, .unset, .unset, .unset, .unset] [])) t := fun t k => P257 t (st258 _ k)
      have P260 : ∀ t, Steps p.tables e below (T258.setTop (mkF m 129 #[.val (.int p1), .val (.int p2), .val (.ref b2), .val (.int (4 : Int32)), .val (.int (1 : Int32)), .val (.ref v4), .val (.int (0 : Int32)), .val (.int (0 : Int32)), .val (.int (0 : Int32)), .unset, .unset] [(.int (1 : Int32))])) t → Steps p.tables e below (s₁.setTop (mkF m 0 #[.val (.int p1), .val (.int p2), .unset, .unset, .unset, .unset, .unset, .unset, .unset, .unset, .unset] [])) t := fun t k => by
        refine P259 t ?_
        show Steps p.tables e below (T258.setTop (mkF m 117 #[.val (.int p1), .val (.int p2), .val (.ref b2), .val (.int (4 : Int32)), .val (.int (1 : Int32)), .val (.ref v4), .val (.int (0 : Int32)), .val (.int (0 : Int32)), .unset, .unset, .unset] [(.ref v3), (.ref v4)])) t
        refine Jvm.RoadKit.acmp (g := (mkF m 117 #[.val (.int p1), .val (.int p2), .val (.ref b2), .val (.int (4 : Int32)), .val (.int (1 : Int32)), .val (.ref v4), .val (.int (0 : Int32)), .val (.int (0 : Int32)), .unset, .unset, .unset] [(.ref v3), (.ref v4)])) X258 hx rfl rfl rfl (pc0 := 117) (pc' := 124) (same := false) rfl (hb hby at_117) rfl (decide_eq_false fun q => n3_4 (Value.ref.inj q)) (by decide) (by decide) ?_
        show Steps p.tables e below (T258.setTop (mkF m 124 #[.val (.int p1), .val (.int p2), .val (.ref b2), .val (.int (4 : Int32)), .val (.int (1 : Int32)), .val (.ref v4), .val (.int (0 : Int32)), .val (.int (0 : Int32)), .unset, .unset, .unset] [])) t
        refine XS.iconst X258.here hx rfl (hb hby at_124) ?_
        show Steps p.tables e below (T258.setTop (mkF m 125 #[.val (.int p1), .val (.int p2), .val (.ref b2), .val (.int (4 : Int32)), .val (.int (1 : Int32)), .val (.ref v4), .val (.int (0 : Int32)), .val (.int (0 : Int32)), .unset, .unset, .unset] [(.int (0 : Int32))])) t
        refine XS.istore X258.here hx rfl (hb hby at_125) rfl (l' := #[.val (.int p1), .val (.int p2), .val (.ref b2), .val (.int (4 : Int32)), .val (.int (1 : Int32)), .val (.ref v4), .val (.int (0 : Int32)), .val (.int (0 : Int32)), .val (.int (0 : Int32)), .unset, .unset]) rfl ?_
        show Steps p.tables e below (T258.setTop (mkF m 127 #[.val (.int p1), .val (.int p2), .val (.ref b2), .val (.int (4 : Int32)), .val (.int (1 : Int32)), .val (.ref v4), .val (.int (0 : Int32)), .val (.int (0 : Int32)), .val (.int (0 : Int32)), .unset, .unset] [])) t
        refine XS.iload X258.here hx rfl (hb hby at_127) rfl ?_
        exact k
      obtain ⟨_, _, ⟨T261, L261, k261, n261⟩, -, X261, ⟨Lc261, hQ261, l261, y261, z261⟩, st261⟩ := Jvm.LawKit.callS X258 hx (y := (⟨"com/example/watermark/watermark/server/TransactionState$Phase", "prepare", "(Z)Lcom/example/watermark/watermark/server/TransactionState$Phase;"⟩ : MethodName)) hown (mvT hZ (hw _ (List.mem_of_getElem? (i := 24) rfl))) (mvT hZ (hw _ (List.mem_of_getElem? (i := 25) rfl))) (mvT hZ (hw _ (List.mem_of_getElem? (i := 3) rfl))) (mvT hZ (hw _ (List.mem_of_getElem? (i := 26) rfl))) (by decide) (backOf (W := 0) (rm2t l Z a0 hw [] (1 : Int32) v2 h38 n0 Z_39 S2_38 (by decide)) hZ (hw _ (List.mem_of_getElem? (i := 26) rfl)) (hw _ (List.mem_of_getElem? (i := 3) rfl)) (by decide) (by decide)) (g := (mkF m 129 #[.val (.int p1), .val (.int p2), .val (.ref b2), .val (.int (4 : Int32)), .val (.int (1 : Int32)), .val (.ref v4), .val (.int (0 : Int32)), .val (.int (0 : Int32)), .val (.int (0 : Int32)), .unset, .unset] [(.int (1 : Int32))])) rfl (by rw [hml]; rfl) (argsL := [(.int (1 : Int32))]) (rest := []) (lenOf pd__Z_Lcom_example_watermark_watermark_server_TransactionState_Phase_ rfl) rfl (by show 2 * 0 + _ ≤ _; exact Nat.le_of_eq rfl) (hb hby at_129) (fun _ _ => ⟨rfl, e258, (by decide : 1 + 0 ≤ _), (by decide : 6 + 0 ≤ _)⟩)
      dsimp only [Pt.U, Pt.locs, Pt.cells, Pt.slots] at X261 l261 y261 z261 st261 hQ261
      subst l261 y261 z261
      obtain ⟨rfl, N261q, e261⟩ := hQ261
      have N261 := Fr.app N258 N261q
      have P262 : ∀ t, Steps p.tables e below (T261.setTop (mkF m 132 #[.val (.int p1), .val (.int p2), .val (.ref b2), .val (.int (4 : Int32)), .val (.int (1 : Int32)), .val (.ref v4), .val (.int (0 : Int32)), .val (.int (0 : Int32)), .val (.int (0 : Int32)), .unset, .unset] [(.ref v2)])) t → Steps p.tables e below (s₁.setTop (mkF m 0 #[.val (.int p1), .val (.int p2), .unset, .unset, .unset, .unset, .unset, .unset, .unset, .unset, .unset] [])) t := fun t k => P260 t (st261 _ k)
      obtain ⟨cq263, kq263, q263a, q263b, q263c⟩ := isOf hZ e261 EX2_38
      obtain ⟨_, _, ⟨T263, L263, k263, n263⟩, -, X263, ⟨Lc263, hQ263, l263, y263, z263⟩, st263⟩ := X261.virtualBack hx (y := (⟨"com/example/watermark/watermark/server/TransactionState$Phase", "isEnding", "()Z"⟩ : MethodName)) (z := (⟨"com/example/watermark/watermark/server/TransactionState$Phase", "isEnding", "()Z"⟩ : MethodName)) hown (mvT hZ (hw _ (List.mem_of_getElem? (i := 17) rfl))) (mvT hZ (hw _ (List.mem_of_getElem? (i := 18) rfl))) (notFace_of_selects (args := #[]) (mvT hZ (hw _ (List.mem_of_getElem? (i := 20) rfl)))) (mvT hZ (hw _ (List.mem_of_getElem? (i := 20) rfl))) (mvT hZ (hw _ (List.mem_of_getElem? (i := 19) rfl))) (by decide) (backOf (W := 0) (rm1c l Z a0 hw [] v2 v2 v3 h38 n0 Z_39 S2_38 S3_38 rfl) hZ (hw _ (List.mem_of_getElem? (i := 21) rfl)) (hw _ (List.mem_of_getElem? (i := 3) rfl)) (by decide) (by decide)) q263a q263c (g := (mkF m 132 #[.val (.int p1), .val (.int p2), .val (.ref b2), .val (.int (4 : Int32)), .val (.int (1 : Int32)), .val (.ref v4), .val (.int (0 : Int32)), .val (.int (0 : Int32)), .val (.int (0 : Int32)), .unset, .unset] [(.ref v2)])) rfl (by rw [hml]; rfl) (Steps.refl _) (argsL := []) (rest := []) (lenOf pd___Z rfl) rfl (by show 2 * 0 + _ ≤ _; exact Nat.le_of_eq rfl) (hb hby at_132) (fun _ _ => ⟨rfl, e261, (by decide : 1 + 0 ≤ _), (by decide : 6 + 0 ≤ _)⟩)
      dsimp only [Pt.U, Pt.locs, Pt.cells, Pt.slots] at X263 l263 y263 z263 st263 hQ263
      subst l263 y263 z263
      obtain ⟨rfl, N263q, e263⟩ := hQ263
      have N263 := Fr.app N261 N263q
      have P264 : ∀ t, Steps p.tables e below (T263.setTop (mkF m 135 #[.val (.int p1), .val (.int p2), .val (.ref b2), .val (.int (4 : Int32)), .val (.int (1 : Int32)), .val (.ref v4), .val (.int (0 : Int32)), .val (.int (0 : Int32)), .val (.int (0 : Int32)), .unset, .unset] [(.int (1 : Int32))])) t → Steps p.tables e below (s₁.setTop (mkF m 0 #[.val (.int p1), .val (.int p2), .unset, .unset, .unset, .unset, .unset, .unset, .unset, .unset, .unset] [])) t := fun t k => P262 t (st263.trans k)
      have P265 : ∀ t, Steps p.tables e below (T263.setTop (mkF m 139 #[.val (.int p1), .val (.int p2), .val (.ref b2), .val (.int (4 : Int32)), .val (.int (1 : Int32)), .val (.ref v4), .val (.int (0 : Int32)), .val (.int (0 : Int32)), .val (.int (0 : Int32)), .val (.int (1 : Int32)), .unset] [(.int (1 : Int32))])) t → Steps p.tables e below (s₁.setTop (mkF m 0 #[.val (.int p1), .val (.int p2), .unset, .unset, .unset, .unset, .unset, .unset, .unset, .unset, .unset] [])) t := fun t k => by
        refine P264 t ?_
        show Steps p.tables e below (T263.setTop (mkF m 135 #[.val (.int p1), .val (.int p2), .val (.ref b2), .val (.int (4 : Int32)), .val (.int (1 : Int32)), .val (.ref v4), .val (.int (0 : Int32)), .val (.int (0 : Int32)), .val (.int (0 : Int32)), .unset, .unset] [(.int (1 : Int32))])) t
        refine XS.istore X263.here hx rfl (hb hby at_135) rfl (l' := #[.val (.int p1), .val (.int p2), .val (.ref b2), .val (.int (4 : Int32)), .val (.int (1 : Int32)), .val (.ref v4), .val (.int (0 : Int32)), .val (.int (0 : Int32)), .val (.int (0 : Int32)), .val (.int (1 : Int32)), .unset]) rfl ?_
        show Steps p.tables e below (T263.setTop (mkF m 137 #[.val (.int p1), .val (.int p2), .val (.ref b2), .val (.int (4 : Int32)), .val (.int (1 : Int32)), .val (.ref v4), .val (.int (0 : Int32)), .val (.int (0 : Int32)), .val (.int (0 : Int32)), .val (.int (1 : Int32)), .unset] [])) t
        refine XS.iload X263.here hx rfl (hb hby at_137) rfl ?_
        exact k
      obtain ⟨_, _, ⟨T266, L266, k266, n266⟩, -, X266, ⟨Lc266, hQ266, l266, y266, z266⟩, st266⟩ := Jvm.LawKit.callS X263 hx (y := (⟨"com/example/watermark/watermark/server/TransactionState$Phase", "complete", "(Z)Lcom/example/watermark/watermark/server/TransactionState$Phase;"⟩ : MethodName)) hown (mvT hZ (hw _ (List.mem_of_getElem? (i := 27) rfl))) (mvT hZ (hw _ (List.mem_of_getElem? (i := 28) rfl))) (mvT hZ (hw _ (List.mem_of_getElem? (i := 3) rfl))) (mvT hZ (hw _ (List.mem_of_getElem? (i := 29) rfl))) (by decide) (backOf (W := 0) (rm3t l Z a0 hw [] (1 : Int32) v4 h38 n0 Z_39 S4_38 (by decide)) hZ (hw _ (List.mem_of_getElem? (i := 29) rfl)) (hw _ (List.mem_of_getElem? (i := 3) rfl)) (by decide) (by decide)) (g := (mkF m 139 #[.val (.int p1), .val (.int p2), .val (.ref b2), .val (.int (4 : Int32)), .val (.int (1 : Int32)), .val (.ref v4), .val (.int (0 : Int32)), .val (.int (0 : Int32)), .val (.int (0 : Int32)), .val (.int (1 : Int32)), .unset] [(.int (1 : Int32))])) rfl (by rw [hml]; rfl) (argsL := [(.int (1 : Int32))]) (rest := []) (lenOf pd__Z_Lcom_example_watermark_watermark_server_TransactionState_Phase_ rfl) rfl (by show 2 * 0 + _ ≤ _; exact Nat.le_of_eq rfl) (hb hby at_139) (fun _ _ => ⟨rfl, e263, (by decide : 1 + 0 ≤ _), (by decide : 6 + 0 ≤ _)⟩)
      dsimp only [Pt.U, Pt.locs, Pt.cells, Pt.slots] at X266 l266 y266 z266 st266 hQ266
      subst l266 y266 z266
      obtain ⟨rfl, N266q, e266⟩ := hQ266
      have N266 := Fr.app N263 N266q
      have P267 : ∀ t, Steps p.tables e below (T266.setTop (mkF m 142 #[.val (.int p1), .val (.int p2), .val (.ref b2), .val (.int (4 : Int32)), .val (.int (1 : Int32)), .val (.ref v4), .val (.int (0 : Int32)), .val (.int (0 : Int32)), .val (.int (0 : Int32)), .val (.int (1 : Int32)), .unset] [(.ref v4)])) t → Steps p.tables e below (s₁.setTop (mkF m 0 #[.val (.int p1), .val (.int p2), .unset, .unset, .unset, .unset, .unset, .unset, .unset, .unset, .unset] [])) t := fun t k => P265 t (st266 _ k)
      obtain ⟨cq268, kq268, q268a, q268b, q268c⟩ := isOf hZ e266 EX4_38
      obtain ⟨_, _, ⟨T268, L268, k268, n268⟩, -, X268, ⟨Lc268, hQ268, l268, y268, z268⟩, st268⟩ := X266.virtualBack hx (y := (⟨"com/example/watermark/watermark/server/TransactionState$Phase", "isEnding", "()Z"⟩ : MethodName)) (z := (⟨"com/example/watermark/watermark/server/TransactionState$Phase", "isEnding", "()Z"⟩ : MethodName)) hown (mvT hZ (hw _ (List.mem_of_getElem? (i := 17) rfl))) (mvT hZ (hw _ (List.mem_of_getElem? (i := 18) rfl))) (notFace_of_selects (args := #[]) (mvT hZ (hw _ (List.mem_of_getElem? (i := 20) rfl)))) (mvT hZ (hw _ (List.mem_of_getElem? (i := 20) rfl))) (mvT hZ (hw _ (List.mem_of_getElem? (i := 19) rfl))) (by decide) (backOf (W := 0) (rm1n l Z a0 hw [] v4 v2 v3 h38 n0 Z_39 S2_38 S3_38 n2_4 n3_4) hZ (hw _ (List.mem_of_getElem? (i := 21) rfl)) (hw _ (List.mem_of_getElem? (i := 3) rfl)) (by decide) (by decide)) q268a q268c (g := (mkF m 142 #[.val (.int p1), .val (.int p2), .val (.ref b2), .val (.int (4 : Int32)), .val (.int (1 : Int32)), .val (.ref v4), .val (.int (0 : Int32)), .val (.int (0 : Int32)), .val (.int (0 : Int32)), .val (.int (1 : Int32)), .unset] [(.ref v4)])) rfl (by rw [hml]; rfl) (Steps.refl _) (argsL := []) (rest := []) (lenOf pd___Z rfl) rfl (by show 2 * 0 + _ ≤ _; exact Nat.le_of_eq rfl) (hb hby at_142) (fun _ _ => ⟨rfl, e266, (by decide : 1 + 0 ≤ _), (by decide : 6 + 0 ≤ _)⟩)
      dsimp only [Pt.U, Pt.locs, Pt.cells, Pt.slots] at X268 l268 y268 z268 st268 hQ268
      subst l268 y268 z268
      obtain ⟨rfl, N268q, e268⟩ := hQ268
      have N268 := Fr.app N266 N268q
      have P269 : ∀ t, Steps p.tables e below (T268.setTop (mkF m 145 #[.val (.int p1), .val (.int p2), .val (.ref b2), .val (.int (4 : Int32)), .val (.int (1 : Int32)), .val (.ref v4), .val (.int (0 : Int32)), .val (.int (0 : Int32)), .val (.int (0 : Int32)), .val (.int (1 : Int32)), .unset] [(.int (0 : Int32))])) t → Steps p.tables e below (s₁.setTop (mkF m 0 #[.val (.int p1), .val (.int p2), .unset, .unset, .unset, .unset, .unset, .unset, .unset, .unset, .unset] [])) t := fun t k => P267 t (st268.trans k)
      have P270 : ∀ t, Steps p.tables e below (T268.setTop (mkF m 176 #[.val (.int p1), .val (.int p2), .val (.ref b2), .val (.int (4 : Int32)), .val (.int (1 : Int32)), .val (.ref v4), .val (.int (0 : Int32)), .val (.int (0 : Int32)), .val (.int (0 : Int32)), .val (.int (1 : Int32)), .val (.int (0 : Int32))] [(.int (1 : Int32))])) t → Steps p.tables e below (s₁.setTop (mkF m 0 #[.val (.int p1), .val (.int p2), .unset, .unset, .unset, .unset, .unset, .unset, .unset, .unset, .unset] [])) t := fun t k => by
        refine P269 t ?_
        show Steps p.tables e below (T268.setTop (mkF m 145 #[.val (.int p1), .val (.int p2), .val (.ref b2), .val (.int (4 : Int32)), .val (.int (1 : Int32)), .val (.ref v4), .val (.int (0 : Int32)), .val (.int (0 : Int32)), .val (.int (0 : Int32)), .val (.int (1 : Int32)), .unset] [(.int (0 : Int32))])) t
        refine XS.istore X268.here hx rfl (hb hby at_145) rfl (l' := #[.val (.int p1), .val (.int p2), .val (.ref b2), .val (.int (4 : Int32)), .val (.int (1 : Int32)), .val (.ref v4), .val (.int (0 : Int32)), .val (.int (0 : Int32)), .val (.int (0 : Int32)), .val (.int (1 : Int32)), .val (.int (0 : Int32))]) rfl ?_
        show Steps p.tables e below (T268.setTop (mkF m 147 #[.val (.int p1), .val (.int p2), .val (.ref b2), .val (.int (4 : Int32)), .val (.int (1 : Int32)), .val (.ref v4), .val (.int (0 : Int32)), .val (.int (0 : Int32)), .val (.int (0 : Int32)), .val (.int (1 : Int32)), .val (.int (0 : Int32))] [])) t
        refine XS.iload X268.here hx rfl (hb hby at_147) rfl ?_
        show Steps p.tables e below (T268.setTop (mkF m 149 #[.val (.int p1), .val (.int p2), .val (.ref b2), .val (.int (4 : Int32)), .val (.int (1 : Int32)), .val (.ref v4), .val (.int (0 : Int32)), .val (.int (0 : Int32)), .val (.int (0 : Int32)), .val (.int (1 : Int32)), .val (.int (0 : Int32))] [(.int (0 : Int32))])) t
        refine XS.iload X268.here hx rfl (hb hby at_149) rfl ?_
        show Steps p.tables e below (T268.setTop (mkF m 151 #[.val (.int p1), .val (.int p2), .val (.ref b2), .val (.int (4 : Int32)), .val (.int (1 : Int32)), .val (.ref v4), .val (.int (0 : Int32)), .val (.int (0 : Int32)), .val (.int (0 : Int32)), .val (.int (1 : Int32)), .val (.int (0 : Int32))] [(.int (0 : Int32)), (.int (0 : Int32))])) t
        refine XS.icmpNo X268.here hx rfl (hb hby at_151) rfl (teq rfl).2 ?_
        show Steps p.tables e below (T268.setTop (mkF m 154 #[.val (.int p1), .val (.int p2), .val (.ref b2), .val (.int (4 : Int32)), .val (.int (1 : Int32)), .val (.ref v4), .val (.int (0 : Int32)), .val (.int (0 : Int32)), .val (.int (0 : Int32)), .val (.int (1 : Int32)), .val (.int (0 : Int32))] [])) t
        refine XS.iload X268.here hx rfl (hb hby at_154) rfl ?_
        show Steps p.tables e below (T268.setTop (mkF m 156 #[.val (.int p1), .val (.int p2), .val (.ref b2), .val (.int (4 : Int32)), .val (.int (1 : Int32)), .val (.ref v4), .val (.int (0 : Int32)), .val (.int (0 : Int32)), .val (.int (0 : Int32)), .val (.int (1 : Int32)), .val (.int (0 : Int32))] [(.int (0 : Int32))])) t
        refine XS.iload X268.here hx rfl (hb hby at_156) rfl ?_
        show Steps p.tables e below (T268.setTop (mkF m 158 #[.val (.int p1), .val (.int p2), .val (.ref b2), .val (.int (4 : Int32)), .val (.int (1 : Int32)), .val (.ref v4), .val (.int (0 : Int32)), .val (.int (0 : Int32)), .val (.int (0 : Int32)), .val (.int (1 : Int32)), .val (.int (0 : Int32))] [(.int (0 : Int32)), (.int (0 : Int32))])) t
        refine XS.icmpNo X268.here hx rfl (hb hby at_158) rfl (teq rfl).2 ?_
        show Steps p.tables e below (T268.setTop (mkF m 161 #[.val (.int p1), .val (.int p2), .val (.ref b2), .val (.int (4 : Int32)), .val (.int (1 : Int32)), .val (.ref v4), .val (.int (0 : Int32)), .val (.int (0 : Int32)), .val (.int (0 : Int32)), .val (.int (1 : Int32)), .val (.int (0 : Int32))] [])) t
        refine XS.iload X268.here hx rfl (hb hby at_161) rfl ?_
        show Steps p.tables e below (T268.setTop (mkF m 163 #[.val (.int p1), .val (.int p2), .val (.ref b2), .val (.int (4 : Int32)), .val (.int (1 : Int32)), .val (.ref v4), .val (.int (0 : Int32)), .val (.int (0 : Int32)), .val (.int (0 : Int32)), .val (.int (1 : Int32)), .val (.int (0 : Int32))] [(.int (1 : Int32))])) t
        refine XS.ifNo X268.here hx rfl (hb hby at_163) rfl ((if0 _ _).trans (feq (by decide)).1) ?_
        show Steps p.tables e below (T268.setTop (mkF m 166 #[.val (.int p1), .val (.int p2), .val (.ref b2), .val (.int (4 : Int32)), .val (.int (1 : Int32)), .val (.ref v4), .val (.int (0 : Int32)), .val (.int (0 : Int32)), .val (.int (0 : Int32)), .val (.int (1 : Int32)), .val (.int (0 : Int32))] [])) t
        refine XS.iload X268.here hx rfl (hb hby at_166) rfl ?_
        show Steps p.tables e below (T268.setTop (mkF m 168 #[.val (.int p1), .val (.int p2), .val (.ref b2), .val (.int (4 : Int32)), .val (.int (1 : Int32)), .val (.ref v4), .val (.int (0 : Int32)), .val (.int (0 : Int32)), .val (.int (0 : Int32)), .val (.int (1 : Int32)), .val (.int (0 : Int32))] [(.int (0 : Int32))])) t
        refine XS.ifNo X268.here hx rfl (hb hby at_168) rfl ((if0 _ _).trans (teq rfl).2) ?_
        show Steps p.tables e below (T268.setTop (mkF m 171 #[.val (.int p1), .val (.int p2), .val (.ref b2), .val (.int (4 : Int32)), .val (.int (1 : Int32)), .val (.ref v4), .val (.int (0 : Int32)), .val (.int (0 : Int32)), .val (.int (0 : Int32)), .val (.int (1 : Int32)), .val (.int (0 : Int32))] [])) t
        refine XS.iconst X268.here hx rfl (hb hby at_171) ?_
        show Steps p.tables e below (T268.setTop (mkF m 172 #[.val (.int p1), .val (.int p2), .val (.ref b2), .val (.int (4 : Int32)), .val (.int (1 : Int32)), .val (.ref v4), .val (.int (0 : Int32)), .val (.int (0 : Int32)), .val (.int (0 : Int32)), .val (.int (1 : Int32)), .val (.int (0 : Int32))] [(.int (1 : Int32))])) t
        refine XS.goto X268.here hx rfl (pc0 := 172) (pc' := 176) rfl (hb hby at_172) (by decide) (by decide) ?_
        exact k
      obtain ⟨fs, hr, hrun, hended, hW, hsame⟩ := X268.leave (v := some (.int (1 : Int32))) (fun h => by rw [Bd.returns] at h; cases h)
      refine ⟨_, _, pre0 _ (P270 _ ?_), hrun, hended, _, _, rfl, ?_, ⟨_, rfl⟩, hW, hsame.mono (by decide) (by decide)⟩
      · exact retN X268 hx (t := .boolean) Bd.returns (by simp) (hb hby at_176) hr
      · show Q0 Z p1 p2 v0 v1 v2 v3 v4 v5 h0 n0 _ T268.heap _
        rw [e268]
        exact ⟨rfl, N268⟩
    · obtain ⟨cl271, Ar271, q271, S271_, N271_, H271_, G271_⟩ := V_b2_38
      have hin271 : ¬ ((5 : Int32) < 0 ∨ cl271.slots.size ≤ ((5 : Int32)).toNatClampNeg) := inb_of S271_ ⟨by decide, by decide⟩
      have P272 : ∀ t, Steps p.tables e below (T38.setTop (mkF m 87 #[.val (.int p1), .val (.int p2), .val (.ref b2), .val (.int (5 : Int32)), .val (.int (1 : Int32)), .val (.ref v5), .val (.int (0 : Int32)), .unset, .unset, .unset, .unset] [(.ref v5)])) t → Steps p.tables e below (s₁.setTop (mkF m 0 #[.val (.int p1), .val (.int p2), .unset, .unset, .unset, .unset, .unset, .unset, .unset, .unset, .unset] [])) t := fun t k => by
        refine P168 t ?_
        show Steps p.tables e below (T38.setTop (mkF m 63 #[.val (.int p1), .val (.int p2), .val (.ref b2), .val (.int (5 : Int32)), .val (.int (1 : Int32)), .unset, .unset, .unset, .unset, .unset, .unset] [])) t
        refine XS.aloadN X38.here hx rfl (hb hby at_63) rfl rfl ?_
        show Steps p.tables e below (T38.setTop (mkF m 64 #[.val (.int p1), .val (.int p2), .val (.ref b2), .val (.int (5 : Int32)), .val (.int (1 : Int32)), .unset, .unset, .unset, .unset, .unset, .unset] [(.ref b2)])) t
        refine XS.iloadN X38.here hx rfl (hb hby at_64) rfl ?_
        show Steps p.tables e below (T38.setTop (mkF m 65 #[.val (.int p1), .val (.int p2), .val (.ref b2), .val (.int (5 : Int32)), .val (.int (1 : Int32)), .unset, .unset, .unset, .unset, .unset, .unset] [(.int (5 : Int32)), (.ref b2)])) t
        refine X38.aaload hx (j := (5 : Int32)) (v := (.ref v5)) (by rw [e38]; exact Ar271.1) (State.isArrayOf_alike hZ.alike Ar271.2.1) rfl Ar271.2.2 hin271 (Has.at H271_ hin271 rfl) (g := (mkF m 65 #[.val (.int p1), .val (.int p2), .val (.ref b2), .val (.int (5 : Int32)), .val (.int (1 : Int32)), .unset, .unset, .unset, .unset, .unset, .unset] [(.int (5 : Int32)), (.ref b2)])) rfl rfl (hb hby at_65) _ ?_
        show Steps p.tables e below (T38.setTop (mkF m 66 #[.val (.int p1), .val (.int p2), .val (.ref b2), .val (.int (5 : Int32)), .val (.int (1 : Int32)), .unset, .unset, .unset, .unset, .unset, .unset] [(.ref v5)])) t
        refine XS.astore X38.here hx rfl (hb hby at_66) rfl rfl (l' := #[.val (.int p1), .val (.int p2), .val (.ref b2), .val (.int (5 : Int32)), .val (.int (1 : Int32)), .val (.ref v5), .unset, .unset, .unset, .unset, .unset]) rfl ?_
        show Steps p.tables e below (T38.setTop (mkF m 68 #[.val (.int p1), .val (.int p2), .val (.ref b2), .val (.int (5 : Int32)), .val (.int (1 : Int32)), .val (.ref v5), .unset, .unset, .unset, .unset, .unset] [])) t
        refine XS.iloadN X38.here hx rfl (hb hby at_68) rfl ?_
        show Steps p.tables e below (T38.setTop (mkF m 69 #[.val (.int p1), .val (.int p2), .val (.ref b2), .val (.int (5 : Int32)), .val (.int (1 : Int32)), .val (.ref v5), .unset, .unset, .unset, .unset, .unset] [(.int (5 : Int32))])) t
        refine XS.iconst X38.here hx rfl (hb hby at_69) ?_
        show Steps p.tables e below (T38.setTop (mkF m 70 #[.val (.int p1), .val (.int p2), .val (.ref b2), .val (.int (5 : Int32)), .val (.int (1 : Int32)), .val (.ref v5), .unset, .unset, .unset, .unset, .unset] [(.int (2 : Int32)), (.int (5 : Int32))])) t
        refine XS.icmpNo X38.here hx rfl (hb hby at_70) rfl (feq (by decide)).1 ?_
        show Steps p.tables e below (T38.setTop (mkF m 73 #[.val (.int p1), .val (.int p2), .val (.ref b2), .val (.int (5 : Int32)), .val (.int (1 : Int32)), .val (.ref v5), .unset, .unset, .unset, .unset, .unset] [])) t
        refine XS.iloadN X38.here hx rfl (hb hby at_73) rfl ?_
        show Steps p.tables e below (T38.setTop (mkF m 74 #[.val (.int p1), .val (.int p2), .val (.ref b2), .val (.int (5 : Int32)), .val (.int (1 : Int32)), .val (.ref v5), .unset, .unset, .unset, .unset, .unset] [(.int (5 : Int32))])) t
        refine XS.iconst X38.here hx rfl (hb hby at_74) ?_
        show Steps p.tables e below (T38.setTop (mkF m 75 #[.val (.int p1), .val (.int p2), .val (.ref b2), .val (.int (5 : Int32)), .val (.int (1 : Int32)), .val (.ref v5), .unset, .unset, .unset, .unset, .unset] [(.int (3 : Int32)), (.int (5 : Int32))])) t
        refine XS.icmpYes X38.here hx rfl (pc0 := 75) (pc' := 82) rfl (hb hby at_75) rfl (feq (by decide)).2 (by decide) (by decide) ?_
        show Steps p.tables e below (T38.setTop (mkF m 82 #[.val (.int p1), .val (.int p2), .val (.ref b2), .val (.int (5 : Int32)), .val (.int (1 : Int32)), .val (.ref v5), .unset, .unset, .unset, .unset, .unset] [])) t
        refine XS.iconst X38.here hx rfl (hb hby at_82) ?_
        show Steps p.tables e below (T38.setTop (mkF m 83 #[.val (.int p1), .val (.int p2), .val (.ref b2), .val (.int (5 : Int32)), .val (.int (1 : Int32)), .val (.ref v5), .unset, .unset, .unset, .unset, .unset] [(.int (0 : Int32))])) t
        refine XS.istore X38.here hx rfl (hb hby at_83) rfl (l' := #[.val (.int p1), .val (.int p2), .val (.ref b2), .val (.int (5 : Int32)), .val (.int (1 : Int32)), .val (.ref v5), .val (.int (0 : Int32)), .unset, .unset, .unset, .unset]) rfl ?_
        show Steps p.tables e below (T38.setTop (mkF m 85 #[.val (.int p1), .val (.int p2), .val (.ref b2), .val (.int (5 : Int32)), .val (.int (1 : Int32)), .val (.ref v5), .val (.int (0 : Int32)), .unset, .unset, .unset, .unset] [])) t
        refine XS.aload X38.here hx rfl (hb hby at_85) rfl rfl ?_
        exact k
      obtain ⟨cq273, kq273, q273a, q273b, q273c⟩ := isOf hZ e38 EX5_38
      obtain ⟨_, _, ⟨T273, L273, k273, n273⟩, -, X273, ⟨Lc273, hQ273, l273, y273, z273⟩, st273⟩ := X38.virtualBack hx (y := (⟨"com/example/watermark/watermark/server/TransactionState$Phase", "isEnding", "()Z"⟩ : MethodName)) (z := (⟨"com/example/watermark/watermark/server/TransactionState$Phase", "isEnding", "()Z"⟩ : MethodName)) hown (mvT hZ (hw _ (List.mem_of_getElem? (i := 17) rfl))) (mvT hZ (hw _ (List.mem_of_getElem? (i := 18) rfl))) (notFace_of_selects (args := #[]) (mvT hZ (hw _ (List.mem_of_getElem? (i := 20) rfl)))) (mvT hZ (hw _ (List.mem_of_getElem? (i := 20) rfl))) (mvT hZ (hw _ (List.mem_of_getElem? (i := 19) rfl))) (by decide) (backOf (W := 0) (rm1n l Z a0 hw [] v5 v2 v3 h38 n0 Z_39 S2_38 S3_38 n2_5 n3_5) hZ (hw _ (List.mem_of_getElem? (i := 21) rfl)) (hw _ (List.mem_of_getElem? (i := 3) rfl)) (by decide) (by decide)) q273a q273c (g := (mkF m 87 #[.val (.int p1), .val (.int p2), .val (.ref b2), .val (.int (5 : Int32)), .val (.int (1 : Int32)), .val (.ref v5), .val (.int (0 : Int32)), .unset, .unset, .unset, .unset] [(.ref v5)])) rfl (by rw [hml]; rfl) (Steps.refl _) (argsL := []) (rest := []) (lenOf pd___Z rfl) rfl (by show 2 * 0 + _ ≤ _; exact Nat.le_of_eq rfl) (hb hby at_87) (fun _ _ => ⟨rfl, e38, (by decide : 1 + 0 ≤ _), (by decide : 6 + 0 ≤ _)⟩)
      dsimp only [Pt.U, Pt.locs, Pt.cells, Pt.slots] at X273 l273 y273 z273 st273 hQ273
      subst l273 y273 z273
      obtain ⟨rfl, N273q, e273⟩ := hQ273
      have N273 := Fr.app N38 N273q
      have P274 : ∀ t, Steps p.tables e below (T273.setTop (mkF m 90 #[.val (.int p1), .val (.int p2), .val (.ref b2), .val (.int (5 : Int32)), .val (.int (1 : Int32)), .val (.ref v5), .val (.int (0 : Int32)), .unset, .unset, .unset, .unset] [(.int (0 : Int32))])) t → Steps p.tables e below (s₁.setTop (mkF m 0 #[.val (.int p1), .val (.int p2), .unset, .unset, .unset, .unset, .unset, .unset, .unset, .unset, .unset] [])) t := fun t k => P272 t (st273.trans k)
      have P275 : ∀ t, Steps p.tables e below (T273.setTop (mkF m 96 #[.val (.int p1), .val (.int p2), .val (.ref b2), .val (.int (5 : Int32)), .val (.int (1 : Int32)), .val (.ref v5), .val (.int (0 : Int32)), .val (.int (0 : Int32)), .unset, .unset, .unset] [(.int (1 : Int32)), (.ref v5)])) t → Steps p.tables e below (s₁.setTop (mkF m 0 #[.val (.int p1), .val (.int p2), .unset, .unset, .unset, .unset, .unset, .unset, .unset, .unset, .unset] [])) t := fun t k => by
        refine P274 t ?_
        show Steps p.tables e below (T273.setTop (mkF m 90 #[.val (.int p1), .val (.int p2), .val (.ref b2), .val (.int (5 : Int32)), .val (.int (1 : Int32)), .val (.ref v5), .val (.int (0 : Int32)), .unset, .unset, .unset, .unset] [(.int (0 : Int32))])) t
        refine XS.istore X273.here hx rfl (hb hby at_90) rfl (l' := #[.val (.int p1), .val (.int p2), .val (.ref b2), .val (.int (5 : Int32)), .val (.int (1 : Int32)), .val (.ref v5), .val (.int (0 : Int32)), .val (.int (0 : Int32)), .unset, .unset, .unset]) rfl ?_
        show Steps p.tables e below (T273.setTop (mkF m 92 #[.val (.int p1), .val (.int p2), .val (.ref b2), .val (.int (5 : Int32)), .val (.int (1 : Int32)), .val (.ref v5), .val (.int (0 : Int32)), .val (.int (0 : Int32)), .unset, .unset, .unset] [])) t
        refine XS.aload X273.here hx rfl (hb hby at_92) rfl rfl ?_
        show Steps p.tables e below (T273.setTop (mkF m 94 #[.val (.int p1), .val (.int p2), .val (.ref b2), .val (.int (5 : Int32)), .val (.int (1 : Int32)), .val (.ref v5), .val (.int (0 : Int32)), .val (.int (0 : Int32)), .unset, .unset, .unset] [(.ref v5)])) t
        refine XS.iload X273.here hx rfl (hb hby at_94) rfl ?_
        exact k
      obtain ⟨_, _, ⟨T276, L276, k276, n276⟩, -, X276, ⟨Lc276, hQ276, l276, y276, z276⟩, st276⟩ := Jvm.LawKit.callS X273 hx (y := (⟨"com/example/watermark/watermark/server/TransactionState$Phase", "prepare", "(Z)Lcom/example/watermark/watermark/server/TransactionState$Phase;"⟩ : MethodName)) hown (mvT hZ (hw _ (List.mem_of_getElem? (i := 24) rfl))) (mvT hZ (hw _ (List.mem_of_getElem? (i := 25) rfl))) (mvT hZ (hw _ (List.mem_of_getElem? (i := 3) rfl))) (mvT hZ (hw _ (List.mem_of_getElem? (i := 26) rfl))) (by decide) (backOf (W := 1) (rm2t l Z a0 hw [] (1 : Int32) v2 h38 n0 Z_39 S2_38 (by decide)) hZ (hw _ (List.mem_of_getElem? (i := 26) rfl)) (hw _ (List.mem_of_getElem? (i := 3) rfl)) (by decide) (by decide)) (g := (mkF m 96 #[.val (.int p1), .val (.int p2), .val (.ref b2), .val (.int (5 : Int32)), .val (.int (1 : Int32)), .val (.ref v5), .val (.int (0 : Int32)), .val (.int (0 : Int32)), .unset, .unset, .unset] [(.int (1 : Int32)), (.ref v5)])) rfl (by rw [hml]; rfl) (argsL := [(.int (1 : Int32))]) (rest := [(.ref v5)]) (lenOf pd__Z_Lcom_example_watermark_watermark_server_TransactionState_Phase_ rfl) rfl (by show 2 * 0 + _ ≤ _; exact Nat.le_of_eq rfl) (hb hby at_96) (fun _ _ => ⟨rfl, e273, (by decide : 1 + 0 ≤ _), (by decide : 6 + 0 ≤ _)⟩)
      dsimp only [Pt.U, Pt.locs, Pt.cells, Pt.slots] at X276 l276 y276 z276 st276 hQ276
      subst l276 y276 z276
      obtain ⟨rfl, N276q, e276⟩ := hQ276
      have N276 := Fr.app N273 N276q
      have P277 : ∀ t, Steps p.tables e below (T276.setTop (mkF m 99 #[.val (.int p1), .val (.int p2), .val (.ref b2), .val (.int (5 : Int32)), .val (.int (1 : Int32)), .val (.ref v5), .val (.int (0 : Int32)), .val (.int (0 : Int32)), .unset, .unset, .unset] [(.ref v2), (.ref v5)])) t → Steps p.tables e below (s₁.setTop (mkF m 0 #[.val (.int p1), .val (.int p2), .unset, .unset, .unset, .unset, .unset, .unset, .unset, .unset, .unset] [])) t := fun t k => P275 t (st276 _ k)
      have P278 : ∀ t, Steps p.tables e below (T276.setTop (mkF m 114 #[.val (.int p1), .val (.int p2), .val (.ref b2), .val (.int (5 : Int32)), .val (.int (1 : Int32)), .val (.ref v5), .val (.int (0 : Int32)), .val (.int (0 : Int32)), .unset, .unset, .unset] [(.int (0 : Int32)), (.ref v5)])) t → Steps p.tables e below (s₁.setTop (mkF m 0 #[.val (.int p1), .val (.int p2), .unset, .unset, .unset, .unset, .unset, .unset, .unset, .unset, .unset] [])) t := fun t k => by
        refine P277 t ?_
        show Steps p.tables e below (T276.setTop (mkF m 99 #[.val (.int p1), .val (.int p2), .val (.ref b2), .val (.int (5 : Int32)), .val (.int (1 : Int32)), .val (.ref v5), .val (.int (0 : Int32)), .val (.int (0 : Int32)), .unset, .unset, .unset] [(.ref v2), (.ref v5)])) t
        refine Jvm.RoadKit.acmp (g := (mkF m 99 #[.val (.int p1), .val (.int p2), .val (.ref b2), .val (.int (5 : Int32)), .val (.int (1 : Int32)), .val (.ref v5), .val (.int (0 : Int32)), .val (.int (0 : Int32)), .unset, .unset, .unset] [(.ref v2), (.ref v5)])) X276 hx rfl rfl rfl (pc0 := 99) (pc' := 102) (same := false) rfl (hb hby at_99) rfl (decide_eq_false fun q => n2_5 (Value.ref.inj q)) (by decide) (by decide) ?_
        show Steps p.tables e below (T276.setTop (mkF m 102 #[.val (.int p1), .val (.int p2), .val (.ref b2), .val (.int (5 : Int32)), .val (.int (1 : Int32)), .val (.ref v5), .val (.int (0 : Int32)), .val (.int (0 : Int32)), .unset, .unset, .unset] [])) t
        refine XS.aload X276.here hx rfl (hb hby at_102) rfl rfl ?_
        show Steps p.tables e below (T276.setTop (mkF m 104 #[.val (.int p1), .val (.int p2), .val (.ref b2), .val (.int (5 : Int32)), .val (.int (1 : Int32)), .val (.ref v5), .val (.int (0 : Int32)), .val (.int (0 : Int32)), .unset, .unset, .unset] [(.ref v5)])) t
        refine XS.iload X276.here hx rfl (hb hby at_104) rfl ?_
        show Steps p.tables e below (T276.setTop (mkF m 106 #[.val (.int p1), .val (.int p2), .val (.ref b2), .val (.int (5 : Int32)), .val (.int (1 : Int32)), .val (.ref v5), .val (.int (0 : Int32)), .val (.int (0 : Int32)), .unset, .unset, .unset] [(.int (1 : Int32)), (.ref v5)])) t
        refine XS.ifYes X276.here hx rfl (pc0 := 106) (pc' := 113) rfl (hb hby at_106) rfl ((if0 _ _).trans (feq (by decide)).2) (by decide) (by decide) ?_
        show Steps p.tables e below (T276.setTop (mkF m 113 #[.val (.int p1), .val (.int p2), .val (.ref b2), .val (.int (5 : Int32)), .val (.int (1 : Int32)), .val (.ref v5), .val (.int (0 : Int32)), .val (.int (0 : Int32)), .unset, .unset, .unset] [(.ref v5)])) t
        refine XS.iconst X276.here hx rfl (hb hby at_113) ?_
        exact k
      obtain ⟨_, _, ⟨T279, L279, k279, n279⟩, -, X279, ⟨Lc279, hQ279, l279, y279, z279⟩, st279⟩ := Jvm.LawKit.callS X276 hx (y := (⟨"com/example/watermark/watermark/server/TransactionState$Phase", "prepare", "(Z)Lcom/example/watermark/watermark/server/TransactionState$Phase;"⟩ : MethodName)) hown (mvT hZ (hw _ (List.mem_of_getElem? (i := 24) rfl))) (mvT hZ (hw _ (List.mem_of_getElem? (i := 25) rfl))) (mvT hZ (hw _ (List.mem_of_getElem? (i := 3) rfl))) (mvT hZ (hw _ (List.mem_of_getElem? (i := 26) rfl))) (by decide) (backOf (W := 1) (rm2f l Z a0 hw [] (0 : Int32) v3 h38 n0 Z_39 S3_38 rfl) hZ (hw _ (List.mem_of_getElem? (i := 26) rfl)) (hw _ (List.mem_of_getElem? (i := 3) rfl)) (by decide) (by decide)) (g := (mkF m 114 #[.val (.int p1), .val (.int p2), .val (.ref b2), .val (.int (5 : Int32)), .val (.int (1 : Int32)), .val (.ref v5), .val (.int (0 : Int32)), .val (.int (0 : Int32)), .unset, .unset, .unset] [(.int (0 : Int32)), (.ref v5)])) rfl (by rw [hml]; rfl) (argsL := [(.int (0 : Int32))]) (rest := [(.ref v5)]) (lenOf pd__Z_Lcom_example_watermark_watermark_server_TransactionState_Phase_ rfl) rfl (by show 2 * 0 + _ ≤ _; exact Nat.le_of_eq rfl) (hb hby at_114) (fun _ _ => ⟨rfl, e276, (by decide : 1 + 0 ≤ _), (by decide : 6 + 0 ≤ _)⟩)
      dsimp only [Pt.U, Pt.locs, Pt.cells, Pt.slots] at X279 l279 y279 z279 st279 hQ279
      subst l279 y279 z279
      obtain ⟨rfl, N279q, e279⟩ := hQ279
      have N279 := Fr.app N276 N279q
      have P280 : ∀ t, Steps p.tables e below (T279.setTop (mkF m 117 #[.val (.int p1), .val (.int p2), .val (.ref b2), .val (.int (5 : Int32)), .val (.int (1 : Int32)), .val (.ref v5), .val (.int (0 : Int32)), .val (.int (0 : Int32)), .unset, .unset, .unset] [(.ref v3), (.ref v5)])) t → Steps p.tables e below (s₁.setTop (mkF m 0 #[.val (.int p1), .val (.int p2), .unset, .unset, .unset, .unset, .unset, .unset, .unset, .unset, .unset] [])) t := fun t k => P278 t (st279 _ k)
      have P281 : ∀ t, Steps p.tables e below (T279.setTop (mkF m 129 #[.val (.int p1), .val (.int p2), .val (.ref b2), .val (.int (5 : Int32)), .val (.int (1 : Int32)), .val (.ref v5), .val (.int (0 : Int32)), .val (.int (0 : Int32)), .val (.int (0 : Int32)), .unset, .unset] [(.int (1 : Int32))])) t → Steps p.tables e below (s₁.setTop (mkF m 0 #[.val (.int p1), .val (.int p2), .unset, .unset, .unset, .unset, .unset, .unset, .unset, .unset, .unset] [])) t := fun t k => by
        refine P280 t ?_
        show Steps p.tables e below (T279.setTop (mkF m 117 #[.val (.int p1), .val (.int p2), .val (.ref b2), .val (.int (5 : Int32)), .val (.int (1 : Int32)), .val (.ref v5), .val (.int (0 : Int32)), .val (.int (0 : Int32)), .unset, .unset, .unset] [(.ref v3), (.ref v5)])) t
        refine Jvm.RoadKit.acmp (g := (mkF m 117 #[.val (.int p1), .val (.int p2), .val (.ref b2), .val (.int (5 : Int32)), .val (.int (1 : Int32)), .val (.ref v5), .val (.int (0 : Int32)), .val (.int (0 : Int32)), .unset, .unset, .unset] [(.ref v3), (.ref v5)])) X279 hx rfl rfl rfl (pc0 := 117) (pc' := 124) (same := false) rfl (hb hby at_117) rfl (decide_eq_false fun q => n3_5 (Value.ref.inj q)) (by decide) (by decide) ?_
        show Steps p.tables e below (T279.setTop (mkF m 124 #[.val (.int p1), .val (.int p2), .val (.ref b2), .val (.int (5 : Int32)), .val (.int (1 : Int32)), .val (.ref v5), .val (.int (0 : Int32)), .val (.int (0 : Int32)), .unset, .unset, .unset] [])) t
        refine XS.iconst X279.here hx rfl (hb hby at_124) ?_
        show Steps p.tables e below (T279.setTop (mkF m 125 #[.val (.int p1), .val (.int p2), .val (.ref b2), .val (.int (5 : Int32)), .val (.int (1 : Int32)), .val (.ref v5), .val (.int (0 : Int32)), .val (.int (0 : Int32)), .unset, .unset, .unset] [(.int (0 : Int32))])) t
        refine XS.istore X279.here hx rfl (hb hby at_125) rfl (l' := #[.val (.int p1), .val (.int p2), .val (.ref b2), .val (.int (5 : Int32)), .val (.int (1 : Int32)), .val (.ref v5), .val (.int (0 : Int32)), .val (.int (0 : Int32)), .val (.int (0 : Int32)), .unset, .unset]) rfl ?_
        show Steps p.tables e below (T279.setTop (mkF m 127 #[.val (.int p1), .val (.int p2), .val (.ref b2), .val (.int (5 : Int32)), .val (.int (1 : Int32)), .val (.ref v5), .val (.int (0 : Int32)), .val (.int (0 : Int32)), .val (.int (0 : Int32)), .unset, .unset] [])) t
        refine XS.iload X279.here hx rfl (hb hby at_127) rfl ?_
        exact k
      obtain ⟨_, _, ⟨T282, L282, k282, n282⟩, -, X282, ⟨Lc282, hQ282, l282, y282, z282⟩, st282⟩ := Jvm.LawKit.callS X279 hx (y := (⟨"com/example/watermark/watermark/server/TransactionState$Phase", "prepare", "(Z)Lcom/example/watermark/watermark/server/TransactionState$Phase;"⟩ : MethodName)) hown (mvT hZ (hw _ (List.mem_of_getElem? (i := 24) rfl))) (mvT hZ (hw _ (List.mem_of_getElem? (i := 25) rfl))) (mvT hZ (hw _ (List.mem_of_getElem? (i := 3) rfl))) (mvT hZ (hw _ (List.mem_of_getElem? (i := 26) rfl))) (by decide) (backOf (W := 0) (rm2t l Z a0 hw [] (1 : Int32) v2 h38 n0 Z_39 S2_38 (by decide)) hZ (hw _ (List.mem_of_getElem? (i := 26) rfl)) (hw _ (List.mem_of_getElem? (i := 3) rfl)) (by decide) (by decide)) (g := (mkF m 129 #[.val (.int p1), .val (.int p2), .val (.ref b2), .val (.int (5 : Int32)), .val (.int (1 : Int32)), .val (.ref v5), .val (.int (0 : Int32)), .val (.int (0 : Int32)), .val (.int (0 : Int32)), .unset, .unset] [(.int (1 : Int32))])) rfl (by rw [hml]; rfl) (argsL := [(.int (1 : Int32))]) (rest := []) (lenOf pd__Z_Lcom_example_watermark_watermark_server_TransactionState_Phase_ rfl) rfl (by show 2 * 0 + _ ≤ _; exact Nat.le_of_eq rfl) (hb hby at_129) (fun _ _ => ⟨rfl, e279, (by decide : 1 + 0 ≤ _), (by decide : 6 + 0 ≤ _)⟩)
      dsimp only [Pt.U, Pt.locs, Pt.cells, Pt.slots] at X282 l282 y282 z282 st282 hQ282
      subst l282 y282 z282
      obtain ⟨rfl, N282q, e282⟩ := hQ282
      have N282 := Fr.app N279 N282q
      have P283 : ∀ t, Steps p.tables e below (T282.setTop (mkF m 132 #[.val (.int p1), .val (.int p2), .val (.ref b2), .val (.int (5 : Int32)), .val (.int (1 : Int32)), .val (.ref v5), .val (.int (0 : Int32)), .val (.int (0 : Int32)), .val (.int (0 : Int32)), .unset, .unset] [(.ref v2)])) t → Steps p.tables e below (s₁.setTop (mkF m 0 #[.val (.int p1), .val (.int p2), .unset, .unset, .unset, .unset, .unset, .unset, .unset, .unset, .unset] [])) t := fun t k => P281 t (st282 _ k)
      obtain ⟨cq284, kq284, q284a, q284b, q284c⟩ := isOf hZ e282 EX2_38
      obtain ⟨_, _, ⟨T284, L284, k284, n284⟩, -, X284, ⟨Lc284, hQ284, l284, y284, z284⟩, st284⟩ := X282.virtualBack hx (y := (⟨"com/example/watermark/watermark/server/TransactionState$Phase", "isEnding", "()Z"⟩ : MethodName)) (z := (⟨"com/example/watermark/watermark/server/TransactionState$Phase", "isEnding", "()Z"⟩ : MethodName)) hown (mvT hZ (hw _ (List.mem_of_getElem? (i := 17) rfl))) (mvT hZ (hw _ (List.mem_of_getElem? (i := 18) rfl))) (notFace_of_selects (args := #[]) (mvT hZ (hw _ (List.mem_of_getElem? (i := 20) rfl)))) (mvT hZ (hw _ (List.mem_of_getElem? (i := 20) rfl))) (mvT hZ (hw _ (List.mem_of_getElem? (i := 19) rfl))) (by decide) (backOf (W := 0) (rm1c l Z a0 hw [] v2 v2 v3 h38 n0 Z_39 S2_38 S3_38 rfl) hZ (hw _ (List.mem_of_getElem? (i := 21) rfl)) (hw _ (List.mem_of_getElem? (i := 3) rfl)) (by decide) (by decide)) q284a q284c (g := (mkF m 132 #[.val (.int p1), .val (.int p2), .val (.ref b2), .val (.int (5 : Int32)), .val (.int (1 : Int32)), .val (.ref v5), .val (.int (0 : Int32)), .val (.int (0 : Int32)), .val (.int (0 : Int32)), .unset, .unset] [(.ref v2)])) rfl (by rw [hml]; rfl) (Steps.refl _) (argsL := []) (rest := []) (lenOf pd___Z rfl) rfl (by show 2 * 0 + _ ≤ _; exact Nat.le_of_eq rfl) (hb hby at_132) (fun _ _ => ⟨rfl, e282, (by decide : 1 + 0 ≤ _), (by decide : 6 + 0 ≤ _)⟩)
      dsimp only [Pt.U, Pt.locs, Pt.cells, Pt.slots] at X284 l284 y284 z284 st284 hQ284
      subst l284 y284 z284
      obtain ⟨rfl, N284q, e284⟩ := hQ284
      have N284 := Fr.app N282 N284q
      have P285 : ∀ t, Steps p.tables e below (T284.setTop (mkF m 135 #[.val (.int p1), .val (.int p2), .val (.ref b2), .val (.int (5 : Int32)), .val (.int (1 : Int32)), .val (.ref v5), .val (.int (0 : Int32)), .val (.int (0 : Int32)), .val (.int (0 : Int32)), .unset, .unset] [(.int (1 : Int32))])) t → Steps p.tables e below (s₁.setTop (mkF m 0 #[.val (.int p1), .val (.int p2), .unset, .unset, .unset, .unset, .unset, .unset, .unset, .unset, .unset] [])) t := fun t k => P283 t (st284.trans k)
      have P286 : ∀ t, Steps p.tables e below (T284.setTop (mkF m 139 #[.val (.int p1), .val (.int p2), .val (.ref b2), .val (.int (5 : Int32)), .val (.int (1 : Int32)), .val (.ref v5), .val (.int (0 : Int32)), .val (.int (0 : Int32)), .val (.int (0 : Int32)), .val (.int (1 : Int32)), .unset] [(.int (1 : Int32))])) t → Steps p.tables e below (s₁.setTop (mkF m 0 #[.val (.int p1), .val (.int p2), .unset, .unset, .unset, .unset, .unset, .unset, .unset, .unset, .unset] [])) t := fun t k => by
        refine P285 t ?_
        show Steps p.tables e below (T284.setTop (mkF m 135 #[.val (.int p1), .val (.int p2), .val (.ref b2), .val (.int (5 : Int32)), .val (.int (1 : Int32)), .val (.ref v5), .val (.int (0 : Int32)), .val (.int (0 : Int32)), .val (.int (0 : Int32)), .unset, .unset] [(.int (1 : Int32))])) t
        refine XS.istore X284.here hx rfl (hb hby at_135) rfl (l' := #[.val (.int p1), .val (.int p2), .val (.ref b2), .val (.int (5 : Int32)), .val (.int (1 : Int32)), .val (.ref v5), .val (.int (0 : Int32)), .val (.int (0 : Int32)), .val (.int (0 : Int32)), .val (.int (1 : Int32)), .unset]) rfl ?_
        show Steps p.tables e below (T284.setTop (mkF m 137 #[.val (.int p1), .val (.int p2), .val (.ref b2), .val (.int (5 : Int32)), .val (.int (1 : Int32)), .val (.ref v5), .val (.int (0 : Int32)), .val (.int (0 : Int32)), .val (.int (0 : Int32)), .val (.int (1 : Int32)), .unset] [])) t
        refine XS.iload X284.here hx rfl (hb hby at_137) rfl ?_
        exact k
      obtain ⟨_, _, ⟨T287, L287, k287, n287⟩, -, X287, ⟨Lc287, hQ287, l287, y287, z287⟩, st287⟩ := Jvm.LawKit.callS X284 hx (y := (⟨"com/example/watermark/watermark/server/TransactionState$Phase", "complete", "(Z)Lcom/example/watermark/watermark/server/TransactionState$Phase;"⟩ : MethodName)) hown (mvT hZ (hw _ (List.mem_of_getElem? (i := 27) rfl))) (mvT hZ (hw _ (List.mem_of_getElem? (i := 28) rfl))) (mvT hZ (hw _ (List.mem_of_getElem? (i := 3) rfl))) (mvT hZ (hw _ (List.mem_of_getElem? (i := 29) rfl))) (by decide) (backOf (W := 0) (rm3t l Z a0 hw [] (1 : Int32) v4 h38 n0 Z_39 S4_38 (by decide)) hZ (hw _ (List.mem_of_getElem? (i := 29) rfl)) (hw _ (List.mem_of_getElem? (i := 3) rfl)) (by decide) (by decide)) (g := (mkF m 139 #[.val (.int p1), .val (.int p2), .val (.ref b2), .val (.int (5 : Int32)), .val (.int (1 : Int32)), .val (.ref v5), .val (.int (0 : Int32)), .val (.int (0 : Int32)), .val (.int (0 : Int32)), .val (.int (1 : Int32)), .unset] [(.int (1 : Int32))])) rfl (by rw [hml]; rfl) (argsL := [(.int (1 : Int32))]) (rest := []) (lenOf pd__Z_Lcom_example_watermark_watermark_server_TransactionState_Phase_ rfl) rfl (by show 2 * 0 + _ ≤ _; exact Nat.le_of_eq rfl) (hb hby at_139) (fun _ _ => ⟨rfl, e284, (by decide : 1 + 0 ≤ _), (by decide : 6 + 0 ≤ _)⟩)
      dsimp only [Pt.U, Pt.locs, Pt.cells, Pt.slots] at X287 l287 y287 z287 st287 hQ287
      subst l287 y287 z287
      obtain ⟨rfl, N287q, e287⟩ := hQ287
      have N287 := Fr.app N284 N287q
      have P288 : ∀ t, Steps p.tables e below (T287.setTop (mkF m 142 #[.val (.int p1), .val (.int p2), .val (.ref b2), .val (.int (5 : Int32)), .val (.int (1 : Int32)), .val (.ref v5), .val (.int (0 : Int32)), .val (.int (0 : Int32)), .val (.int (0 : Int32)), .val (.int (1 : Int32)), .unset] [(.ref v4)])) t → Steps p.tables e below (s₁.setTop (mkF m 0 #[.val (.int p1), .val (.int p2), .unset, .unset, .unset, .unset, .unset, .unset, .unset, .unset, .unset] [])) t := fun t k => P286 t (st287 _ k)
      obtain ⟨cq289, kq289, q289a, q289b, q289c⟩ := isOf hZ e287 EX4_38
      obtain ⟨_, _, ⟨T289, L289, k289, n289⟩, -, X289, ⟨Lc289, hQ289, l289, y289, z289⟩, st289⟩ := X287.virtualBack hx (y := (⟨"com/example/watermark/watermark/server/TransactionState$Phase", "isEnding", "()Z"⟩ : MethodName)) (z := (⟨"com/example/watermark/watermark/server/TransactionState$Phase", "isEnding", "()Z"⟩ : MethodName)) hown (mvT hZ (hw _ (List.mem_of_getElem? (i := 17) rfl))) (mvT hZ (hw _ (List.mem_of_getElem? (i := 18) rfl))) (notFace_of_selects (args := #[]) (mvT hZ (hw _ (List.mem_of_getElem? (i := 20) rfl)))) (mvT hZ (hw _ (List.mem_of_getElem? (i := 20) rfl))) (mvT hZ (hw _ (List.mem_of_getElem? (i := 19) rfl))) (by decide) (backOf (W := 0) (rm1n l Z a0 hw [] v4 v2 v3 h38 n0 Z_39 S2_38 S3_38 n2_4 n3_4) hZ (hw _ (List.mem_of_getElem? (i := 21) rfl)) (hw _ (List.mem_of_getElem? (i := 3) rfl)) (by decide) (by decide)) q289a q289c (g := (mkF m 142 #[.val (.int p1), .val (.int p2), .val (.ref b2), .val (.int (5 : Int32)), .val (.int (1 : Int32)), .val (.ref v5), .val (.int (0 : Int32)), .val (.int (0 : Int32)), .val (.int (0 : Int32)), .val (.int (1 : Int32)), .unset] [(.ref v4)])) rfl (by rw [hml]; rfl) (Steps.refl _) (argsL := []) (rest := []) (lenOf pd___Z rfl) rfl (by show 2 * 0 + _ ≤ _; exact Nat.le_of_eq rfl) (hb hby at_142) (fun _ _ => ⟨rfl, e287, (by decide : 1 + 0 ≤ _), (by decide : 6 + 0 ≤ _)⟩)
      dsimp only [Pt.U, Pt.locs, Pt.cells, Pt.slots] at X289 l289 y289 z289 st289 hQ289
      subst l289 y289 z289
      obtain ⟨rfl, N289q, e289⟩ := hQ289
      have N289 := Fr.app N287 N289q
      have P290 : ∀ t, Steps p.tables e below (T289.setTop (mkF m 145 #[.val (.int p1), .val (.int p2), .val (.ref b2), .val (.int (5 : Int32)), .val (.int (1 : Int32)), .val (.ref v5), .val (.int (0 : Int32)), .val (.int (0 : Int32)), .val (.int (0 : Int32)), .val (.int (1 : Int32)), .unset] [(.int (0 : Int32))])) t → Steps p.tables e below (s₁.setTop (mkF m 0 #[.val (.int p1), .val (.int p2), .unset, .unset, .unset, .unset, .unset, .unset, .unset, .unset, .unset] [])) t := fun t k => P288 t (st289.trans k)
      have P291 : ∀ t, Steps p.tables e below (T289.setTop (mkF m 176 #[.val (.int p1), .val (.int p2), .val (.ref b2), .val (.int (5 : Int32)), .val (.int (1 : Int32)), .val (.ref v5), .val (.int (0 : Int32)), .val (.int (0 : Int32)), .val (.int (0 : Int32)), .val (.int (1 : Int32)), .val (.int (0 : Int32))] [(.int (1 : Int32))])) t → Steps p.tables e below (s₁.setTop (mkF m 0 #[.val (.int p1), .val (.int p2), .unset, .unset, .unset, .unset, .unset, .unset, .unset, .unset, .unset] [])) t := fun t k => by
        refine P290 t ?_
        show Steps p.tables e below (T289.setTop (mkF m 145 #[.val (.int p1), .val (.int p2), .val (.ref b2), .val (.int (5 : Int32)), .val (.int (1 : Int32)), .val (.ref v5), .val (.int (0 : Int32)), .val (.int (0 : Int32)), .val (.int (0 : Int32)), .val (.int (1 : Int32)), .unset] [(.int (0 : Int32))])) t
        refine XS.istore X289.here hx rfl (hb hby at_145) rfl (l' := #[.val (.int p1), .val (.int p2), .val (.ref b2), .val (.int (5 : Int32)), .val (.int (1 : Int32)), .val (.ref v5), .val (.int (0 : Int32)), .val (.int (0 : Int32)), .val (.int (0 : Int32)), .val (.int (1 : Int32)), .val (.int (0 : Int32))]) rfl ?_
        show Steps p.tables e below (T289.setTop (mkF m 147 #[.val (.int p1), .val (.int p2), .val (.ref b2), .val (.int (5 : Int32)), .val (.int (1 : Int32)), .val (.ref v5), .val (.int (0 : Int32)), .val (.int (0 : Int32)), .val (.int (0 : Int32)), .val (.int (1 : Int32)), .val (.int (0 : Int32))] [])) t
        refine XS.iload X289.here hx rfl (hb hby at_147) rfl ?_
        show Steps p.tables e below (T289.setTop (mkF m 149 #[.val (.int p1), .val (.int p2), .val (.ref b2), .val (.int (5 : Int32)), .val (.int (1 : Int32)), .val (.ref v5), .val (.int (0 : Int32)), .val (.int (0 : Int32)), .val (.int (0 : Int32)), .val (.int (1 : Int32)), .val (.int (0 : Int32))] [(.int (0 : Int32))])) t
        refine XS.iload X289.here hx rfl (hb hby at_149) rfl ?_
        show Steps p.tables e below (T289.setTop (mkF m 151 #[.val (.int p1), .val (.int p2), .val (.ref b2), .val (.int (5 : Int32)), .val (.int (1 : Int32)), .val (.ref v5), .val (.int (0 : Int32)), .val (.int (0 : Int32)), .val (.int (0 : Int32)), .val (.int (1 : Int32)), .val (.int (0 : Int32))] [(.int (0 : Int32)), (.int (0 : Int32))])) t
        refine XS.icmpNo X289.here hx rfl (hb hby at_151) rfl (teq rfl).2 ?_
        show Steps p.tables e below (T289.setTop (mkF m 154 #[.val (.int p1), .val (.int p2), .val (.ref b2), .val (.int (5 : Int32)), .val (.int (1 : Int32)), .val (.ref v5), .val (.int (0 : Int32)), .val (.int (0 : Int32)), .val (.int (0 : Int32)), .val (.int (1 : Int32)), .val (.int (0 : Int32))] [])) t
        refine XS.iload X289.here hx rfl (hb hby at_154) rfl ?_
        show Steps p.tables e below (T289.setTop (mkF m 156 #[.val (.int p1), .val (.int p2), .val (.ref b2), .val (.int (5 : Int32)), .val (.int (1 : Int32)), .val (.ref v5), .val (.int (0 : Int32)), .val (.int (0 : Int32)), .val (.int (0 : Int32)), .val (.int (1 : Int32)), .val (.int (0 : Int32))] [(.int (0 : Int32))])) t
        refine XS.iload X289.here hx rfl (hb hby at_156) rfl ?_
        show Steps p.tables e below (T289.setTop (mkF m 158 #[.val (.int p1), .val (.int p2), .val (.ref b2), .val (.int (5 : Int32)), .val (.int (1 : Int32)), .val (.ref v5), .val (.int (0 : Int32)), .val (.int (0 : Int32)), .val (.int (0 : Int32)), .val (.int (1 : Int32)), .val (.int (0 : Int32))] [(.int (0 : Int32)), (.int (0 : Int32))])) t
        refine XS.icmpNo X289.here hx rfl (hb hby at_158) rfl (teq rfl).2 ?_
        show Steps p.tables e below (T289.setTop (mkF m 161 #[.val (.int p1), .val (.int p2), .val (.ref b2), .val (.int (5 : Int32)), .val (.int (1 : Int32)), .val (.ref v5), .val (.int (0 : Int32)), .val (.int (0 : Int32)), .val (.int (0 : Int32)), .val (.int (1 : Int32)), .val (.int (0 : Int32))] [])) t
        refine XS.iload X289.here hx rfl (hb hby at_161) rfl ?_
        show Steps p.tables e below (T289.setTop (mkF m 163 #[.val (.int p1), .val (.int p2), .val (.ref b2), .val (.int (5 : Int32)), .val (.int (1 : Int32)), .val (.ref v5), .val (.int (0 : Int32)), .val (.int (0 : Int32)), .val (.int (0 : Int32)), .val (.int (1 : Int32)), .val (.int (0 : Int32))] [(.int (1 : Int32))])) t
        refine XS.ifNo X289.here hx rfl (hb hby at_163) rfl ((if0 _ _).trans (feq (by decide)).1) ?_
        show Steps p.tables e below (T289.setTop (mkF m 166 #[.val (.int p1), .val (.int p2), .val (.ref b2), .val (.int (5 : Int32)), .val (.int (1 : Int32)), .val (.ref v5), .val (.int (0 : Int32)), .val (.int (0 : Int32)), .val (.int (0 : Int32)), .val (.int (1 : Int32)), .val (.int (0 : Int32))] [])) t
        refine XS.iload X289.here hx rfl (hb hby at_166) rfl ?_
        show Steps p.tables e below (T289.setTop (mkF m 168 #[.val (.int p1), .val (.int p2), .val (.ref b2), .val (.int (5 : Int32)), .val (.int (1 : Int32)), .val (.ref v5), .val (.int (0 : Int32)), .val (.int (0 : Int32)), .val (.int (0 : Int32)), .val (.int (1 : Int32)), .val (.int (0 : Int32))] [(.int (0 : Int32))])) t
        refine XS.ifNo X289.here hx rfl (hb hby at_168) rfl ((if0 _ _).trans (teq rfl).2) ?_
        show Steps p.tables e below (T289.setTop (mkF m 171 #[.val (.int p1), .val (.int p2), .val (.ref b2), .val (.int (5 : Int32)), .val (.int (1 : Int32)), .val (.ref v5), .val (.int (0 : Int32)), .val (.int (0 : Int32)), .val (.int (0 : Int32)), .val (.int (1 : Int32)), .val (.int (0 : Int32))] [])) t
        refine XS.iconst X289.here hx rfl (hb hby at_171) ?_
        show Steps p.tables e below (T289.setTop (mkF m 172 #[.val (.int p1), .val (.int p2), .val (.ref b2), .val (.int (5 : Int32)), .val (.int (1 : Int32)), .val (.ref v5), .val (.int (0 : Int32)), .val (.int (0 : Int32)), .val (.int (0 : Int32)), .val (.int (1 : Int32)), .val (.int (0 : Int32))] [(.int (1 : Int32))])) t
        refine XS.goto X289.here hx rfl (pc0 := 172) (pc' := 176) rfl (hb hby at_172) (by decide) (by decide) ?_
        exact k
      obtain ⟨fs, hr, hrun, hended, hW, hsame⟩ := X289.leave (v := some (.int (1 : Int32))) (fun h => by rw [Bd.returns] at h; cases h)
      refine ⟨_, _, pre0 _ (P291 _ ?_), hrun, hended, _, _, rfl, ?_, ⟨_, rfl⟩, hW, hsame.mono (by decide) (by decide)⟩
      · exact retN X289 hx (t := .boolean) Bd.returns (by simp) (hb hby at_176) hr
      · show Q0 Z p1 p2 v0 v1 v2 v3 v4 v5 h0 n0 _ T289.heap _
        rw [e289]
        exact ⟨rfl, N289⟩
set_option maxRecDepth 65536 in
set_option maxHeartbeats 40000000 in
theorem comes_1 {Post : Tables → Env → Array Value → State → Outcome → State → Prop} (hpost : ∀ tb e args s v u, (limb_1_1.after args s (.returned v) u = true ∧ limb_1_2.after args s (.returned v) u = true ∧ True) → FrameEnd s (.returned v) u (Jvm.fieldLocs frame_1_writes args s ++ Jvm.arrayLocs frame_1_arrays args s ++ Jvm.staticLocs frame_1_statics s) 16 128 → Post tb e args s (.returned v) u) :
    ArmFor flags0 classFile x code maxLocals ret World_1 tables_1 room_1 Calls_1 rest_1 Pre_1 Post := by
  intro l hfl _ _ p e ha hc hk s m args below hf hA hF happ hP
  obtain ⟨hcalls, hrest, hpre⟩ := hP
  obtain ⟨-, -, -, hnamed, -, -, -, hat⟩ := (Spec.applies_iff hf).mp happ
  obtain ⟨hg, hn⟩ := and_e (Cond.before_iff.mp (show (Jvm.Cond.and given_1 narrow_1).before args s = true from hpre))
  obtain ⟨gc, gr0⟩ := and_e hg
  obtain ⟨ga0, gr1⟩ := and_e gr0
  have ga1 := gr1
  obtain ⟨w0, w1, rfl⟩ : ∃ w0 w1 : Value, args = #[w0, w1] := by
    have hs : args.size = 2 := by simpa [Cond.value, given_1] using gc
    obtain ⟨L⟩ := args
    match L, hs with
    | [w0, w1], _ => exact ⟨w0, w1, rfl⟩
  have hw := fun d (hd : d ∈ tables_1) => atoms_spec (ws := Jvm.Cond.code x code maxLocals ret :: tables_1) hat d (List.mem_cons_of_mem _ hd)
  have hfit : Fit s := fun {y c} hc i hi => by
    obtain ⟨ha, rfl⟩ := Array.getElem?_eq_some_iff.mp hc
    have q := List.all_eq_true.mp ((Array.all_eq_true_iff_forall_mem.mp hF) _ (Array.getElem_mem ha)) i (List.mem_range.mpr hi)
    simpa [Array.getElem?_eq_getElem hi] using q
  obtain ⟨i0, ei0⟩ := is_v ga0
  obtain rfl : w0 = (.int i0) := Option.some.inj ei0
  obtain ⟨i1, ei1⟩ := is_v ga1
  obtain rfl : w1 = (.int i1) := Option.some.inj ei1
  obtain ⟨x0, hn⟩ := and_e hn
  obtain ⟨x1, hn⟩ := and_e hn
  obtain ⟨x2, hn⟩ := and_e hn
  obtain ⟨x3, hn⟩ := and_e hn
  obtain ⟨x4, hn⟩ := and_e hn
  obtain ⟨x5, hn⟩ := and_e hn
  obtain ⟨o0, hn⟩ := and_e hn
  obtain ⟨o2, hn⟩ := and_e hn
  obtain ⟨o3, hn⟩ := and_e hn
  obtain ⟨o4, hn⟩ := and_e hn
  obtain ⟨o5, hn⟩ := and_e hn
  have o1 := hn
  obtain ⟨v0, ev0⟩ := exa_v x0
  have E0 := Exa.start ev0 x0
  have S0 := Sta.start ev0 (Or.inr ⟨(hw _ (List.mem_of_getElem? (i := 3) rfl)), (hw _ (List.mem_of_getElem? (i := 4) rfl))⟩)
  have F0 := Fld.start ((fld_at ev0).symm.trans (eqv_i (Term.int_eval _) o0))
  obtain ⟨v1, ev1⟩ := exa_v x1
  have E1 := Exa.start ev1 x1
  have S1 := Sta.start ev1 (Or.inr ⟨(hw _ (List.mem_of_getElem? (i := 3) rfl)), (hw _ (List.mem_of_getElem? (i := 7) rfl))⟩)
  have F1 := Fld.start ((fld_at ev1).symm.trans (eqv_i (Term.int_eval _) o1))
  obtain ⟨v2, ev2⟩ := exa_v x2
  have E2 := Exa.start ev2 x2
  have S2 := Sta.start ev2 (Or.inr ⟨(hw _ (List.mem_of_getElem? (i := 3) rfl)), (hw _ (List.mem_of_getElem? (i := 9) rfl))⟩)
  have F2 := Fld.start ((fld_at ev2).symm.trans (eqv_i (Term.int_eval _) o2))
  obtain ⟨v3, ev3⟩ := exa_v x3
  have E3 := Exa.start ev3 x3
  have S3 := Sta.start ev3 (Or.inr ⟨(hw _ (List.mem_of_getElem? (i := 3) rfl)), (hw _ (List.mem_of_getElem? (i := 11) rfl))⟩)
  have F3 := Fld.start ((fld_at ev3).symm.trans (eqv_i (Term.int_eval _) o3))
  obtain ⟨v4, ev4⟩ := exa_v x4
  have E4 := Exa.start ev4 x4
  have S4 := Sta.start ev4 (Or.inr ⟨(hw _ (List.mem_of_getElem? (i := 3) rfl)), (hw _ (List.mem_of_getElem? (i := 13) rfl))⟩)
  have F4 := Fld.start ((fld_at ev4).symm.trans (eqv_i (Term.int_eval _) o4))
  obtain ⟨v5, ev5⟩ := exa_v x5
  have E5 := Exa.start ev5 x5
  have S5 := Sta.start ev5 (Or.inr ⟨(hw _ (List.mem_of_getElem? (i := 3) rfl)), (hw _ (List.mem_of_getElem? (i := 15) rfl))⟩)
  have F5 := Fld.start ((fld_at ev5).symm.trans (eqv_i (Term.int_eval _) o5))
  obtain ⟨n, o, h1, h2, h3, _, L, rfl, ⟨rfl, N⟩, hq⟩ := rm0 l s _ hw tables_1 i0 i1 v0 v1 v2 v3 v4 v5 s.heap s.heap.size (Nat.le_refl _) S0 E0 S1 E1 S2 E2 S3 E3 S4 E4 S5 E5 (Fld.ne F0 F2 (by decide)) (Fld.ne F1 F2 (by decide)) (Fld.ne F3 F2 (by decide)) (Fld.ne F4 F2 (by decide)) (Fld.ne F5 F2 (by decide)) (Fld.ne F0 F3 (by decide)) (Fld.ne F1 F3 (by decide)) (Fld.ne F2 F3 (by decide)) (Fld.ne F4 F3 (by decide)) (Fld.ne F5 F3 (by decide)) p e ha hc hk s m _ below hf ((Spec.applies_iff_loose hf).mp happ).1 ⟨rfl, State.Warmed39.refl s, rfl⟩ trivial
  refine ⟨n, _, h1, h2, h3, hpost _ _ _ _ _ _ ⟨Cond.after_iff.mpr rfl, Cond.after_iff.mpr (eq_i res_at (Term.int_eval (1)) rfl), trivial⟩ ⟨hq.1, hq.2.1, (hq.2.2.sift fun y hy => Or.inr (N y hy)).mono (by decide) (by decide)⟩⟩
theorem main_1_1 : Claimed_1_1 := comes_1 fun _ _ _ _ _ _ h hF => ⟨h.1, hF⟩
theorem main_1_2 : Claimed_1_2 := comes_1 fun _ _ _ _ _ _ h hF => ⟨h.2.1, hF⟩
end Jvm.Pilot.@@N@@
namespace Jvm.Pilot.@@N@@
open Jvm Jvm.ClassFile Sem Op Lib Jvm.Free Jvm.Stand Jvm.Pilot.@@N@@.Jvm.D
/-! MADE BY PROGRAM (witnessworld.py) out of the Statement's table words and the real class files: 13 classes; the members and pool entries that the words name. The judged class is class 1, her method 1. -/
namespace start1
open Jvm.ClassFile
def u (s : String) : CpInfo := .utf8 (stringToUtf16 s)
/-- a pool by its gaps: so many unusable entries, then the entry; so many at the end -/
def gap : Nat → List CpInfo → List CpInfo
  | 0, r => r
  | n + 1, r => .unusable :: gap n r
def poolList (es : List (Nat × CpInfo)) (last : Nat) : List CpInfo := es.foldr (fun e r => gap e.1 (e.2 :: r)) (gap last [])
def pool (es : List (Nat × CpInfo)) (last : Nat) : Array CpInfo := ⟨poolList es last⟩
def fileOf (pool : Array CpInfo) (this : Nat) (attrs : Array Attribute := #[]) (ms : Array MethodInfo := #[]) (fl : Nat := 33) (sup : Nat := 0) (ifs : Array Nat := #[]) (fds : Array FieldInfo := #[]) : ClassFile where
  minorVersion := 0
  majorVersion := 65
  constantPool := pool
  accessFlags := fl
  thisClass := this
  superClass := sup
  interfaces := ifs
  fields := fds
  methods := ms
  attributes := attrs
def plain (name : String) (sup : Option ClassId) : Class where
  name := name
  kind := .ordinary
  loader := none
  accessFlags := 33
  super := sup
  interfaces := #[]
  cf := none
  fields := #[]
  methods := #[]
  instanceTypes := #[]
  staticTypes := #[]
  resolved := #[]
  callSites := []
  init := .initialized
  statics := none
  mirror := none

def pool0 : Array CpInfo := pool [(5, u "<init>"), (0, u "()V"), (1, .class_ 10), (1, u "java/lang/Object")] 113

def k0m0 : Method := { name := "<init>", desc := "()V", sig := { parameters := [], returnType := none }, accessFlags := 1, code := none }
/-- java/lang/Object -/
def k0 : Class := { plain "java/lang/Object" none with
  accessFlags := 33
  interfaces := #[]
  cf := some (fileOf pool0 8 #[] #[{ accessFlags := 1, nameIndex := 5, descriptorIndex := 6, attributes := #[] }] 33 0 #[] #[])
  fields := #[]
  methods := #[k0m0]
  instanceTypes := #[]
  staticTypes := #[]
  resolved := Array.replicate 124 none
  statics := none }

def pool1 : Array CpInfo := pool [(2, .class_ 4), (1, u "java/lang/Object"), (0, u "<init>"), (0, u "()V"), (0, .class_ 8), (0, u "com/example/watermark/watermark/server/TransactionState$Phase"), (0, .fieldref 7 10), (0, .nameAndType 11 12), (0, u "EMPTY"), (0, u "Lcom/example/watermark/watermark/server/TransactionState$Phase;"), (0, .fieldref 7 14), (0, .nameAndType 15 12), (0, u "ONGOING"), (0, .fieldref 7 17), (0, .nameAndType 18 12), (0, u "PREPARE_COMMIT"), (0, .fieldref 7 20), (0, .nameAndType 21 12), (0, u "PREPARE_ABORT"), (0, .fieldref 7 23), (0, .nameAndType 24 12), (0, u "COMPLETE_COMMIT"), (0, .fieldref 7 26), (0, .nameAndType 27 12), (0, u "COMPLETE_ABORT"), (0, .integer 2147483647), (0, .methodref 7 30), (0, .nameAndType 31 32), (0, u "isEnding"), (0, u "()Z"), (0, .methodref 7 34), (0, .nameAndType 35 36), (0, u "prepare"), (0, u "(Z)Lcom/example/watermark/watermark/server/TransactionState$Phase;"), (0, .methodref 7 38), (0, .nameAndType 39 36), (0, u "complete"), (0, .class_ 41), (0, u "com/example/watermark/watermark/server/PhaseIsEndingPinLaw"), (2, u "law"), (0, u "(II)Z")] 9

def k1m0 : Method := { name := "<init>", desc := "()V", sig := { parameters := [], returnType := none }, accessFlags := 2, code := none }
def k1c1 : Code := { maxStack := 4, maxLocals := 11, code := code, exceptionTable := #[], attributes := #[] }
def k1m1 : Method := { name := "law", desc := "(II)Z", sig := { parameters := [.int, .int], returnType := some .boolean }, accessFlags := 9, code := some k1c1 }
/-- com/example/watermark/watermark/server/PhaseIsEndingPinLaw -/
def k1 : Class := { plain "com/example/watermark/watermark/server/PhaseIsEndingPinLaw" (some 0) with
  accessFlags := 49
  interfaces := #[]
  cf := some (fileOf pool1 40 #[] #[{ accessFlags := 2, nameIndex := 5, descriptorIndex := 6, attributes := #[] }, { accessFlags := 9, nameIndex := 44, descriptorIndex := 45, attributes := #[] }] 49 2 #[] #[])
  fields := #[]
  methods := #[k1m0, k1m1]
  instanceTypes := #[]
  staticTypes := #[]
  resolved := Array.replicate 55 none
  statics := none }

def pool2 : Array CpInfo := pool [(1, .class_ 2), (0, u "java/lang/constant/Constable"), (0, .class_ 4), (0, u "java/lang/Object")] 6

/-- java/lang/constant/Constable -/
def k2 : Class := { plain "java/lang/constant/Constable" (some 0) with
  accessFlags := 1537
  interfaces := #[]
  cf := some (fileOf pool2 1 #[] #[] 1537 3 #[] #[])
  fields := #[]
  methods := #[]
  instanceTypes := #[]
  staticTypes := #[]
  resolved := Array.replicate 11 none
  statics := none }

def pool3 : Array CpInfo := pool [(1, .class_ 2), (0, u "java/lang/Comparable"), (0, .class_ 4), (0, u "java/lang/Object")] 7

/-- java/lang/Comparable -/
def k3 : Class := { plain "java/lang/Comparable" (some 0) with
  accessFlags := 1537
  interfaces := #[]
  cf := some (fileOf pool3 1 #[] #[] 1537 3 #[] #[])
  fields := #[]
  methods := #[]
  instanceTypes := #[]
  staticTypes := #[]
  resolved := Array.replicate 12 none
  statics := none }

def pool4 : Array CpInfo := pool [(1, .class_ 2), (0, u "java/io/Serializable"), (0, .class_ 4), (0, u "java/lang/Object")] 2

/-- java/io/Serializable -/
def k4 : Class := { plain "java/io/Serializable" (some 0) with
  accessFlags := 1537
  interfaces := #[]
  cf := some (fileOf pool4 1 #[] #[] 1537 3 #[] #[])
  fields := #[]
  methods := #[]
  instanceTypes := #[]
  staticTypes := #[]
  resolved := Array.replicate 7 none
  statics := none }

def pool5 : Array CpInfo := pool [(2, .class_ 4), (1, u "java/lang/Enum"), (0, u "name"), (0, u "Ljava/lang/String;"), (2, u "ordinal"), (0, u "I"), (1, .class_ 14), (1, u "java/lang/Object"), (4, u "hash"), (86, .class_ 108), (1, u "java/lang/Enum$EnumDesc"), (2, .class_ 112), (0, u "java/lang/constant/Constable"), (0, .class_ 114), (0, u "java/lang/Comparable"), (0, .class_ 116), (0, u "java/io/Serializable")] 87

/-- java/lang/Enum -/
def k5 : Class := { plain "java/lang/Enum" (some 0) with
  accessFlags := 1057
  interfaces := #[2, 3, 4]
  cf := some (fileOf pool5 2 #[.nestMembers #[106]] #[] 1057 12 #[111, 113, 115] #[{ accessFlags := 18, nameIndex := 5, descriptorIndex := 6, attributes := #[] }, { accessFlags := 18, nameIndex := 9, descriptorIndex := 10, attributes := #[] }, { accessFlags := 2, nameIndex := 19, descriptorIndex := 10, attributes := #[] }])
  fields := #[{ name := "name", type := (.object "java/lang/String"), accessFlags := 18, slot := 0, constantValue := 0 }, { name := "ordinal", type := .int, accessFlags := 18, slot := 1, constantValue := 0 }, { name := "hash", type := .int, accessFlags := 2, slot := 2, constantValue := 0 }]
  methods := #[]
  instanceTypes := #[(.object "java/lang/String"), .int, .int]
  staticTypes := #[]
  resolved := Array.replicate 204 none
  statics := none }

def pool6 : Array CpInfo := pool [(1, .class_ 2), (0, u "com/example/watermark/watermark/server/TransactionState$Phase"), (2, u "EMPTY"), (0, u "Lcom/example/watermark/watermark/server/TransactionState$Phase;"), (2, u "ONGOING"), (0, .fieldref 1 11), (0, .nameAndType 12 6), (0, u "PREPARE_COMMIT"), (0, .fieldref 1 14), (0, .nameAndType 15 6), (0, u "PREPARE_ABORT"), (0, .fieldref 1 17), (0, .nameAndType 18 6), (0, u "COMPLETE_COMMIT"), (0, .fieldref 1 20), (0, .nameAndType 21 6), (0, u "COMPLETE_ABORT"), (2, u "$VALUES"), (0, u "[Lcom/example/watermark/watermark/server/TransactionState$Phase;"), (6, .class_ 34), (1, u "java/lang/Enum"), (8, u "code"), (0, u "B"), (31, u "prepare"), (0, u "(Z)Lcom/example/watermark/watermark/server/TransactionState$Phase;"), (1, u "complete"), (0, u "isEnding"), (0, u "()Z"), (9, .class_ 92), (0, u "com/example/watermark/watermark/server/TransactionState")] 16

def k6c0 : Code := { maxStack := 1, maxLocals := 1, code := prog_120_method_4_code, exceptionTable := #[], attributes := #[] }
def k6m0 : Method := { name := "prepare", desc := "(Z)Lcom/example/watermark/watermark/server/TransactionState$Phase;", sig := { parameters := [.boolean], returnType := some (.object "com/example/watermark/watermark/server/TransactionState$Phase") }, accessFlags := 8, code := some k6c0 }
def k6c1 : Code := { maxStack := 1, maxLocals := 1, code := prog_120_method_5_code, exceptionTable := #[], attributes := #[] }
def k6m1 : Method := { name := "complete", desc := "(Z)Lcom/example/watermark/watermark/server/TransactionState$Phase;", sig := { parameters := [.boolean], returnType := some (.object "com/example/watermark/watermark/server/TransactionState$Phase") }, accessFlags := 8, code := some k6c1 }
def k6c2 : Code := { maxStack := 2, maxLocals := 1, code := prog_120_method_6_code, exceptionTable := #[], attributes := #[] }
def k6m2 : Method := { name := "isEnding", desc := "()Z", sig := { parameters := [], returnType := some .boolean }, accessFlags := 0, code := some k6c2 }
/-- com/example/watermark/watermark/server/TransactionState$Phase -/
def k6 : Class := { plain "com/example/watermark/watermark/server/TransactionState$Phase" (some 5) with
  accessFlags := 16432
  interfaces := #[]
  cf := some (fileOf pool6 1 #[.nestHost 91] #[{ accessFlags := 8, nameIndex := 76, descriptorIndex := 77, attributes := #[] }, { accessFlags := 8, nameIndex := 79, descriptorIndex := 77, attributes := #[] }, { accessFlags := 0, nameIndex := 80, descriptorIndex := 81, attributes := #[] }] 16432 32 #[] #[{ accessFlags := 16409, nameIndex := 5, descriptorIndex := 6, attributes := #[] }, { accessFlags := 16409, nameIndex := 9, descriptorIndex := 6, attributes := #[] }, { accessFlags := 16409, nameIndex := 12, descriptorIndex := 6, attributes := #[] }, { accessFlags := 16409, nameIndex := 15, descriptorIndex := 6, attributes := #[] }, { accessFlags := 16409, nameIndex := 18, descriptorIndex := 6, attributes := #[] }, { accessFlags := 16409, nameIndex := 21, descriptorIndex := 6, attributes := #[] }, { accessFlags := 18, nameIndex := 43, descriptorIndex := 44, attributes := #[] }, { accessFlags := 4122, nameIndex := 24, descriptorIndex := 25, attributes := #[] }])
  fields := #[{ name := "EMPTY", type := (.object "com/example/watermark/watermark/server/TransactionState$Phase"), accessFlags := 16409, slot := 0, constantValue := 0 }, { name := "ONGOING", type := (.object "com/example/watermark/watermark/server/TransactionState$Phase"), accessFlags := 16409, slot := 1, constantValue := 0 }, { name := "PREPARE_COMMIT", type := (.object "com/example/watermark/watermark/server/TransactionState$Phase"), accessFlags := 16409, slot := 2, constantValue := 0 }, { name := "PREPARE_ABORT", type := (.object "com/example/watermark/watermark/server/TransactionState$Phase"), accessFlags := 16409, slot := 3, constantValue := 0 }, { name := "COMPLETE_COMMIT", type := (.object "com/example/watermark/watermark/server/TransactionState$Phase"), accessFlags := 16409, slot := 4, constantValue := 0 }, { name := "COMPLETE_ABORT", type := (.object "com/example/watermark/watermark/server/TransactionState$Phase"), accessFlags := 16409, slot := 5, constantValue := 0 }, { name := "code", type := .byte, accessFlags := 18, slot := 3, constantValue := 0 }, { name := "$VALUES", type := (.array (.object "com/example/watermark/watermark/server/TransactionState$Phase")), accessFlags := 4122, slot := 6, constantValue := 0 }]
  methods := #[k6m0, k6m1, k6m2]
  instanceTypes := #[(.object "java/lang/String"), .int, .int, .byte]
  staticTypes := #[(.object "com/example/watermark/watermark/server/TransactionState$Phase"), (.object "com/example/watermark/watermark/server/TransactionState$Phase"), (.object "com/example/watermark/watermark/server/TransactionState$Phase"), (.object "com/example/watermark/watermark/server/TransactionState$Phase"), (.object "com/example/watermark/watermark/server/TransactionState$Phase"), (.object "com/example/watermark/watermark/server/TransactionState$Phase"), (.array (.object "com/example/watermark/watermark/server/TransactionState$Phase"))]
  resolved := Array.replicate 109 none
  statics := some 0 }

def pool7 : Array CpInfo := pool [(1, u "java/lang/Cloneable"), (0, .class_ 1), (0, u "java/lang/Object"), (0, .class_ 3)] 3

/-- java/lang/Cloneable -/
def k7 : Class := { plain "java/lang/Cloneable" (some 0) with
  accessFlags := 1537
  interfaces := #[]
  cf := some (fileOf pool7 2 #[] #[] 1537 4 #[] #[])
  fields := #[]
  methods := #[]
  instanceTypes := #[]
  staticTypes := #[]
  resolved := Array.replicate 8 none
  statics := none }

/-- the primitive byte -/
def k8 : Class := { plain "byte" none with kind := .primitive 'B', accessFlags := 0x411 }
/-- [B -/
def k9 : Class := { plain "[B" (some 0) with kind := .array 8 .byte, interfaces := #[7, 4], accessFlags := 1041 }

/-- the primitive int -/
def k10 : Class := { plain "int" none with kind := .primitive 'I', accessFlags := 0x411 }
/-- [I -/
def k11 : Class := { plain "[I" (some 0) with kind := .array 10 .int, interfaces := #[7, 4], accessFlags := 1041 }

/-- [Lcom/example/watermark/watermark/server/TransactionState$Phase; -/
def k12 : Class := { plain "[Lcom/example/watermark/watermark/server/TransactionState$Phase;" (some 0) with kind := .array 6 (.object "com/example/watermark/watermark/server/TransactionState$Phase"), interfaces := #[7, 4], accessFlags := 1041 }

def heap : Heap := #[{ cls := 6, slots := #[.ref 1, .ref 2, .ref 3, .ref 4, .ref 5, .ref 6, .null], vm := .statics 6 },
  { cls := 6, slots := #[.null, .int 0, .int 0, .int 0], vm := .none },
  { cls := 6, slots := #[.null, .int 1, .int 0, .int 0], vm := .none },
  { cls := 6, slots := #[.null, .int 2, .int 0, .int 0], vm := .none },
  { cls := 6, slots := #[.null, .int 3, .int 0, .int 0], vm := .none },
  { cls := 6, slots := #[.null, .int 4, .int 0, .int 0], vm := .none },
  { cls := 6, slots := #[.null, .int 5, .int 0, .int 0], vm := .none }]
def classes : Array Class := #[k0, k1, k2, k3, k4, k5, k6, k7, k8, k9, k10, k11, k12]
def interned : List (Array UInt16 × Addr) := []
def slotsUsed : Nat := 31
def theMethod : MethodId := ⟨1, 1⟩
def args0 : Array Value := #[.int 5, .int 3]
def aboutOver (below : List Frame) : State where
  vm := { classes := classes, interned := interned.toArray }
  heap := heap
  slotsUsed := slotsUsed
  threads := #[{ frames := .invoking theMethod args0 :: below }]
def below0 : List Frame := [.native { method := ⟨0, 0⟩, args := #[] }]
def about1 : State := aboutOver below0
def p0 : Program := .bare "" "" ""
def e0 : Env := launch0.env 0 0 0
theorem w_frames : about1.frames = Frame.invoking theMethod args0 :: below0 := rfl
set_option maxRecDepth 65536 in
theorem w_args : argsFit about1.vm theMethod args0 = true := by decide +kernel
set_option maxRecDepth 65536 in
theorem w_heap : heapFits about1 = true := by decide +kernel
set_option maxRecDepth 65536 in
theorem w_runnable : about1.curStatus? = some .runnable := by decide +kernel
set_option maxRecDepth 65536 in
theorem w_alone : about1.alone = true := by decide +kernel
set_option maxRecDepth 65536 in
theorem w_named : about1.methodNamed? x = some theMethod := by decide +kernel
set_option maxRecDepth 65536 in
theorem w_hears : about1.hears theMethod below0 = true := by decide +kernel
set_option maxRecDepth 65536 in
theorem w_ripe : about1.ripe theMethod args0 below0 = true := by decide +kernel
theorem w_running : about1.status = .running := rfl
set_option maxRecDepth 65536 in
theorem w_room : about1.hasRoom e0.platform room_1 = true :=
  launch0.hasRoom_least _ room_1 (by decide +kernel) (by decide +kernel) (by decide +kernel) (by decide +kernel) (by decide +kernel) (by decide +kernel)
theorem allAtoms_all (ts : List Jvm.Cond) (a : Array Jvm.Value) (st : Jvm.State) : (allAtoms ts).before a st = ts.all (fun c => c.before a st) := by
  induction ts with
  | nil => rfl
  | cons c t ih =>
    show (Jvm.Cond.and c (allAtoms t)).before a st = _
    rw [Jvm.Cond.before_and, ih, List.all_cons]
def words1 : List Jvm.Cond := Jvm.Cond.code x code maxLocals ret :: tables_1
/-- a 'code' word, met by the world's own term for the bytes: nothing is compared byte by byte -/
theorem code_word {y : MethodName} {bytes : ByteArray} {mx : Nat} {rt : Option FieldType} {a : Array Value} {s : State} {m : MethodId} {meth : Method} {c : Code} (h1 : s.methodNamed? y = some m) (h2 : s.vm.method? m = some meth) (h3 : meth.code = some c) (h4 : c.code = bytes)
    (h5 : (c.maxLocals == mx && c.exceptionTable.isEmpty && decide (c.maxStack ≤ mostOperands) && decide (meth.sig.returnType = rt) && !meth.locks && decide (parseMethodDescriptor y.desc = some meth.sig)) = true) : (Jvm.Cond.code y bytes mx rt).before a s = true := by
  simp only [Bool.and_eq_true, beq_iff_eq, Bool.not_eq_true', decide_eq_true_eq] at h5
  obtain ⟨⟨⟨⟨⟨g1, g2⟩, g3⟩, g4⟩, g5⟩, g6⟩ := h5
  simp [Cond.before, Cond.holds, Cond.value, h1, h2, h3, h4, g1, g2, g3, g4, g5, g6]
def isCode : Jvm.Cond → Bool
  | .code _ _ _ _ => true
  | _ => false
theorem all_split {L : List Jvm.Cond} {P : Jvm.Cond → Bool} (h1 : L.all (fun c => isCode c || P c) = true) (h2 : ∀ c ∈ L.filter isCode, P c = true) : L.all P = true := by
  refine List.all_eq_true.mpr fun c hc => ?_
  have h := List.all_eq_true.mp h1 c hc
  rcases Bool.eq_false_or_eq_true (isCode c) with hi | hi
  · exact h2 c (List.mem_filter.mpr ⟨hc, hi⟩)
  · simpa [hi] using h
set_option maxRecDepth 65536 in
theorem w_c0 : (Jvm.Cond.code x code maxLocals ret).before args0 about1 = true := code_word (m := ⟨1, 1⟩) (meth := k1m1) (c := k1c1) (by decide +kernel) rfl rfl rfl (by decide +kernel)
set_option maxRecDepth 65536 in
theorem w_c1 : (Jvm.Cond.code ({ cls := "com/example/watermark/watermark/server/TransactionState$Phase", name := "isEnding", desc := "()Z" } : Jvm.MethodName) prog_120_method_6_code (1 : Nat) (Option.some Jvm.ClassFile.FieldType.boolean)).before args0 about1 = true := code_word (m := ⟨6, 2⟩) (meth := k6m2) (c := k6c2) (by decide +kernel) rfl rfl rfl (by decide +kernel)
set_option maxRecDepth 65536 in
theorem w_c2 : (Jvm.Cond.code ({ cls := "com/example/watermark/watermark/server/TransactionState$Phase", name := "prepare", desc := "(Z)Lcom/example/watermark/watermark/server/TransactionState$Phase;" } : Jvm.MethodName) prog_120_method_4_code (1 : Nat) (Option.some (Jvm.ClassFile.FieldType.object "com/example/watermark/watermark/server/TransactionState$Phase"))).before args0 about1 = true := code_word (m := ⟨6, 0⟩) (meth := k6m0) (c := k6c0) (by decide +kernel) rfl rfl rfl (by decide +kernel)
set_option maxRecDepth 65536 in
theorem w_c3 : (Jvm.Cond.code ({ cls := "com/example/watermark/watermark/server/TransactionState$Phase", name := "complete", desc := "(Z)Lcom/example/watermark/watermark/server/TransactionState$Phase;" } : Jvm.MethodName) prog_120_method_5_code (1 : Nat) (Option.some (Jvm.ClassFile.FieldType.object "com/example/watermark/watermark/server/TransactionState$Phase"))).before args0 about1 = true := code_word (m := ⟨6, 1⟩) (meth := k6m1) (c := k6c1) (by decide +kernel) rfl rfl rfl (by decide +kernel)
def codes1 : List Jvm.Cond := [Jvm.Cond.code x code maxLocals ret, Jvm.Cond.code ({ cls := "com/example/watermark/watermark/server/TransactionState$Phase", name := "isEnding", desc := "()Z" } : Jvm.MethodName) prog_120_method_6_code (1 : Nat) (Option.some Jvm.ClassFile.FieldType.boolean), Jvm.Cond.code ({ cls := "com/example/watermark/watermark/server/TransactionState$Phase", name := "prepare", desc := "(Z)Lcom/example/watermark/watermark/server/TransactionState$Phase;" } : Jvm.MethodName) prog_120_method_4_code (1 : Nat) (Option.some (Jvm.ClassFile.FieldType.object "com/example/watermark/watermark/server/TransactionState$Phase")), Jvm.Cond.code ({ cls := "com/example/watermark/watermark/server/TransactionState$Phase", name := "complete", desc := "(Z)Lcom/example/watermark/watermark/server/TransactionState$Phase;" } : Jvm.MethodName) prog_120_method_5_code (1 : Nat) (Option.some (Jvm.ClassFile.FieldType.object "com/example/watermark/watermark/server/TransactionState$Phase"))]
set_option maxRecDepth 65536 in
theorem codes_eq : words1.filter isCode = codes1 := rfl
theorem w_codes : ∀ c ∈ words1.filter isCode, c.before args0 about1 = true := by
  rw [codes_eq]
  intro c hc
  simp only [codes1, List.mem_cons, List.not_mem_nil, or_false] at hc
  rcases hc with rfl | rfl | rfl | rfl
  · exact w_c0
  · exact w_c1
  · exact w_c2
  · exact w_c3
set_option maxRecDepth 65536 in
theorem w_t1 : (words1.take 24).all (fun c => isCode c || c.before args0 about1) = true := by decide +kernel
set_option maxRecDepth 65536 in
theorem w_t2 : (words1.drop 24).all (fun c => isCode c || c.before args0 about1) = true := by decide +kernel
theorem w_tables : (allAtoms (Jvm.Cond.code x code maxLocals ret :: tables_1)).before args0 about1 = true := by
  rw [allAtoms_all]
  show words1.all (fun c => c.before args0 about1) = true
  refine all_split ?_ w_codes
  rw [← List.take_append_drop 24 words1, List.all_append, w_t1, w_t2]
  rfl
set_option maxRecDepth 65536 in
theorem w_case : (Jvm.Cond.and given_1 narrow_1).before args0 about1 = true := by decide +kernel
theorem w_applies : (headSpec (Jvm.Cond.code x code maxLocals ret :: tables_1) room_1).applies x e0.platform about1 = true :=
  (Spec.applies_iff w_frames).mpr ⟨w_running, w_runnable, w_alone, w_named, w_hears, w_ripe, w_room, w_tables⟩
theorem atStart : AtStart classFile x code maxLocals ret World_1 tables_1 room_1 Calls_1 rest_1 Pre_1 launch0 p0 e0 about1 theMethod args0 below0 :=
  ⟨lists_1, trivial, launch0.admits_env _ _ _, launch0.least_env, fairChoices_fair.cas, fairChoices_fair.clock, w_frames, w_args, w_heap, w_applies, trivial, trivial, w_case⟩
end start1
theorem witness_1 : WitnessClaimed_1 := ⟨start1.p0, start1.e0, start1.about1, start1.theMethod, start1.args0, start1.below0, start1.atStart⟩
end Jvm.Pilot.@@N@@
