import JvmDerived
import JvmDerived.Pilot.@@N@@Statement
import JvmDerived.Pilot.@@N@@Code
set_option linter.unusedVariables false
set_option linter.unusedSimpArgs false
namespace Jvm.RoadKit
open Sem ClassFile Op Lib Jvm.Stand Jvm.Free Jvm.LawKit
section New
variable {p : Program} {l : Launch} {e : Env} {R : Room} {s : State} {m : MethodId} {args : Array Value} {below : List Frame} {meth : Method} {c : Code} {T : State} {locs : List Loc} {cells slots : Nat}
theorem retI (X : Stand p l e R s m args below meth c T locs cells slots) (hx : p.tables.exec = Jvm.exec) {pc : Nat} {Ls : Array Slot} {z : Int32} {rest : List Value} (hret : meth.sig.returnType = some .int) (hd : decode c.code pc = .ok (.ireturn, 1)) {fs : List Frame}
    (hl : ∀ (f : JFrame) (acts : List Action), f.method = m → f.locked = none → f.entered = [] → (doReturn e (T.setTop f) acts (some (.int z))).1 = T.setFrames fs) : Steps p.tables e below (T.setTop (mkF m pc Ls (.int z :: rest))) (T.setFrames fs) := by
  have hm' : T.vm.method? m = some meth := X.method'
  have hn : narrow .int (.int z) = .int z := rfl
  show Steps p.tables e below (T.setTop { method := m, pc := pc, locals := Ls, stack := _ :: rest, locked := none }) _
  jvm_step X.here [X.here.top, hx, hd, hm', hret, hn]
  first | (intro acts; rw [hl _ acts rfl rfl rfl]) | rw [hl _ _ rfl rfl rfl]
  exact Steps.refl _
end New
end Jvm.RoadKit
namespace Jvm.Pilot.@@N@@
open Jvm Jvm.ClassFile Sem Op Lib Jvm.Free Jvm.Stand Jvm.LawKit Jvm.RoadKit Bundle Jvm.Pilot.@@N@@.Jvm.D
theorem own_noins {Z : State} {h : Heap} {a : Addr} {A Cn : String} {k : Nat} {a0 : Array Value} (E : Exa Z h a A) (w1 : (Jvm.Cond.superclass A "java/lang/Number").before a0 Z = true) (w2 : (Jvm.Cond.superclass "java/lang/Number" "java/lang/Object").before a0 Z = true) (w3 : (Jvm.Cond.noSuperclass "java/lang/Object").before a0 Z = true) (wi : (Jvm.Cond.instantiable Cn k).before a0 Z = true) (n1 : A ≠ Cn) (n2 : "java/lang/Number" ≠ Cn) (n3 : "java/lang/Object" ≠ Cn) : Ins Z h a Cn false := by
  obtain ⟨cell, ka, h1, h2, h3, h4, -⟩ := E
  obtain ⟨cN, kA, kN, f1, f2, f3, f4, f5, f6, -⟩ := Cond.superclass_spec h2 w1
  obtain ⟨cO, kN', kO, g1, g2, g3, g4, g5, g6, -⟩ := Cond.superclass_spec f1 w2
  obtain ⟨cO', kO', j1, j2, j3, -, -⟩ := Cond.noSuperclass_spec w3
  obtain ⟨cT, kT, i1, i2, i3, i4, -, -⟩ := Cond.instantiable_spec wi
  cases g1.symm.trans j1
  cases g3.symm.trans j2
  cases f3.symm.trans g2
  have e1 : cell.cls ≠ cT := fun e => by
    obtain ⟨k1, a1, a2⟩ := Vm.findClass_spec h2
    obtain ⟨k2, b1, b2⟩ := Vm.findClass_spec i1
    rw [e] at a1; cases a1.symm.trans b1; exact n1 (a2.symm.trans b2)
  have e2 : cN ≠ cT := fun e => by
    obtain ⟨k1, a1, a2⟩ := Vm.findClass_spec f1
    obtain ⟨k2, b1, b2⟩ := Vm.findClass_spec i1
    rw [e] at a1; cases a1.symm.trans b1; exact n2 (a2.symm.trans b2)
  have e3 : cO ≠ cT := fun e => by
    obtain ⟨k1, a1, a2⟩ := Vm.findClass_spec g1
    obtain ⟨k2, b1, b2⟩ := Vm.findClass_spec i1
    rw [e] at a1; cases a1.symm.trans b1; exact n3 (a2.symm.trans b2)
  have sub : ∀ fuel, Z.vm.isSubclassAux fuel cell.cls cT = false := fun fuel => by
    cases fuel with
    | zero => rfl
    | succ f =>
      cases f with
      | zero => simp [Vm.isSubclassAux, e1, f2, f4]
      | succ f' =>
        cases f' with
        | zero => simp [Vm.isSubclassAux, e1, e2, f2, f4, f3, g4]
        | succ f'' => simp [Vm.isSubclassAux, e1, e2, e3, f2, f4, f3, g4, g3, j3]
  have hi : kT.isInterface = false := by
    cases q : kT.isInterface with
    | false => rfl
    | true => rw [q] at i4; simp at i4
  refine ⟨cell, cT, h1, i1, ?_⟩
  have hasg : Z.vm.assignable cell.cls cT = false := by
    show Z.vm.assignableAux (255 + 1) cell.cls cT = false
    simp [Vm.assignableAux, e1, f2, i2, f5, i3, hi, Vm.isSubclass, sub]
  simp [hasg]
theorem own_len {args : Array Value} {s : State} {t : Jvm.Term} {a : Addr} {cl : Cell} {n : Int32} (ht : t.eval args s none [] s = some (.ref a)) (ha : s.arrayAt? a = some cl) (h : (Jvm.Term.length t).eval args s none [] s = some (.int n)) : cl.slots.size < 2 ^ 31 := by
  by_cases q : cl.slots.size < 2 ^ 31
  · exact q
  · simp [Term.eval, ht, ha, q] at h
theorem pn_6 : plainName "java/lang/Number" = true := by first | (simp [plainName, overriddenIn]; done) | decide +kernel
theorem ef_6 (m : MethodId) (x0 : Addr) : entryFrame m #[(.ref x0)] 1 = mkF m 0 #[.val (.ref x0)] [] := by first | (simp [entryFrame, mkF, argsToLocals, Value.category]; done) | rfl
theorem d6_0 : decode jdk_18_method_1_code 0 = .ok (.aload_n 0, 1) := by decide +kernel
theorem d6_1 : decode jdk_18_method_1_code 1 = .ok (.invokespecial 1, 3) := by decide +kernel
theorem d6_4 : decode jdk_18_method_1_code 4 = .ok (.return_, 1) := by decide +kernel
def Q_num (Z : State) (a1 : Addr) (h0 : Heap) (n0 : Nat) (v : Option Value) (h : Heap) (L : List Loc) : Prop := v = none ∧ Fr n0 L ∧ h = h0
set_option maxRecDepth 65536 in
set_option maxHeartbeats 40000000 in
theorem rm_num (l : Launch) (Z : State) (a0 : Array Value) (hw : ∀ d ∈ tables_1, d.before a0 Z = true) (ws : List Jvm.Cond) (a1 : Addr) (h0 : Heap) (n0 : Nat) (Z0 : n0 ≤ h0.size)  :
    MetFree l (⟨"java/lang/Number", "<init>", "()V"⟩ : MethodName) (head1 (Jvm.Cond.code (⟨"java/lang/Number", "<init>", "()V"⟩ : MethodName) jdk_18_method_1_code 1 none :: ws) ({ frames := 1, cells := 0, slots := 0, locals := 12 } : Room)) (fun a U => a = #[(.ref a1)] ∧ Z.Warmed39 U.vm ∧ U.heap = h0) (fun _ _ _ _ _ => True) (fun _ U o U' => ∃ v L, o = .returned v ∧ Q_num Z a1 h0 n0 v U'.heap L ∧ FrameEnd U o U' L ({ frames := 1, cells := 0, slots := 0, locals := 12 } : Room).cells ({ frames := 1, cells := 0, slots := 0, locals := 12 } : Room).slots) := by
  refine MetFree.of_bodySF (plainFor_of_name pn_6) hisR ?_
  intro p e s m args below meth c s₁ Bd hml0 hP hK
  obtain ⟨rfl, hZ, hh⟩ := hP
  have hx := Bd.exec
  have hby := Bd.bytes
  have hml : c.maxLocals = 1 := hml0
  have hown : s.vm.findClass "java/lang/Number" = some m.cls := findClass_of_methodNamed Bd.named
  have hnm := (name_of_methodNamed Bd.named Bd.method).1
  have X0 : Stand p l e ({ frames := 1, cells := 0, slots := 0, locals := 12 } : Room) s m #[(.ref a1)] below meth c s₁ [] 0 0 := Stand.of_body Bd
  have e0 : s₁.heap = h0 := by rw [← hh, Bd.state]; rfl
  have N0 := Fr.nil n0
  have pre0 : ∀ t, Steps p.tables e below (s₁.setTop (mkF m 0 #[.val (.ref a1)] [])) t → Steps p.tables e below (s₁.setTop (entryFrame m #[(.ref a1)] 1)) t := fun t k => castTop (ef_6 m a1) k
  have P1 : ∀ t, Steps p.tables e below (s₁.setTop (mkF m 1 #[.val (.ref a1)] [(.ref a1)])) t → Steps p.tables e below (s₁.setTop (mkF m 0 #[.val (.ref a1)] [])) t := fun t k => by
    show Steps p.tables e below (s₁.setTop (mkF m 0 #[.val (.ref a1)] [])) t
    refine XS.aloadN X0.here hx rfl (hb hby d6_0) rfl rfl ?_
    exact k
  obtain ⟨T2, X2, e2, st2⟩ := initO X0 hx hZ hown (hw _ (List.mem_of_getElem? (i := 37) rfl)) (hw _ (List.mem_of_getElem? (i := 7) rfl)) (hw _ (List.mem_of_getElem? (i := 8) rfl)) e0 (g := (mkF m 1 #[.val (.ref a1)] [(.ref a1)])) rfl (by rw [hml]; rfl) rfl (hb hby d6_1) (by decide) (W := 0) (by show 2 * 0 + _ ≤ _; exact Nat.le_of_eq rfl) (by decide)
  have P3 : ∀ t, Steps p.tables e below (T2.setTop (mkF m 4 #[.val (.ref a1)] [])) t → Steps p.tables e below (s₁.setTop (mkF m 0 #[.val (.ref a1)] [])) t := fun t k => P1 t (st2 _ k)
  obtain ⟨fs, hr, hrun, hended, hW, hsame⟩ := X2.leave (v := none) (fun _ => rfl)
  refine ⟨_, _, pre0 _ (P3 _ ?_), hrun, hended, _, _, rfl, ?_, ⟨_, rfl⟩, hW, hsame.mono (by decide) (by decide)⟩
  · exact X2.returnOut hx Bd.returns (hb hby d6_4) hr
  · show Q_num Z a1 h0 n0 _ T2.heap _
    rw [e2]
    exact ⟨rfl, N0, rfl⟩
theorem pn_5 : plainName "java/lang/Long" = true := by first | (simp [plainName, overriddenIn]; done) | decide +kernel
theorem ef_5 (m : MethodId) (x0 : Addr) (x1 : Int64) : entryFrame m #[(.ref x0), (.long x1)] 3 = mkF m 0 #[.val (.ref x0), .val (.long x1), .second] [] := by first | (simp [entryFrame, mkF, argsToLocals, Value.category]; done) | rfl
theorem d5_0 : decode jdk_35_method_26_code 0 = .ok (.aload_n 0, 1) := by decide +kernel
theorem d5_1 : decode jdk_35_method_26_code 1 = .ok (.invokespecial 270, 3) := by decide +kernel
theorem pd___V : parseMethodDescriptor "()V" = some ⟨[], none⟩ := by decide +kernel
theorem d5_4 : decode jdk_35_method_26_code 4 = .ok (.aload_n 0, 1) := by decide +kernel
theorem d5_5 : decode jdk_35_method_26_code 5 = .ok (.lload_n 1, 1) := by decide +kernel
theorem d5_6 : decode jdk_35_method_26_code 6 = .ok (.putfield 273, 3) := by decide +kernel
theorem d5_9 : decode jdk_35_method_26_code 9 = .ok (.return_, 1) := by decide +kernel
def Q_boxi (Z : State) (a1 : Addr) (p2 : Int64) (h0 : Heap) (n0 : Nat) (v : Option Value) (h : Heap) (L : List Loc) : Prop := v = none ∧ Fr n0 L ∧ Keep h0 h [a1] ∧ Exa Z h a1 "java/lang/Long" ∧ Fld Z h a1 "java/lang/Long" "value" "J" (.long p2)
set_option maxRecDepth 65536 in
set_option maxHeartbeats 40000000 in
theorem rm_boxi (l : Launch) (Z : State) (a0 : Array Value) (hw : ∀ d ∈ tables_1, d.before a0 Z = true) (ws : List Jvm.Cond) (a1 : Addr) (p2 : Int64) (h0 : Heap) (n0 : Nat) (Z0 : n0 ≤ h0.size) (E : Exa Z h0 a1 "java/lang/Long") (F : Fld Z h0 a1 "java/lang/Long" "value" "J" (.long (0 : Int64))) (g_a1 : n0 ≤ a1) :
    MetFree l (⟨"java/lang/Long", "<init>", "(J)V"⟩ : MethodName) (head1 (Jvm.Cond.code (⟨"java/lang/Long", "<init>", "(J)V"⟩ : MethodName) jdk_35_method_26_code 3 none :: ws) ({ frames := 2, cells := 0, slots := 0, locals := 24 } : Room)) (fun a U => a = #[(.ref a1), (.long p2)] ∧ Z.Warmed39 U.vm ∧ U.heap = h0) (fun _ _ _ _ _ => True) (fun _ U o U' => ∃ v L, o = .returned v ∧ Q_boxi Z a1 p2 h0 n0 v U'.heap L ∧ FrameEnd U o U' L ({ frames := 2, cells := 0, slots := 0, locals := 24 } : Room).cells ({ frames := 2, cells := 0, slots := 0, locals := 24 } : Room).slots) := by
  refine MetFree.of_bodySF (plainFor_of_name pn_5) hisR ?_
  intro p e s m args below meth c s₁ Bd hml0 hP hK
  obtain ⟨rfl, hZ, hh⟩ := hP
  have hx := Bd.exec
  have hby := Bd.bytes
  have hml : c.maxLocals = 3 := hml0
  have hown : s.vm.findClass "java/lang/Long" = some m.cls := findClass_of_methodNamed Bd.named
  have hnm := (name_of_methodNamed Bd.named Bd.method).1
  have X0 : Stand p l e ({ frames := 2, cells := 0, slots := 0, locals := 24 } : Room) s m #[(.ref a1), (.long p2)] below meth c s₁ [] 0 0 := Stand.of_body Bd
  have e0 : s₁.heap = h0 := by rw [← hh, Bd.state]; rfl
  have N0 := Fr.nil n0
  have pre0 : ∀ t, Steps p.tables e below (s₁.setTop (mkF m 0 #[.val (.ref a1), .val (.long p2), .second] [])) t → Steps p.tables e below (s₁.setTop (entryFrame m #[(.ref a1), (.long p2)] 3)) t := fun t k => castTop (ef_5 m a1 p2) k
  have KR_0 := Keep.refl h0 [a1]
  have P1 : ∀ t, Steps p.tables e below (s₁.setTop (mkF m 1 #[.val (.ref a1), .val (.long p2), .second] [(.ref a1)])) t → Steps p.tables e below (s₁.setTop (mkF m 0 #[.val (.ref a1), .val (.long p2), .second] [])) t := fun t k => by
    show Steps p.tables e below (s₁.setTop (mkF m 0 #[.val (.ref a1), .val (.long p2), .second] [])) t
    refine XS.aloadN X0.here hx rfl (hb hby d5_0) rfl rfl ?_
    exact k
  obtain ⟨_, _, ⟨T2, L2, k2, n2⟩, -, X2, ⟨Lc2, hQ2, l2, y2, z2⟩, st2⟩ := X0.specialBack hx (y := (⟨"java/lang/Number", "<init>", "()V"⟩ : MethodName)) rfl hown (mvT hZ (hw _ (List.mem_of_getElem? (i := 31) rfl))) (mvT hZ (hw _ (List.mem_of_getElem? (i := 32) rfl))) (mvT hZ (hw _ (List.mem_of_getElem? (i := 36) rfl))) (by decide) (backOf (W := 0) (rm_num l Z a0 hw [] a1 h0 n0 Z0) hZ (hw _ (List.mem_of_getElem? (i := 36) rfl)) (hw _ (List.mem_of_getElem? (i := 35) rfl)) (by decide) (by decide)) (g := (mkF m 1 #[.val (.ref a1), .val (.long p2), .second] [(.ref a1)])) rfl (by rw [hml]; rfl) (Steps.refl _) (a := a1) (argsL := []) (rest := []) (lenOf pd___V rfl) rfl (by show 2 * 0 + _ ≤ _; exact Nat.le_of_eq rfl) (hb hby d5_1) (fun _ _ => ⟨rfl, e0, (by decide : 0 + 0 ≤ _), (by decide : 0 + 0 ≤ _)⟩)
  dsimp only [Pt.U, Pt.locs, Pt.cells, Pt.slots] at X2 l2 y2 z2 st2 hQ2
  subst l2 y2 z2
  obtain ⟨rfl, N2q, e2⟩ := hQ2
  have N2 := Fr.app N0 N2q
  have P3 : ∀ t, Steps p.tables e below (T2.setTop (mkF m 4 #[.val (.ref a1), .val (.long p2), .second] [])) t → Steps p.tables e below (s₁.setTop (mkF m 0 #[.val (.ref a1), .val (.long p2), .second] [])) t := fun t k => P1 t (st2.trans k)
  have P4 : ∀ t, Steps p.tables e below (T2.setTop (mkF m 6 #[.val (.ref a1), .val (.long p2), .second] [(.long p2), (.ref a1)])) t → Steps p.tables e below (s₁.setTop (mkF m 0 #[.val (.ref a1), .val (.long p2), .second] [])) t := fun t k => by
    refine P3 t ?_
    show Steps p.tables e below (T2.setTop (mkF m 4 #[.val (.ref a1), .val (.long p2), .second] [])) t
    refine XS.aloadN X2.here hx rfl (hb hby d5_4) rfl rfl ?_
    show Steps p.tables e below (T2.setTop (mkF m 5 #[.val (.ref a1), .val (.long p2), .second] [(.ref a1)])) t
    refine XS.lloadN X2.here hx rfl (hb hby d5_5) rfl ?_
    exact k
  obtain ⟨T5, h5, X5, e5, W5, st5⟩ := putF X2 hx hZ hown (host := "") (Or.inl (hw _ (List.mem_of_getElem? (i := 38) rfl))) Via.refl e2 F E (Or.inr ⟨(hw _ (List.mem_of_getElem? (i := 39) rfl)), rfl, hnm⟩) (hw _ (List.mem_of_getElem? (i := 26) rfl)) (ty := .long) (by decide) rfl rfl (g := (mkF m 6 #[.val (.ref a1), .val (.long p2), .second] [(.long p2), (.ref a1)])) rfl rfl (hb hby d5_6)
  have E_5 := E.wr W5
  have F_5 := F.same W5
  have KR_5 := KR_0.wr W5 (Or.inl (List.mem_of_getElem? (i := 0) rfl))
  have Z_6 : n0 ≤ h5.size := Nat.le_trans Z0 (Keep.of_wr W5).1
  have N5 := Fr.snoc X5 N2 g_a1
  have P7 : ∀ t, Steps p.tables e below (T5.setTop (mkF m 9 #[.val (.ref a1), .val (.long p2), .second] [])) t → Steps p.tables e below (s₁.setTop (mkF m 0 #[.val (.ref a1), .val (.long p2), .second] [])) t := fun t k => P4 t (st5 _ k)
  obtain ⟨fs, hr, hrun, hended, hW, hsame⟩ := X5.leave (v := none) (fun _ => rfl)
  refine ⟨_, _, pre0 _ (P7 _ ?_), hrun, hended, _, _, rfl, ?_, ⟨_, rfl⟩, hW, hsame.mono (by decide) (by decide)⟩
  · exact X5.returnOut hx Bd.returns (hb hby d5_9) hr
  · show Q_boxi Z a1 p2 h0 n0 _ T5.heap _
    rw [e5]
    exact ⟨rfl, N5, KR_5, E_5, F_5⟩
theorem pn_4 : plainName "java/lang/Long" = true := by first | (simp [plainName, overriddenIn]; done) | decide +kernel
theorem ef_4 (m : MethodId) (x0 : Int64) : entryFrame m #[(.long x0)] 3 = mkF m 0 #[.val (.long x0), .second, .unset] [] := by first | (simp [entryFrame, mkF, argsToLocals, Value.category]; done) | rfl
theorem d4_0 : decode jdk_35_method_24_code 0 = .ok (.sipush 128, 3) := by decide +kernel
theorem d4_3 : decode jdk_35_method_24_code 3 = .ok (.istore_n 2, 1) := by decide +kernel
theorem d4_4 : decode jdk_35_method_24_code 4 = .ok (.lload_n 0, 1) := by decide +kernel
theorem d4_5 : decode jdk_35_method_24_code 5 = .ok (.ldc2_w 230, 3) := by decide +kernel
theorem d4_8 : decode jdk_35_method_24_code 8 = .ok (.lcmp, 1) := by decide +kernel
theorem d4_9 : decode jdk_35_method_24_code 9 = .ok (.ifCond .lt 22, 3) := by decide +kernel
theorem d4_31 : decode jdk_35_method_24_code 31 = .ok (.new 1, 3) := by decide +kernel
theorem d4_34 : decode jdk_35_method_24_code 34 = .ok (.dup, 1) := by decide +kernel
theorem d4_35 : decode jdk_35_method_24_code 35 = .ok (.lload_n 0, 1) := by decide +kernel
theorem d4_36 : decode jdk_35_method_24_code 36 = .ok (.invokespecial 240, 3) := by decide +kernel
theorem pd__J_V : parseMethodDescriptor "(J)V" = some ⟨[.long], none⟩ := by decide +kernel
theorem d4_39 : decode jdk_35_method_24_code 39 = .ok (.areturn, 1) := by decide +kernel
theorem d4_12 : decode jdk_35_method_24_code 12 = .ok (.lload_n 0, 1) := by decide +kernel
theorem d4_13 : decode jdk_35_method_24_code 13 = .ok (.ldc2_w 232, 3) := by decide +kernel
theorem d4_16 : decode jdk_35_method_24_code 16 = .ok (.lcmp, 1) := by decide +kernel
theorem d4_17 : decode jdk_35_method_24_code 17 = .ok (.ifCond .gt 14, 3) := by decide +kernel
theorem d4_20 : decode jdk_35_method_24_code 20 = .ok (.getstatic 234, 3) := by decide +kernel
theorem d4_23 : decode jdk_35_method_24_code 23 = .ok (.lload_n 0, 1) := by decide +kernel
theorem d4_24 : decode jdk_35_method_24_code 24 = .ok (.l2i, 1) := by decide +kernel
theorem d4_25 : decode jdk_35_method_24_code 25 = .ok (.sipush 128, 3) := by decide +kernel
theorem d4_28 : decode jdk_35_method_24_code 28 = .ok (.iadd, 1) := by decide +kernel
theorem d4_29 : decode jdk_35_method_24_code 29 = .ok (.aaload, 1) := by decide +kernel
theorem d4_30 : decode jdk_35_method_24_code 30 = .ok (.areturn, 1) := by decide +kernel
def Q_vo (Z : State) (p1 : Int64) (wC : Addr) (cC : Cell) (h0 : Heap) (n0 : Nat) (v : Option Value) (h : Heap) (L : List Loc) : Prop := ∃ b, v = some (.ref b) ∧ Fr n0 L ∧ Keep h0 h [] ∧ Exa Z h b "java/lang/Long"
set_option maxRecDepth 65536 in
set_option maxHeartbeats 40000000 in
theorem rm_vo (l : Launch) (Z : State) (a0 : Array Value) (hw : ∀ d ∈ tables_1, d.before a0 Z = true) (ws : List Jvm.Cond) (p1 : Int64) (wC : Addr) (cC : Cell) (h0 : Heap) (n0 : Nat) (Z0 : n0 ≤ h0.size) (OL_0 : Old Z n0 h0) (S_cache : Sta Z Z.heap "java/lang/Long$LongCache" "cache" "[Ljava/lang/Long;" (.ref wC)) (BX : Bxs Z wC cC "java/lang/Long" "J" (256 : Int32) (fun j => .long (j - 128).toInt64)) :
    MetFree l (⟨"java/lang/Long", "valueOf", "(J)Ljava/lang/Long;"⟩ : MethodName) (head1 (Jvm.Cond.code (⟨"java/lang/Long", "valueOf", "(J)Ljava/lang/Long;"⟩ : MethodName) jdk_35_method_24_code 3 (some (.object "java/lang/Long")) :: ws) ({ frames := 3, cells := 1, slots := 1, locals := 39 } : Room)) (fun a U => a = #[(.long p1)] ∧ Z.Warmed39 U.vm ∧ U.heap = h0) (fun _ _ _ _ _ => True) (fun _ U o U' => ∃ v L, o = .returned v ∧ Q_vo Z p1 wC cC h0 n0 v U'.heap L ∧ FrameEnd U o U' L ({ frames := 3, cells := 1, slots := 1, locals := 39 } : Room).cells ({ frames := 3, cells := 1, slots := 1, locals := 39 } : Room).slots) := by
  refine MetFree.of_bodySF (plainFor_of_name pn_4) hisR ?_
  intro p e s m args below meth c s₁ Bd hml0 hP hK
  obtain ⟨rfl, hZ, hh⟩ := hP
  have hx := Bd.exec
  have hby := Bd.bytes
  have hml : c.maxLocals = 3 := hml0
  have hown : s.vm.findClass "java/lang/Long" = some m.cls := findClass_of_methodNamed Bd.named
  have hnm := (name_of_methodNamed Bd.named Bd.method).1
  have X0 : Stand p l e ({ frames := 3, cells := 1, slots := 1, locals := 39 } : Room) s m #[(.long p1)] below meth c s₁ [] 0 0 := Stand.of_body Bd
  have e0 : s₁.heap = h0 := by rw [← hh, Bd.state]; rfl
  have N0 := Fr.nil n0
  have pre0 : ∀ t, Steps p.tables e below (s₁.setTop (mkF m 0 #[.val (.long p1), .second, .unset] [])) t → Steps p.tables e below (s₁.setTop (entryFrame m #[(.long p1)] 3)) t := fun t k => castTop (ef_4 m p1) k
  have KR_0 := Keep.refl h0 ([] : List Addr)
  have P1 : ∀ t, Steps p.tables e below (s₁.setTop (mkF m 9 #[.val (.long p1), .second, .val (.int (128 : Int32))] [(.int (lcmpW p1 (-128 : Int64)))])) t → Steps p.tables e below (s₁.setTop (mkF m 0 #[.val (.long p1), .second, .unset] [])) t := fun t k => by
    show Steps p.tables e below (s₁.setTop (mkF m 0 #[.val (.long p1), .second, .unset] [])) t
    refine XS.sipush X0.here hx rfl (hb hby d4_0) ?_
    show Steps p.tables e below (s₁.setTop (mkF m 3 #[.val (.long p1), .second, .unset] [(.int (128 : Int32))])) t
    refine XS.istoreN X0.here hx rfl (hb hby d4_3) rfl (l' := #[.val (.long p1), .second, .val (.int (128 : Int32))]) rfl ?_
    show Steps p.tables e below (s₁.setTop (mkF m 4 #[.val (.long p1), .second, .val (.int (128 : Int32))] [])) t
    refine XS.lloadN X0.here hx rfl (hb hby d4_4) rfl ?_
    show Steps p.tables e below (s₁.setTop (mkF m 5 #[.val (.long p1), .second, .val (.int (128 : Int32))] [(.long p1)])) t
    refine X0.ldc2Long hx hown (mvT hZ (hw _ (List.mem_of_getElem? (i := 24) rfl))) (g := (mkF m 5 #[.val (.long p1), .second, .val (.int (128 : Int32))] [(.long p1)])) rfl (hb hby d4_5) _ ?_
    show Steps p.tables e below (s₁.setTop (mkF m 8 #[.val (.long p1), .second, .val (.int (128 : Int32))] [(.long (-128 : Int64)), (.long p1)])) t
    refine XS.lcmp X0.here hx rfl (hb hby d4_8) rfl ?_
    exact k
  by_cases hc2 : (lcmpW p1 (-128 : Int64)) < (0 : Int32)
  · have P3 : ∀ t, Steps p.tables e below (s₁.setTop (mkF m 31 #[.val (.long p1), .second, .val (.int (128 : Int32))] [])) t → Steps p.tables e below (s₁.setTop (mkF m 0 #[.val (.long p1), .second, .unset] [])) t := fun t k => by
      refine P1 t ?_
      show Steps p.tables e below (s₁.setTop (mkF m 9 #[.val (.long p1), .second, .val (.int (128 : Int32))] [(.int (lcmpW p1 (-128 : Int64)))])) t
      refine XS.ifYes X0.here hx rfl (pc0 := 9) (pc' := 31) rfl (hb hby d4_9) rfl ((if0 _ _).trans (tlt hc2).1) (by decide) (by decide) ?_
      exact k
    obtain ⟨T4, h4, X4, e4, E4, A4, D4, -, st4⟩ := newO X0 hx hZ hown (hw _ (List.mem_of_getElem? (i := 25) rfl)) (hw _ (List.mem_of_getElem? (i := 26) rfl)) (hw _ (List.mem_of_getElem? (i := 22) rfl)) e0 (g := (mkF m 31 #[.val (.long p1), .second, .val (.int (128 : Int32))] [])) rfl (hb hby d4_31) (by decide) (by decide)
    obtain ⟨b4, g4⟩ : ∃ z, z = h0.size := ⟨_, rfl⟩
    rw [← g4] at A4 D4 st4
    have g_b4 : n0 ≤ b4 := Nat.le_trans Z0 (Nat.le_of_eq g4.symm)
    have sz_b4 : h0.size ≤ b4 := Nat.le_trans KR_0.1 (Nat.le_of_eq g4.symm)
    have OL_4 := OL_0.ext E4
    have KR_4 := KR_0.ext E4
    have Z_5 : n0 ≤ h4.size := Nat.le_trans Z0 E4.1
    have F_value_b4 : Fld Z h4 b4 "java/lang/Long" "value" "J" (.long (0 : Int64)) := D4 (Or.inr (hw _ (List.mem_of_getElem? (i := 39) rfl))) (ty := .long) (by decide)
    have P6 : ∀ t, Steps p.tables e below (T4.setTop (mkF m 34 #[.val (.long p1), .second, .val (.int (128 : Int32))] [(.ref b4)])) t → Steps p.tables e below (s₁.setTop (mkF m 0 #[.val (.long p1), .second, .unset] [])) t := fun t k => P3 t (st4 _ k)
    have P7 : ∀ t, Steps p.tables e below (T4.setTop (mkF m 36 #[.val (.long p1), .second, .val (.int (128 : Int32))] [(.long p1), (.ref b4), (.ref b4)])) t → Steps p.tables e below (s₁.setTop (mkF m 0 #[.val (.long p1), .second, .unset] [])) t := fun t k => by
      refine P6 t ?_
      show Steps p.tables e below (T4.setTop (mkF m 34 #[.val (.long p1), .second, .val (.int (128 : Int32))] [(.ref b4)])) t
      refine XS.dup X4.here hx rfl (hb hby d4_34) rfl rfl ?_
      show Steps p.tables e below (T4.setTop (mkF m 35 #[.val (.long p1), .second, .val (.int (128 : Int32))] [(.ref b4), (.ref b4)])) t
      refine XS.lloadN X4.here hx rfl (hb hby d4_35) rfl ?_
      exact k
    obtain ⟨_, _, ⟨T8, L8, k8, n8⟩, -, X8, ⟨Lc8, hQ8, l8, y8, z8⟩, st8⟩ := X4.specialBack hx (y := (⟨"java/lang/Long", "<init>", "(J)V"⟩ : MethodName)) rfl hown (mvT hZ (hw _ (List.mem_of_getElem? (i := 27) rfl))) (mvT hZ (hw _ (List.mem_of_getElem? (i := 28) rfl))) (mvT hZ (hw _ (List.mem_of_getElem? (i := 30) rfl))) (by decide) (backOf (W := 1) (rm_boxi l Z a0 hw [] b4 p1 h4 n0 Z_5 A4 F_value_b4 g_b4) hZ (hw _ (List.mem_of_getElem? (i := 30) rfl)) (hw _ (List.mem_of_getElem? (i := 22) rfl)) (by decide) (by decide)) (g := (mkF m 36 #[.val (.long p1), .second, .val (.int (128 : Int32))] [(.long p1), (.ref b4), (.ref b4)])) rfl (by rw [hml]; rfl) (Steps.refl _) (a := b4) (argsL := [(.long p1)]) (rest := [(.ref b4)]) (lenOf pd__J_V rfl) rfl (by show 2 * 0 + _ ≤ _; exact Nat.le_of_eq rfl) (hb hby d4_36) (fun _ _ => ⟨rfl, e4, (by decide : 1 + 0 ≤ _), (by decide : 1 + 0 ≤ _)⟩)
    dsimp only [Pt.U, Pt.locs, Pt.cells, Pt.slots] at X8 l8 y8 z8 st8 hQ8
    subst l8 y8 z8
    obtain ⟨rfl, N8q, K8, E8x, F8x⟩ := hQ8
    have OL_8 := OL_4.keep K8 (allS g_b4 all0)
    have KR_8 := KR_4.trans K8 (allS (Or.inr sz_b4) all0)
    have A4_8 := A4.keep K8
    have Z_9 : n0 ≤ T8.heap.size := Nat.le_trans Z_5 K8.1
    have N8 := Fr.app N0 N8q
    have P10 : ∀ t, Steps p.tables e below (T8.setTop (mkF m 39 #[.val (.long p1), .second, .val (.int (128 : Int32))] [(.ref b4)])) t → Steps p.tables e below (s₁.setTop (mkF m 0 #[.val (.long p1), .second, .unset] [])) t := fun t k => P7 t (st8.trans k)
    obtain ⟨fs, hr, hrun, hended, hW, hsame⟩ := X8.leave (v := some (.ref b4)) (fun h => by rw [Bd.returns] at h; cases h)
    refine ⟨_, _, pre0 _ (P10 _ ?_), hrun, hended, _, _, rfl, ?_, ⟨_, rfl⟩, hW, hsame.mono (by decide) (by decide)⟩
    · jvm_step X8.here [X8.here.top, hx, (hb hby d4_39), X8.method', Bd.returns, Value.isRef, FieldType.isReference]
      first | (intro acts; rw [hr _ acts rfl rfl rfl]) | rw [hr _ _ rfl rfl rfl]
      exact Steps.refl _
    · show Q_vo Z p1 wC cC h0 n0 _ T8.heap _
      exact ⟨b4, rfl, N8, KR_8, A4_8⟩
  · have P11 : ∀ t, Steps p.tables e below (s₁.setTop (mkF m 17 #[.val (.long p1), .second, .val (.int (128 : Int32))] [(.int (lcmpW p1 (127 : Int64)))])) t → Steps p.tables e below (s₁.setTop (mkF m 0 #[.val (.long p1), .second, .unset] [])) t := fun t k => by
      refine P1 t ?_
      show Steps p.tables e below (s₁.setTop (mkF m 9 #[.val (.long p1), .second, .val (.int (128 : Int32))] [(.int (lcmpW p1 (-128 : Int64)))])) t
      refine XS.ifNo X0.here hx rfl (hb hby d4_9) rfl ((if0 _ _).trans (flt hc2).1) ?_
      show Steps p.tables e below (s₁.setTop (mkF m 12 #[.val (.long p1), .second, .val (.int (128 : Int32))] [])) t
      refine XS.lloadN X0.here hx rfl (hb hby d4_12) rfl ?_
      show Steps p.tables e below (s₁.setTop (mkF m 13 #[.val (.long p1), .second, .val (.int (128 : Int32))] [(.long p1)])) t
      refine X0.ldc2Long hx hown (mvT hZ (hw _ (List.mem_of_getElem? (i := 43) rfl))) (g := (mkF m 13 #[.val (.long p1), .second, .val (.int (128 : Int32))] [(.long p1)])) rfl (hb hby d4_13) _ ?_
      show Steps p.tables e below (s₁.setTop (mkF m 16 #[.val (.long p1), .second, .val (.int (128 : Int32))] [(.long (127 : Int64)), (.long p1)])) t
      refine XS.lcmp X0.here hx rfl (hb hby d4_16) rfl ?_
      exact k
    by_cases hc12 : (0 : Int32) < (lcmpW p1 (127 : Int64))
    · have P13 : ∀ t, Steps p.tables e below (s₁.setTop (mkF m 31 #[.val (.long p1), .second, .val (.int (128 : Int32))] [])) t → Steps p.tables e below (s₁.setTop (mkF m 0 #[.val (.long p1), .second, .unset] [])) t := fun t k => by
        refine P11 t ?_
        show Steps p.tables e below (s₁.setTop (mkF m 17 #[.val (.long p1), .second, .val (.int (128 : Int32))] [(.int (lcmpW p1 (127 : Int64)))])) t
        refine XS.ifYes X0.here hx rfl (pc0 := 17) (pc' := 31) rfl (hb hby d4_17) rfl ((if0 _ _).trans (tlt hc12).2.2.1) (by decide) (by decide) ?_
        exact k
      obtain ⟨T14, h14, X14, e14, E14, A14, D14, -, st14⟩ := newO X0 hx hZ hown (hw _ (List.mem_of_getElem? (i := 25) rfl)) (hw _ (List.mem_of_getElem? (i := 26) rfl)) (hw _ (List.mem_of_getElem? (i := 22) rfl)) e0 (g := (mkF m 31 #[.val (.long p1), .second, .val (.int (128 : Int32))] [])) rfl (hb hby d4_31) (by decide) (by decide)
      obtain ⟨b14, g14⟩ : ∃ z, z = h0.size := ⟨_, rfl⟩
      rw [← g14] at A14 D14 st14
      have g_b14 : n0 ≤ b14 := Nat.le_trans Z0 (Nat.le_of_eq g14.symm)
      have sz_b14 : h0.size ≤ b14 := Nat.le_trans KR_0.1 (Nat.le_of_eq g14.symm)
      have OL_14 := OL_0.ext E14
      have KR_14 := KR_0.ext E14
      have Z_15 : n0 ≤ h14.size := Nat.le_trans Z0 E14.1
      have F_value_b14 : Fld Z h14 b14 "java/lang/Long" "value" "J" (.long (0 : Int64)) := D14 (Or.inr (hw _ (List.mem_of_getElem? (i := 39) rfl))) (ty := .long) (by decide)
      have P16 : ∀ t, Steps p.tables e below (T14.setTop (mkF m 34 #[.val (.long p1), .second, .val (.int (128 : Int32))] [(.ref b14)])) t → Steps p.tables e below (s₁.setTop (mkF m 0 #[.val (.long p1), .second, .unset] [])) t := fun t k => P13 t (st14 _ k)
      have P17 : ∀ t, Steps p.tables e below (T14.setTop (mkF m 36 #[.val (.long p1), .second, .val (.int (128 : Int32))] [(.long p1), (.ref b14), (.ref b14)])) t → Steps p.tables e below (s₁.setTop (mkF m 0 #[.val (.long p1), .second, .unset] [])) t := fun t k => by
        refine P16 t ?_
        show Steps p.tables e below (T14.setTop (mkF m 34 #[.val (.long p1), .second, .val (.int (128 : Int32))] [(.ref b14)])) t
        refine XS.dup X14.here hx rfl (hb hby d4_34) rfl rfl ?_
        show Steps p.tables e below (T14.setTop (mkF m 35 #[.val (.long p1), .second, .val (.int (128 : Int32))] [(.ref b14), (.ref b14)])) t
        refine XS.lloadN X14.here hx rfl (hb hby d4_35) rfl ?_
        exact k
      obtain ⟨_, _, ⟨T18, L18, k18, n18⟩, -, X18, ⟨Lc18, hQ18, l18, y18, z18⟩, st18⟩ := X14.specialBack hx (y := (⟨"java/lang/Long", "<init>", "(J)V"⟩ : MethodName)) rfl hown (mvT hZ (hw _ (List.mem_of_getElem? (i := 27) rfl))) (mvT hZ (hw _ (List.mem_of_getElem? (i := 28) rfl))) (mvT hZ (hw _ (List.mem_of_getElem? (i := 30) rfl))) (by decide) (backOf (W := 1) (rm_boxi l Z a0 hw [] b14 p1 h14 n0 Z_15 A14 F_value_b14 g_b14) hZ (hw _ (List.mem_of_getElem? (i := 30) rfl)) (hw _ (List.mem_of_getElem? (i := 22) rfl)) (by decide) (by decide)) (g := (mkF m 36 #[.val (.long p1), .second, .val (.int (128 : Int32))] [(.long p1), (.ref b14), (.ref b14)])) rfl (by rw [hml]; rfl) (Steps.refl _) (a := b14) (argsL := [(.long p1)]) (rest := [(.ref b14)]) (lenOf pd__J_V rfl) rfl (by show 2 * 0 + _ ≤ _; exact Nat.le_of_eq rfl) (hb hby d4_36) (fun _ _ => ⟨rfl, e14, (by decide : 1 + 0 ≤ _), (by decide : 1 + 0 ≤ _)⟩)
      dsimp only [Pt.U, Pt.locs, Pt.cells, Pt.slots] at X18 l18 y18 z18 st18 hQ18
      subst l18 y18 z18
      obtain ⟨rfl, N18q, K18, E18x, F18x⟩ := hQ18
      have OL_18 := OL_14.keep K18 (allS g_b14 all0)
      have KR_18 := KR_14.trans K18 (allS (Or.inr sz_b14) all0)
      have A14_18 := A14.keep K18
      have Z_19 : n0 ≤ T18.heap.size := Nat.le_trans Z_15 K18.1
      have N18 := Fr.app N0 N18q
      have P20 : ∀ t, Steps p.tables e below (T18.setTop (mkF m 39 #[.val (.long p1), .second, .val (.int (128 : Int32))] [(.ref b14)])) t → Steps p.tables e below (s₁.setTop (mkF m 0 #[.val (.long p1), .second, .unset] [])) t := fun t k => P17 t (st18.trans k)
      obtain ⟨fs, hr, hrun, hended, hW, hsame⟩ := X18.leave (v := some (.ref b14)) (fun h => by rw [Bd.returns] at h; cases h)
      refine ⟨_, _, pre0 _ (P20 _ ?_), hrun, hended, _, _, rfl, ?_, ⟨_, rfl⟩, hW, hsame.mono (by decide) (by decide)⟩
      · jvm_step X18.here [X18.here.top, hx, (hb hby d4_39), X18.method', Bd.returns, Value.isRef, FieldType.isReference]
        first | (intro acts; rw [hr _ acts rfl rfl rfl]) | rw [hr _ _ rfl rfl rfl]
        exact Steps.refl _
      · show Q_vo Z p1 wC cC h0 n0 _ T18.heap _
        exact ⟨b14, rfl, N18, KR_18, A14_18⟩
    · have P21 : ∀ t, Steps p.tables e below (s₁.setTop (mkF m 20 #[.val (.long p1), .second, .val (.int (128 : Int32))] [])) t → Steps p.tables e below (s₁.setTop (mkF m 0 #[.val (.long p1), .second, .unset] [])) t := fun t k => by
        refine P11 t ?_
        show Steps p.tables e below (s₁.setTop (mkF m 17 #[.val (.long p1), .second, .val (.int (128 : Int32))] [(.int (lcmpW p1 (127 : Int64)))])) t
        refine XS.ifNo X0.here hx rfl (hb hby d4_17) rfl ((if0 _ _).trans (flt hc12).2.2.1) ?_
        exact k
      obtain ⟨T22, X22, e22, st22⟩ := getS2 X0 hx hZ hown (host := "") (Or.inl (hw _ (List.mem_of_getElem? (i := 44) rfl))) Via.refl e0 (S_cache.ext OL_0.2) (g := (mkF m 20 #[.val (.long p1), .second, .val (.int (128 : Int32))] [])) rfl (hb hby d4_20)
      have P23 : ∀ t, Steps p.tables e below (T22.setTop (mkF m 23 #[.val (.long p1), .second, .val (.int (128 : Int32))] [(.ref wC)])) t → Steps p.tables e below (s₁.setTop (mkF m 0 #[.val (.long p1), .second, .unset] [])) t := fun t k => P21 t (st22 _ k)
      have hb1 : ¬ p1 < (-128 : Int64) := fun q => hc2 ((lw_lt _ _).mpr q)
      have hb2 : ¬ p1 > (127 : Int64) := fun q => hc12 ((lw_gt _ _).mpr q)
      have hpl := (Jvm.Free.LongBox.place_okL p1 hb1 hb2).1
      have hin : ¬ (((p1.toInt32) + (128 : Int32)) < 0 ∨ cC.slots.size ≤ (((p1.toInt32) + (128 : Int32))).toNatClampNeg) := by
        have e := BX.2.1; rw [show (256 : Int32).toNatClampNeg = 256 from rfl] at e; rw [e]; exact hpl
      obtain ⟨bx, hbx, EX, -⟩ := BX.2.2.2 _ hin
      have ArC := BX.1.ext OL_0.2
      have EXh := EX.ext OL_0.2
      have P24 : ∀ t, Steps p.tables e below (T22.setTop (mkF m 30 #[.val (.long p1), .second, .val (.int (128 : Int32))] [(.ref bx)])) t → Steps p.tables e below (s₁.setTop (mkF m 0 #[.val (.long p1), .second, .unset] [])) t := fun t k => by
        refine P23 t ?_
        show Steps p.tables e below (T22.setTop (mkF m 23 #[.val (.long p1), .second, .val (.int (128 : Int32))] [(.ref wC)])) t
        refine XS.lloadN X22.here hx rfl (hb hby d4_23) rfl ?_
        show Steps p.tables e below (T22.setTop (mkF m 24 #[.val (.long p1), .second, .val (.int (128 : Int32))] [(.long p1), (.ref wC)])) t
        refine XS.l2i X22.here hx rfl (hb hby d4_24) rfl ?_
        show Steps p.tables e below (T22.setTop (mkF m 25 #[.val (.long p1), .second, .val (.int (128 : Int32))] [(.int (p1.toInt32)), (.ref wC)])) t
        refine XS.sipush X22.here hx rfl (hb hby d4_25) ?_
        show Steps p.tables e below (T22.setTop (mkF m 28 #[.val (.long p1), .second, .val (.int (128 : Int32))] [(.int (128 : Int32)), (.int (p1.toInt32)), (.ref wC)])) t
        refine XS.iadd X22.here hx rfl (hb hby d4_28) rfl ?_
        show Steps p.tables e below (T22.setTop (mkF m 29 #[.val (.long p1), .second, .val (.int (128 : Int32))] [(.int ((p1.toInt32) + (128 : Int32))), (.ref wC)])) t
        refine X22.aaload hx (j := ((p1.toInt32) + (128 : Int32))) (v := (.ref bx)) (by rw [e22]; exact ArC.1) (State.isArrayOf_alike hZ.alike ArC.2.1) rfl ArC.2.2 hin hbx (g := (mkF m 29 #[.val (.long p1), .second, .val (.int (128 : Int32))] [(.int ((p1.toInt32) + (128 : Int32))), (.ref wC)])) rfl rfl (hb hby d4_29) _ ?_
        exact k
      obtain ⟨fs, hr, hrun, hended, hW, hsame⟩ := X22.leave (v := some (.ref bx)) (fun h => by rw [Bd.returns] at h; cases h)
      refine ⟨_, _, pre0 _ (P24 _ ?_), hrun, hended, _, _, rfl, ?_, ⟨_, rfl⟩, hW, hsame.mono (by decide) (by decide)⟩
      · jvm_step X22.here [X22.here.top, hx, (hb hby d4_30), X22.method', Bd.returns, Value.isRef, FieldType.isReference]
        first | (intro acts; rw [hr _ acts rfl rfl rfl]) | rw [hr _ _ rfl rfl rfl]
        exact Steps.refl _
      · show Q_vo Z p1 wC cC h0 n0 _ T22.heap _
        rw [e22]
        exact ⟨bx, rfl, N0, KR_0, EXh⟩
theorem pn_1 : plainName "com/example/tidy_expiry/tidyexpiry/keyspace/StreamId" = true := by first | (simp [plainName, overriddenIn]; done) | decide +kernel
theorem ef_1 (m : MethodId) (x0 : Addr) (x1 : Int64) (x2 : Int64) : entryFrame m #[(.ref x0), (.long x1), (.long x2)] 5 = mkF m 0 #[.val (.ref x0), .val (.long x1), .second, .val (.long x2), .second] [] := by first | (simp [entryFrame, mkF, argsToLocals, Value.category]; done) | rfl
theorem d1_0 : decode prog_43_method_1_code 0 = .ok (.aload_n 0, 1) := by decide +kernel
theorem d1_1 : decode prog_43_method_1_code 1 = .ok (.invokespecial 1, 3) := by decide +kernel
theorem d1_4 : decode prog_43_method_1_code 4 = .ok (.aload_n 0, 1) := by decide +kernel
theorem d1_5 : decode prog_43_method_1_code 5 = .ok (.lload_n 1, 1) := by decide +kernel
theorem d1_6 : decode prog_43_method_1_code 6 = .ok (.putfield 7, 3) := by decide +kernel
theorem d1_9 : decode prog_43_method_1_code 9 = .ok (.aload_n 0, 1) := by decide +kernel
theorem d1_10 : decode prog_43_method_1_code 10 = .ok (.lload_n 3, 1) := by decide +kernel
theorem d1_11 : decode prog_43_method_1_code 11 = .ok (.putfield 13, 3) := by decide +kernel
theorem d1_14 : decode prog_43_method_1_code 14 = .ok (.return_, 1) := by decide +kernel
def Q1 (Z : State) (a1 : Addr) (q2 q3 : Int64) (h0 : Heap) (n0 : Nat) (v : Option Value) (h : Heap) (L : List Loc) : Prop := v = none ∧ Fr n0 L ∧ Keep h0 h [a1] ∧ Exa Z h a1 "com/example/tidy_expiry/tidyexpiry/keyspace/StreamId" ∧ Fld Z h a1 "com/example/tidy_expiry/tidyexpiry/keyspace/StreamId" "millis" "J" (.long q2) ∧ Fld Z h a1 "com/example/tidy_expiry/tidyexpiry/keyspace/StreamId" "sequence" "J" (.long q3)
set_option maxRecDepth 65536 in
set_option maxHeartbeats 40000000 in
theorem rm1 (l : Launch) (Z : State) (a0 : Array Value) (hw : ∀ d ∈ tables_1, d.before a0 Z = true) (ws : List Jvm.Cond) (a1 : Addr) (q2 q3 : Int64) (h0 : Heap) (n0 : Nat) (Z0 : n0 ≤ h0.size) (E : Exa Z h0 a1 "com/example/tidy_expiry/tidyexpiry/keyspace/StreamId") (F_millis_a1 : Fld Z h0 a1 "com/example/tidy_expiry/tidyexpiry/keyspace/StreamId" "millis" "J" (.long (0 : Int64))) (F_sequence_a1 : Fld Z h0 a1 "com/example/tidy_expiry/tidyexpiry/keyspace/StreamId" "sequence" "J" (.long (0 : Int64))) (g_a1 : n0 ≤ a1) :
    MetFree l (⟨"com/example/tidy_expiry/tidyexpiry/keyspace/StreamId", "<init>", "(JJ)V"⟩ : MethodName) (head1 (Jvm.Cond.code (⟨"com/example/tidy_expiry/tidyexpiry/keyspace/StreamId", "<init>", "(JJ)V"⟩ : MethodName) prog_43_method_1_code 5 none :: ws) ({ frames := 1, cells := 0, slots := 0, locals := 12 } : Room)) (fun a U => a = #[(.ref a1), (.long q2), (.long q3)] ∧ Z.Warmed39 U.vm ∧ U.heap = h0) (fun _ _ _ _ _ => True) (fun _ U o U' => ∃ v L, o = .returned v ∧ Q1 Z a1 q2 q3 h0 n0 v U'.heap L ∧ FrameEnd U o U' L ({ frames := 1, cells := 0, slots := 0, locals := 12 } : Room).cells ({ frames := 1, cells := 0, slots := 0, locals := 12 } : Room).slots) := by
  refine MetFree.of_bodySF (plainFor_of_name pn_1) hisR ?_
  intro p e s m args below meth c s₁ Bd hml0 hP hK
  obtain ⟨rfl, hZ, hh⟩ := hP
  have hx := Bd.exec
  have hby := Bd.bytes
  have hml : c.maxLocals = 5 := hml0
  have hown : s.vm.findClass "com/example/tidy_expiry/tidyexpiry/keyspace/StreamId" = some m.cls := findClass_of_methodNamed Bd.named
  have hnm := (name_of_methodNamed Bd.named Bd.method).1
  have X0 : Stand p l e ({ frames := 1, cells := 0, slots := 0, locals := 12 } : Room) s m #[(.ref a1), (.long q2), (.long q3)] below meth c s₁ [] 0 0 := Stand.of_body Bd
  have e0 : s₁.heap = h0 := by rw [← hh, Bd.state]; rfl
  have N0 := Fr.nil n0
  have pre0 : ∀ t, Steps p.tables e below (s₁.setTop (mkF m 0 #[.val (.ref a1), .val (.long q2), .second, .val (.long q3), .second] [])) t → Steps p.tables e below (s₁.setTop (entryFrame m #[(.ref a1), (.long q2), (.long q3)] 5)) t := fun t k => castTop (ef_1 m a1 q2 q3) k
  have KR_0 := Keep.refl h0 [a1]
  have P1 : ∀ t, Steps p.tables e below (s₁.setTop (mkF m 1 #[.val (.ref a1), .val (.long q2), .second, .val (.long q3), .second] [(.ref a1)])) t → Steps p.tables e below (s₁.setTop (mkF m 0 #[.val (.ref a1), .val (.long q2), .second, .val (.long q3), .second] [])) t := fun t k => by
    show Steps p.tables e below (s₁.setTop (mkF m 0 #[.val (.ref a1), .val (.long q2), .second, .val (.long q3), .second] [])) t
    refine XS.aloadN X0.here hx rfl (hb hby d1_0) rfl rfl ?_
    exact k
  obtain ⟨T2, X2, e2, st2⟩ := initO X0 hx hZ hown (hw _ (List.mem_of_getElem? (i := 6) rfl)) (hw _ (List.mem_of_getElem? (i := 7) rfl)) (hw _ (List.mem_of_getElem? (i := 8) rfl)) e0 (g := (mkF m 1 #[.val (.ref a1), .val (.long q2), .second, .val (.long q3), .second] [(.ref a1)])) rfl (by rw [hml]; rfl) rfl (hb hby d1_1) (by decide) (W := 0) (by show 2 * 0 + _ ≤ _; exact Nat.le_of_eq rfl) (by decide)
  have P3 : ∀ t, Steps p.tables e below (T2.setTop (mkF m 4 #[.val (.ref a1), .val (.long q2), .second, .val (.long q3), .second] [])) t → Steps p.tables e below (s₁.setTop (mkF m 0 #[.val (.ref a1), .val (.long q2), .second, .val (.long q3), .second] [])) t := fun t k => P1 t (st2 _ k)
  have P4 : ∀ t, Steps p.tables e below (T2.setTop (mkF m 6 #[.val (.ref a1), .val (.long q2), .second, .val (.long q3), .second] [(.long q2), (.ref a1)])) t → Steps p.tables e below (s₁.setTop (mkF m 0 #[.val (.ref a1), .val (.long q2), .second, .val (.long q3), .second] [])) t := fun t k => by
    refine P3 t ?_
    show Steps p.tables e below (T2.setTop (mkF m 4 #[.val (.ref a1), .val (.long q2), .second, .val (.long q3), .second] [])) t
    refine XS.aloadN X2.here hx rfl (hb hby d1_4) rfl rfl ?_
    show Steps p.tables e below (T2.setTop (mkF m 5 #[.val (.ref a1), .val (.long q2), .second, .val (.long q3), .second] [(.ref a1)])) t
    refine XS.lloadN X2.here hx rfl (hb hby d1_5) rfl ?_
    exact k
  obtain ⟨T5, h5, X5, e5, W5, st5⟩ := putF X2 hx hZ hown (host := "") (Or.inl (hw _ (List.mem_of_getElem? (i := 9) rfl))) Via.refl e2 F_millis_a1 E (Or.inr ⟨(hw _ (List.mem_of_getElem? (i := 10) rfl)), rfl, hnm⟩) (hw _ (List.mem_of_getElem? (i := 1) rfl)) (ty := .long) (by decide) rfl rfl (g := (mkF m 6 #[.val (.ref a1), .val (.long q2), .second, .val (.long q3), .second] [(.long q2), (.ref a1)])) rfl rfl (hb hby d1_6)
  have E_5 := E.wr W5
  have F_millis_a1_5 := F_millis_a1.same W5
  have F_sequence_a1_5 := F_sequence_a1.other W5 (Or.inr (slot_ne (Or.inr (hw _ (List.mem_of_getElem? (i := 12) rfl))) (Or.inr (hw _ (List.mem_of_getElem? (i := 10) rfl))) (by decide) (t := .long) (t' := .long) (by decide) (by decide)))
  have KR_5 := KR_0.wr W5 (Or.inl (List.mem_of_getElem? (i := 0) rfl))
  have Z_6 : n0 ≤ h5.size := Nat.le_trans Z0 (Keep.of_wr W5).1
  have N5 := Fr.snoc X5 N0 g_a1
  have P7 : ∀ t, Steps p.tables e below (T5.setTop (mkF m 9 #[.val (.ref a1), .val (.long q2), .second, .val (.long q3), .second] [])) t → Steps p.tables e below (s₁.setTop (mkF m 0 #[.val (.ref a1), .val (.long q2), .second, .val (.long q3), .second] [])) t := fun t k => P4 t (st5 _ k)
  have P8 : ∀ t, Steps p.tables e below (T5.setTop (mkF m 11 #[.val (.ref a1), .val (.long q2), .second, .val (.long q3), .second] [(.long q3), (.ref a1)])) t → Steps p.tables e below (s₁.setTop (mkF m 0 #[.val (.ref a1), .val (.long q2), .second, .val (.long q3), .second] [])) t := fun t k => by
    refine P7 t ?_
    show Steps p.tables e below (T5.setTop (mkF m 9 #[.val (.ref a1), .val (.long q2), .second, .val (.long q3), .second] [])) t
    refine XS.aloadN X5.here hx rfl (hb hby d1_9) rfl rfl ?_
    show Steps p.tables e below (T5.setTop (mkF m 10 #[.val (.ref a1), .val (.long q2), .second, .val (.long q3), .second] [(.ref a1)])) t
    refine XS.lloadN X5.here hx rfl (hb hby d1_10) rfl ?_
    exact k
  obtain ⟨T9, h9, X9, e9, W9, st9⟩ := putF X5 hx hZ hown (host := "") (Or.inl (hw _ (List.mem_of_getElem? (i := 11) rfl))) Via.refl e5 F_sequence_a1_5 E_5 (Or.inr ⟨(hw _ (List.mem_of_getElem? (i := 12) rfl)), rfl, hnm⟩) (hw _ (List.mem_of_getElem? (i := 1) rfl)) (ty := .long) (by decide) rfl rfl (g := (mkF m 11 #[.val (.ref a1), .val (.long q2), .second, .val (.long q3), .second] [(.long q3), (.ref a1)])) rfl rfl (hb hby d1_11)
  have E_9 := E_5.wr W9
  have F_millis_a1_9 := F_millis_a1_5.other W9 (Or.inr (slot_ne (Or.inr (hw _ (List.mem_of_getElem? (i := 10) rfl))) (Or.inr (hw _ (List.mem_of_getElem? (i := 12) rfl))) (by decide) (t := .long) (t' := .long) (by decide) (by decide)))
  have F_sequence_a1_9 := F_sequence_a1_5.same W9
  have KR_9 := KR_5.wr W9 (Or.inl (List.mem_of_getElem? (i := 0) rfl))
  have Z_10 : n0 ≤ h9.size := Nat.le_trans Z_6 (Keep.of_wr W9).1
  have N9 := Fr.snoc X9 N5 g_a1
  have P11 : ∀ t, Steps p.tables e below (T9.setTop (mkF m 14 #[.val (.ref a1), .val (.long q2), .second, .val (.long q3), .second] [])) t → Steps p.tables e below (s₁.setTop (mkF m 0 #[.val (.ref a1), .val (.long q2), .second, .val (.long q3), .second] [])) t := fun t k => P8 t (st9 _ k)
  obtain ⟨fs, hr, hrun, hended, hW, hsame⟩ := X9.leave (v := none) (fun _ => rfl)
  refine ⟨_, _, pre0 _ (P11 _ ?_), hrun, hended, _, _, rfl, ?_, ⟨_, rfl⟩, hW, hsame.mono (by decide) (by decide)⟩
  · exact X9.returnOut hx Bd.returns (hb hby d1_14) hr
  · show Q1 Z a1 q2 q3 h0 n0 _ T9.heap _
    rw [e9]
    exact ⟨rfl, N9, KR_9, E_9, F_millis_a1_9, F_sequence_a1_9⟩
def own_eq (x1 y1 x2 y2 : Int64) : Int32 := if (lcmpW x1 x2) = (0 : Int32) then (if (lcmpW y1 y2) = (0 : Int32) then (1 : Int32) else (0 : Int32)) else (0 : Int32)
theorem own_lc (x y : Int64) (h : lcmpW x y = 0) : lcmpW y x = 0 := (lw_eq y x).mpr ((lw_eq x y).mp h).symm
theorem own_eq_comm (x1 y1 x2 y2 : Int64) : own_eq x1 y1 x2 y2 = own_eq x2 y2 x1 y1 := by
  unfold own_eq; by_cases h : (lcmpW x1 x2) = (0 : Int32)
  · by_cases g : (lcmpW y1 y2) = (0 : Int32)
    · rw [if_pos h, if_pos g, if_pos (own_lc _ _ h), if_pos (own_lc _ _ g)]
    · rw [if_pos h, if_neg g, if_pos (own_lc _ _ h), if_neg fun q => g (own_lc _ _ q)]
  · rw [if_neg h, if_neg fun q => h (own_lc _ _ q)]
theorem own_eq_self (x y : Int64) : own_eq x y x y = 1 := by unfold own_eq; rw [if_pos ((lw_eq x x).mpr rfl), if_pos ((lw_eq y y).mpr rfl)]
theorem pn_3 : plainName "com/example/tidy_expiry/tidyexpiry/keyspace/StreamId" = true := by first | (simp [plainName, overriddenIn]; done) | decide +kernel
theorem ef_3 (m : MethodId) (x0 : Addr) (x1 : Addr) : entryFrame m #[(.ref x0), (.ref x1)] 3 = mkF m 0 #[.val (.ref x0), .val (.ref x1), .unset] [] := by first | (simp [entryFrame, mkF, argsToLocals, Value.category]; done) | rfl
theorem d3_0 : decode prog_43_method_8_code 0 = .ok (.aload_n 1, 1) := by decide +kernel
theorem d3_1 : decode prog_43_method_8_code 1 = .ok (.instanceof 8, 3) := by decide +kernel
theorem d3_4 : decode prog_43_method_8_code 4 = .ok (.ifCond .eq 36, 3) := by decide +kernel
theorem d3_7 : decode prog_43_method_8_code 7 = .ok (.aload_n 1, 1) := by decide +kernel
theorem d3_8 : decode prog_43_method_8_code 8 = .ok (.checkcast 8, 3) := by decide +kernel
theorem d3_11 : decode prog_43_method_8_code 11 = .ok (.astore_n 2, 1) := by decide +kernel
theorem d3_12 : decode prog_43_method_8_code 12 = .ok (.aload_n 0, 1) := by decide +kernel
theorem d3_13 : decode prog_43_method_8_code 13 = .ok (.getfield 7, 3) := by decide +kernel
theorem d3_16 : decode prog_43_method_8_code 16 = .ok (.aload_n 2, 1) := by decide +kernel
theorem d3_17 : decode prog_43_method_8_code 17 = .ok (.getfield 7, 3) := by decide +kernel
theorem d3_20 : decode prog_43_method_8_code 20 = .ok (.lcmp, 1) := by decide +kernel
theorem d3_21 : decode prog_43_method_8_code 21 = .ok (.ifCond .ne 19, 3) := by decide +kernel
theorem d3_24 : decode prog_43_method_8_code 24 = .ok (.aload_n 0, 1) := by decide +kernel
theorem d3_25 : decode prog_43_method_8_code 25 = .ok (.getfield 13, 3) := by decide +kernel
theorem d3_28 : decode prog_43_method_8_code 28 = .ok (.aload_n 2, 1) := by decide +kernel
theorem d3_29 : decode prog_43_method_8_code 29 = .ok (.getfield 13, 3) := by decide +kernel
theorem d3_32 : decode prog_43_method_8_code 32 = .ok (.lcmp, 1) := by decide +kernel
theorem d3_33 : decode prog_43_method_8_code 33 = .ok (.ifCond .ne 7, 3) := by decide +kernel
theorem d3_36 : decode prog_43_method_8_code 36 = .ok (.iconst 1, 1) := by decide +kernel
theorem d3_37 : decode prog_43_method_8_code 37 = .ok (.goto 4, 3) := by decide +kernel
theorem d3_41 : decode prog_43_method_8_code 41 = .ok (.ireturn, 1) := by decide +kernel
theorem d3_40 : decode prog_43_method_8_code 40 = .ok (.iconst 0, 1) := by decide +kernel
def Q4h (Z : State) (a1 a2 : Addr) (x1 y1 x2 y2 : Int64) (h0 : Heap) (n0 : Nat) (v : Option Value) (h : Heap) (L : List Loc) : Prop := v = some (.int (own_eq x1 y1 x2 y2)) ∧ Fr n0 L ∧ h = h0
set_option maxRecDepth 65536 in
set_option maxHeartbeats 40000000 in
theorem rm4h (l : Launch) (Z : State) (a0 : Array Value) (hw : ∀ d ∈ tables_1, d.before a0 Z = true) (ws : List Jvm.Cond) (a1 a2 : Addr) (x1 y1 x2 y2 : Int64) (h0 : Heap) (n0 : Nat) (Z0 : n0 ≤ h0.size) (F_millis_a1 : Fld Z h0 a1 "com/example/tidy_expiry/tidyexpiry/keyspace/StreamId" "millis" "J" (.long x1)) (F_sequence_a1 : Fld Z h0 a1 "com/example/tidy_expiry/tidyexpiry/keyspace/StreamId" "sequence" "J" (.long y1)) (F_millis_a2 : Fld Z h0 a2 "com/example/tidy_expiry/tidyexpiry/keyspace/StreamId" "millis" "J" (.long x2)) (F_sequence_a2 : Fld Z h0 a2 "com/example/tidy_expiry/tidyexpiry/keyspace/StreamId" "sequence" "J" (.long y2)) (E2 : Exa Z h0 a2 "com/example/tidy_expiry/tidyexpiry/keyspace/StreamId") :
    MetFree l (⟨"com/example/tidy_expiry/tidyexpiry/keyspace/StreamId", "equals", "(Ljava/lang/Object;)Z"⟩ : MethodName) (head1 (Jvm.Cond.code (⟨"com/example/tidy_expiry/tidyexpiry/keyspace/StreamId", "equals", "(Ljava/lang/Object;)Z"⟩ : MethodName) prog_43_method_8_code 3 (some .boolean) :: ws) ({ frames := 0, cells := 0, slots := 0, locals := 0 } : Room)) (fun a U => a = #[(.ref a1), (.ref a2)] ∧ Z.Warmed39 U.vm ∧ U.heap = h0) (fun _ _ _ _ _ => True) (fun _ U o U' => ∃ v L, o = .returned v ∧ Q4h Z a1 a2 x1 y1 x2 y2 h0 n0 v U'.heap L ∧ FrameEnd U o U' L ({ frames := 0, cells := 0, slots := 0, locals := 0 } : Room).cells ({ frames := 0, cells := 0, slots := 0, locals := 0 } : Room).slots) := by
  refine MetFree.of_bodySF (plainFor_of_name pn_3) hisR ?_
  intro p e s m args below meth c s₁ Bd hml0 hP hK
  obtain ⟨rfl, hZ, hh⟩ := hP
  have hx := Bd.exec
  have hby := Bd.bytes
  have hml : c.maxLocals = 3 := hml0
  have hown : s.vm.findClass "com/example/tidy_expiry/tidyexpiry/keyspace/StreamId" = some m.cls := findClass_of_methodNamed Bd.named
  have hnm := (name_of_methodNamed Bd.named Bd.method).1
  have X0 : Stand p l e ({ frames := 0, cells := 0, slots := 0, locals := 0 } : Room) s m #[(.ref a1), (.ref a2)] below meth c s₁ [] 0 0 := Stand.of_body Bd
  have e0 : s₁.heap = h0 := by rw [← hh, Bd.state]; rfl
  have N0 := Fr.nil n0
  have pre0 : ∀ t, Steps p.tables e below (s₁.setTop (mkF m 0 #[.val (.ref a1), .val (.ref a2), .unset] [])) t → Steps p.tables e below (s₁.setTop (entryFrame m #[(.ref a1), (.ref a2)] 3)) t := fun t k => castTop (ef_3 m a1 a2) k
  have P1 : ∀ t, Steps p.tables e below (s₁.setTop (mkF m 1 #[.val (.ref a1), .val (.ref a2), .unset] [(.ref a2)])) t → Steps p.tables e below (s₁.setTop (mkF m 0 #[.val (.ref a1), .val (.ref a2), .unset] [])) t := fun t k => by
    show Steps p.tables e below (s₁.setTop (mkF m 0 #[.val (.ref a1), .val (.ref a2), .unset] [])) t
    refine XS.aloadN X0.here hx rfl (hb hby d3_0) rfl rfl ?_
    exact k
  obtain ⟨T2, X2, e2, st2⟩ := instY X0 hx hZ hown (hw _ (List.mem_of_getElem? (i := 18) rfl)) e0 (Ins.self E2) (g := (mkF m 1 #[.val (.ref a1), .val (.ref a2), .unset] [(.ref a2)])) rfl rfl (hb hby d3_1)
  have P3 : ∀ t, Steps p.tables e below (T2.setTop (mkF m 4 #[.val (.ref a1), .val (.ref a2), .unset] [(.int (1 : Int32))])) t → Steps p.tables e below (s₁.setTop (mkF m 0 #[.val (.ref a1), .val (.ref a2), .unset] [])) t := fun t k => P1 t (st2 _ k)
  have P4 : ∀ t, Steps p.tables e below (T2.setTop (mkF m 8 #[.val (.ref a1), .val (.ref a2), .unset] [(.ref a2)])) t → Steps p.tables e below (s₁.setTop (mkF m 0 #[.val (.ref a1), .val (.ref a2), .unset] [])) t := fun t k => by
    refine P3 t ?_
    show Steps p.tables e below (T2.setTop (mkF m 4 #[.val (.ref a1), .val (.ref a2), .unset] [(.int (1 : Int32))])) t
    refine XS.ifNo X2.here hx rfl (hb hby d3_4) rfl ((if0 _ _).trans (feq (by decide)).1) ?_
    show Steps p.tables e below (T2.setTop (mkF m 7 #[.val (.ref a1), .val (.ref a2), .unset] [])) t
    refine XS.aloadN X2.here hx rfl (hb hby d3_7) rfl rfl ?_
    exact k
  obtain ⟨T5, X5, e5, st5⟩ := castY X2 hx hZ hown (hw _ (List.mem_of_getElem? (i := 18) rfl)) e2 (Ins.self E2) (g := (mkF m 8 #[.val (.ref a1), .val (.ref a2), .unset] [(.ref a2)])) rfl rfl (hb hby d3_8)
  have P6 : ∀ t, Steps p.tables e below (T5.setTop (mkF m 11 #[.val (.ref a1), .val (.ref a2), .unset] [(.ref a2)])) t → Steps p.tables e below (s₁.setTop (mkF m 0 #[.val (.ref a1), .val (.ref a2), .unset] [])) t := fun t k => P4 t (st5 _ k)
  have P7 : ∀ t, Steps p.tables e below (T5.setTop (mkF m 13 #[.val (.ref a1), .val (.ref a2), .val (.ref a2)] [(.ref a1)])) t → Steps p.tables e below (s₁.setTop (mkF m 0 #[.val (.ref a1), .val (.ref a2), .unset] [])) t := fun t k => by
    refine P6 t ?_
    show Steps p.tables e below (T5.setTop (mkF m 11 #[.val (.ref a1), .val (.ref a2), .unset] [(.ref a2)])) t
    refine XS.astoreN X5.here hx rfl (hb hby d3_11) rfl rfl (l' := #[.val (.ref a1), .val (.ref a2), .val (.ref a2)]) rfl ?_
    show Steps p.tables e below (T5.setTop (mkF m 12 #[.val (.ref a1), .val (.ref a2), .val (.ref a2)] [])) t
    refine XS.aloadN X5.here hx rfl (hb hby d3_12) rfl rfl ?_
    exact k
  obtain ⟨T8, X8, e8, st8⟩ := getF X5 hx hZ hown (host := "") (Or.inl (hw _ (List.mem_of_getElem? (i := 9) rfl))) Via.refl e5 F_millis_a1 (g := (mkF m 13 #[.val (.ref a1), .val (.ref a2), .val (.ref a2)] [(.ref a1)])) rfl rfl (hb hby d3_13)
  have P9 : ∀ t, Steps p.tables e below (T8.setTop (mkF m 16 #[.val (.ref a1), .val (.ref a2), .val (.ref a2)] [(.long x1)])) t → Steps p.tables e below (s₁.setTop (mkF m 0 #[.val (.ref a1), .val (.ref a2), .unset] [])) t := fun t k => P7 t (st8 _ k)
  have P10 : ∀ t, Steps p.tables e below (T8.setTop (mkF m 17 #[.val (.ref a1), .val (.ref a2), .val (.ref a2)] [(.ref a2), (.long x1)])) t → Steps p.tables e below (s₁.setTop (mkF m 0 #[.val (.ref a1), .val (.ref a2), .unset] [])) t := fun t k => by
    refine P9 t ?_
    show Steps p.tables e below (T8.setTop (mkF m 16 #[.val (.ref a1), .val (.ref a2), .val (.ref a2)] [(.long x1)])) t
    refine XS.aloadN X8.here hx rfl (hb hby d3_16) rfl rfl ?_
    exact k
  obtain ⟨T11, X11, e11, st11⟩ := getF X8 hx hZ hown (host := "") (Or.inl (hw _ (List.mem_of_getElem? (i := 9) rfl))) Via.refl e8 F_millis_a2 (g := (mkF m 17 #[.val (.ref a1), .val (.ref a2), .val (.ref a2)] [(.ref a2), (.long x1)])) rfl rfl (hb hby d3_17)
  have P12 : ∀ t, Steps p.tables e below (T11.setTop (mkF m 20 #[.val (.ref a1), .val (.ref a2), .val (.ref a2)] [(.long x2), (.long x1)])) t → Steps p.tables e below (s₁.setTop (mkF m 0 #[.val (.ref a1), .val (.ref a2), .unset] [])) t := fun t k => P10 t (st11 _ k)
  have P13 : ∀ t, Steps p.tables e below (T11.setTop (mkF m 21 #[.val (.ref a1), .val (.ref a2), .val (.ref a2)] [(.int (lcmpW x1 x2))])) t → Steps p.tables e below (s₁.setTop (mkF m 0 #[.val (.ref a1), .val (.ref a2), .unset] [])) t := fun t k => by
    refine P12 t ?_
    show Steps p.tables e below (T11.setTop (mkF m 20 #[.val (.ref a1), .val (.ref a2), .val (.ref a2)] [(.long x2), (.long x1)])) t
    refine XS.lcmp X11.here hx rfl (hb hby d3_20) rfl ?_
    exact k
  by_cases hc14 : (lcmpW x1 x2) = (0 : Int32)
  · have P15 : ∀ t, Steps p.tables e below (T11.setTop (mkF m 25 #[.val (.ref a1), .val (.ref a2), .val (.ref a2)] [(.ref a1)])) t → Steps p.tables e below (s₁.setTop (mkF m 0 #[.val (.ref a1), .val (.ref a2), .unset] [])) t := fun t k => by
      refine P13 t ?_
      show Steps p.tables e below (T11.setTop (mkF m 21 #[.val (.ref a1), .val (.ref a2), .val (.ref a2)] [(.int (lcmpW x1 x2))])) t
      refine XS.ifNo X11.here hx rfl (hb hby d3_21) rfl ((if0 _ _).trans (teq hc14).2) ?_
      show Steps p.tables e below (T11.setTop (mkF m 24 #[.val (.ref a1), .val (.ref a2), .val (.ref a2)] [])) t
      refine XS.aloadN X11.here hx rfl (hb hby d3_24) rfl rfl ?_
      exact k
    obtain ⟨T16, X16, e16, st16⟩ := getF X11 hx hZ hown (host := "") (Or.inl (hw _ (List.mem_of_getElem? (i := 11) rfl))) Via.refl e11 F_sequence_a1 (g := (mkF m 25 #[.val (.ref a1), .val (.ref a2), .val (.ref a2)] [(.ref a1)])) rfl rfl (hb hby d3_25)
    have P17 : ∀ t, Steps p.tables e below (T16.setTop (mkF m 28 #[.val (.ref a1), .val (.ref a2), .val (.ref a2)] [(.long y1)])) t → Steps p.tables e below (s₁.setTop (mkF m 0 #[.val (.ref a1), .val (.ref a2), .unset] [])) t := fun t k => P15 t (st16 _ k)
    have P18 : ∀ t, Steps p.tables e below (T16.setTop (mkF m 29 #[.val (.ref a1), .val (.ref a2), .val (.ref a2)] [(.ref a2), (.long y1)])) t → Steps p.tables e below (s₁.setTop (mkF m 0 #[.val (.ref a1), .val (.ref a2), .unset] [])) t := fun t k => by
      refine P17 t ?_
      show Steps p.tables e below (T16.setTop (mkF m 28 #[.val (.ref a1), .val (.ref a2), .val (.ref a2)] [(.long y1)])) t
      refine XS.aloadN X16.here hx rfl (hb hby d3_28) rfl rfl ?_
      exact k
    obtain ⟨T19, X19, e19, st19⟩ := getF X16 hx hZ hown (host := "") (Or.inl (hw _ (List.mem_of_getElem? (i := 11) rfl))) Via.refl e16 F_sequence_a2 (g := (mkF m 29 #[.val (.ref a1), .val (.ref a2), .val (.ref a2)] [(.ref a2), (.long y1)])) rfl rfl (hb hby d3_29)
    have P20 : ∀ t, Steps p.tables e below (T19.setTop (mkF m 32 #[.val (.ref a1), .val (.ref a2), .val (.ref a2)] [(.long y2), (.long y1)])) t → Steps p.tables e below (s₁.setTop (mkF m 0 #[.val (.ref a1), .val (.ref a2), .unset] [])) t := fun t k => P18 t (st19 _ k)
    have P21 : ∀ t, Steps p.tables e below (T19.setTop (mkF m 33 #[.val (.ref a1), .val (.ref a2), .val (.ref a2)] [(.int (lcmpW y1 y2))])) t → Steps p.tables e below (s₁.setTop (mkF m 0 #[.val (.ref a1), .val (.ref a2), .unset] [])) t := fun t k => by
      refine P20 t ?_
      show Steps p.tables e below (T19.setTop (mkF m 32 #[.val (.ref a1), .val (.ref a2), .val (.ref a2)] [(.long y2), (.long y1)])) t
      refine XS.lcmp X19.here hx rfl (hb hby d3_32) rfl ?_
      exact k
    by_cases hc22 : (lcmpW y1 y2) = (0 : Int32)
    · have P23 : ∀ t, Steps p.tables e below (T19.setTop (mkF m 41 #[.val (.ref a1), .val (.ref a2), .val (.ref a2)] [(.int (1 : Int32))])) t → Steps p.tables e below (s₁.setTop (mkF m 0 #[.val (.ref a1), .val (.ref a2), .unset] [])) t := fun t k => by
        refine P21 t ?_
        show Steps p.tables e below (T19.setTop (mkF m 33 #[.val (.ref a1), .val (.ref a2), .val (.ref a2)] [(.int (lcmpW y1 y2))])) t
        refine XS.ifNo X19.here hx rfl (hb hby d3_33) rfl ((if0 _ _).trans (teq hc22).2) ?_
        show Steps p.tables e below (T19.setTop (mkF m 36 #[.val (.ref a1), .val (.ref a2), .val (.ref a2)] [])) t
        refine XS.iconst X19.here hx rfl (hb hby d3_36) ?_
        show Steps p.tables e below (T19.setTop (mkF m 37 #[.val (.ref a1), .val (.ref a2), .val (.ref a2)] [(.int (1 : Int32))])) t
        refine XS.goto X19.here hx rfl (pc0 := 37) (pc' := 41) rfl (hb hby d3_37) (by decide) (by decide) ?_
        exact k
      obtain ⟨fs, hr, hrun, hended, hW, hsame⟩ := X19.leave (v := some (.int (1 : Int32))) (fun h => by rw [Bd.returns] at h; cases h)
      refine ⟨_, _, pre0 _ (P23 _ ?_), hrun, hended, _, _, rfl, ?_, ⟨_, rfl⟩, hW, hsame.mono (by decide) (by decide)⟩
      · exact retN X19 hx (t := .boolean) Bd.returns (by simp) (hb hby d3_41) hr
      · show Q4h Z a1 a2 x1 y1 x2 y2 h0 n0 _ T19.heap _
        rw [e19]
        exact ⟨by rw [own_eq, if_pos hc14, if_pos hc22], N0, rfl⟩
    · have P24 : ∀ t, Steps p.tables e below (T19.setTop (mkF m 41 #[.val (.ref a1), .val (.ref a2), .val (.ref a2)] [(.int (0 : Int32))])) t → Steps p.tables e below (s₁.setTop (mkF m 0 #[.val (.ref a1), .val (.ref a2), .unset] [])) t := fun t k => by
        refine P21 t ?_
        show Steps p.tables e below (T19.setTop (mkF m 33 #[.val (.ref a1), .val (.ref a2), .val (.ref a2)] [(.int (lcmpW y1 y2))])) t
        refine XS.ifYes X19.here hx rfl (pc0 := 33) (pc' := 40) rfl (hb hby d3_33) rfl ((if0 _ _).trans (feq hc22).2) (by decide) (by decide) ?_
        show Steps p.tables e below (T19.setTop (mkF m 40 #[.val (.ref a1), .val (.ref a2), .val (.ref a2)] [])) t
        refine XS.iconst X19.here hx rfl (hb hby d3_40) ?_
        exact k
      obtain ⟨fs, hr, hrun, hended, hW, hsame⟩ := X19.leave (v := some (.int (0 : Int32))) (fun h => by rw [Bd.returns] at h; cases h)
      refine ⟨_, _, pre0 _ (P24 _ ?_), hrun, hended, _, _, rfl, ?_, ⟨_, rfl⟩, hW, hsame.mono (by decide) (by decide)⟩
      · exact retN X19 hx (t := .boolean) Bd.returns (by simp) (hb hby d3_41) hr
      · show Q4h Z a1 a2 x1 y1 x2 y2 h0 n0 _ T19.heap _
        rw [e19]
        exact ⟨by rw [own_eq, if_pos hc14, if_neg hc22], N0, rfl⟩
  · have P25 : ∀ t, Steps p.tables e below (T11.setTop (mkF m 41 #[.val (.ref a1), .val (.ref a2), .val (.ref a2)] [(.int (0 : Int32))])) t → Steps p.tables e below (s₁.setTop (mkF m 0 #[.val (.ref a1), .val (.ref a2), .unset] [])) t := fun t k => by
      refine P13 t ?_
      show Steps p.tables e below (T11.setTop (mkF m 21 #[.val (.ref a1), .val (.ref a2), .val (.ref a2)] [(.int (lcmpW x1 x2))])) t
      refine XS.ifYes X11.here hx rfl (pc0 := 21) (pc' := 40) rfl (hb hby d3_21) rfl ((if0 _ _).trans (feq hc14).2) (by decide) (by decide) ?_
      show Steps p.tables e below (T11.setTop (mkF m 40 #[.val (.ref a1), .val (.ref a2), .val (.ref a2)] [])) t
      refine XS.iconst X11.here hx rfl (hb hby d3_40) ?_
      exact k
    obtain ⟨fs, hr, hrun, hended, hW, hsame⟩ := X11.leave (v := some (.int (0 : Int32))) (fun h => by rw [Bd.returns] at h; cases h)
    refine ⟨_, _, pre0 _ (P25 _ ?_), hrun, hended, _, _, rfl, ?_, ⟨_, rfl⟩, hW, hsame.mono (by decide) (by decide)⟩
    · exact retN X11 hx (t := .boolean) Bd.returns (by simp) (hb hby d3_41) hr
    · show Q4h Z a1 a2 x1 y1 x2 y2 h0 n0 _ T11.heap _
      rw [e11]
      exact ⟨by rw [own_eq, if_neg hc14], N0, rfl⟩
theorem ef_3_vn (m : MethodId) (x0 : Addr) : entryFrame m #[(.ref x0), .null] 3 = mkF m 0 #[.val (.ref x0), .val .null, .unset] [] := by first | (simp [entryFrame, mkF, argsToLocals, Value.category]; done) | rfl
def Q4n (Z : State) (a1 : Addr) (h0 : Heap) (n0 : Nat) (v : Option Value) (h : Heap) (L : List Loc) : Prop := v = some (.int (0 : Int32)) ∧ Fr n0 L ∧ h = h0
set_option maxRecDepth 65536 in
set_option maxHeartbeats 40000000 in
theorem rm4n (l : Launch) (Z : State) (a0 : Array Value) (hw : ∀ d ∈ tables_1, d.before a0 Z = true) (ws : List Jvm.Cond) (a1 : Addr) (h0 : Heap) (n0 : Nat) (Z0 : n0 ≤ h0.size)  :
    MetFree l (⟨"com/example/tidy_expiry/tidyexpiry/keyspace/StreamId", "equals", "(Ljava/lang/Object;)Z"⟩ : MethodName) (head1 (Jvm.Cond.code (⟨"com/example/tidy_expiry/tidyexpiry/keyspace/StreamId", "equals", "(Ljava/lang/Object;)Z"⟩ : MethodName) prog_43_method_8_code 3 (some .boolean) :: ws) ({ frames := 0, cells := 0, slots := 0, locals := 0 } : Room)) (fun a U => a = #[(.ref a1), .null] ∧ Z.Warmed39 U.vm ∧ U.heap = h0) (fun _ _ _ _ _ => True) (fun _ U o U' => ∃ v L, o = .returned v ∧ Q4n Z a1 h0 n0 v U'.heap L ∧ FrameEnd U o U' L ({ frames := 0, cells := 0, slots := 0, locals := 0 } : Room).cells ({ frames := 0, cells := 0, slots := 0, locals := 0 } : Room).slots) := by
  refine MetFree.of_bodySF (plainFor_of_name pn_3) hisR ?_
  intro p e s m args below meth c s₁ Bd hml0 hP hK
  obtain ⟨rfl, hZ, hh⟩ := hP
  have hx := Bd.exec
  have hby := Bd.bytes
  have hml : c.maxLocals = 3 := hml0
  have hown : s.vm.findClass "com/example/tidy_expiry/tidyexpiry/keyspace/StreamId" = some m.cls := findClass_of_methodNamed Bd.named
  have hnm := (name_of_methodNamed Bd.named Bd.method).1
  have X0 : Stand p l e ({ frames := 0, cells := 0, slots := 0, locals := 0 } : Room) s m #[(.ref a1), .null] below meth c s₁ [] 0 0 := Stand.of_body Bd
  have e0 : s₁.heap = h0 := by rw [← hh, Bd.state]; rfl
  have N0 := Fr.nil n0
  have pre0 : ∀ t, Steps p.tables e below (s₁.setTop (mkF m 0 #[.val (.ref a1), .val .null, .unset] [])) t → Steps p.tables e below (s₁.setTop (entryFrame m #[(.ref a1), .null] 3)) t := fun t k => castTop (ef_3_vn m a1) k
  have P1 : ∀ t, Steps p.tables e below (s₁.setTop (mkF m 1 #[.val (.ref a1), .val .null, .unset] [.null])) t → Steps p.tables e below (s₁.setTop (mkF m 0 #[.val (.ref a1), .val .null, .unset] [])) t := fun t k => by
    show Steps p.tables e below (s₁.setTop (mkF m 0 #[.val (.ref a1), .val .null, .unset] [])) t
    refine XS.aloadN X0.here hx rfl (hb hby d3_0) rfl rfl ?_
    exact k
  have P2 : ∀ t, Steps p.tables e below (s₁.setTop (mkF m 41 #[.val (.ref a1), .val .null, .unset] [(.int (0 : Int32))])) t → Steps p.tables e below (s₁.setTop (mkF m 0 #[.val (.ref a1), .val .null, .unset] [])) t := fun t k => by
    refine P1 t ?_
    show Steps p.tables e below (s₁.setTop (mkF m 1 #[.val (.ref a1), .val .null, .unset] [.null])) t
    refine X0.instanceofNull hx (g := (mkF m 1 #[.val (.ref a1), .val .null, .unset] [.null])) rfl rfl (hb hby d3_1) _ ?_
    show Steps p.tables e below (s₁.setTop (mkF m 4 #[.val (.ref a1), .val .null, .unset] [(.int (0 : Int32))])) t
    refine XS.ifYes X0.here hx rfl (pc0 := 4) (pc' := 40) rfl (hb hby d3_4) rfl ((if0 _ _).trans (teq rfl).1) (by decide) (by decide) ?_
    show Steps p.tables e below (s₁.setTop (mkF m 40 #[.val (.ref a1), .val .null, .unset] [])) t
    refine XS.iconst X0.here hx rfl (hb hby d3_40) ?_
    exact k
  obtain ⟨fs, hr, hrun, hended, hW, hsame⟩ := X0.leave (v := some (.int (0 : Int32))) (fun h => by rw [Bd.returns] at h; cases h)
  refine ⟨_, _, pre0 _ (P2 _ ?_), hrun, hended, _, _, rfl, ?_, ⟨_, rfl⟩, hW, hsame.mono (by decide) (by decide)⟩
  · exact retN X0 hx (t := .boolean) Bd.returns (by simp) (hb hby d3_41) hr
  · show Q4n Z a1 h0 n0 _ s₁.heap _
    rw [e0]
    exact ⟨rfl, N0, rfl⟩
def Q4i (Z : State) (a1 a2 : Addr) (h0 : Heap) (n0 : Nat) (v : Option Value) (h : Heap) (L : List Loc) : Prop := v = some (.int (0 : Int32)) ∧ Fr n0 L ∧ h = h0
set_option maxRecDepth 65536 in
set_option maxHeartbeats 40000000 in
theorem rm4i (l : Launch) (Z : State) (a0 : Array Value) (hw : ∀ d ∈ tables_1, d.before a0 Z = true) (ws : List Jvm.Cond) (a1 a2 : Addr) (h0 : Heap) (n0 : Nat) (Z0 : n0 ≤ h0.size) (E2 : Exa Z h0 a2 "java/lang/Long") :
    MetFree l (⟨"com/example/tidy_expiry/tidyexpiry/keyspace/StreamId", "equals", "(Ljava/lang/Object;)Z"⟩ : MethodName) (head1 (Jvm.Cond.code (⟨"com/example/tidy_expiry/tidyexpiry/keyspace/StreamId", "equals", "(Ljava/lang/Object;)Z"⟩ : MethodName) prog_43_method_8_code 3 (some .boolean) :: ws) ({ frames := 0, cells := 0, slots := 0, locals := 0 } : Room)) (fun a U => a = #[(.ref a1), (.ref a2)] ∧ Z.Warmed39 U.vm ∧ U.heap = h0) (fun _ _ _ _ _ => True) (fun _ U o U' => ∃ v L, o = .returned v ∧ Q4i Z a1 a2 h0 n0 v U'.heap L ∧ FrameEnd U o U' L ({ frames := 0, cells := 0, slots := 0, locals := 0 } : Room).cells ({ frames := 0, cells := 0, slots := 0, locals := 0 } : Room).slots) := by
  refine MetFree.of_bodySF (plainFor_of_name pn_3) hisR ?_
  intro p e s m args below meth c s₁ Bd hml0 hP hK
  obtain ⟨rfl, hZ, hh⟩ := hP
  have hx := Bd.exec
  have hby := Bd.bytes
  have hml : c.maxLocals = 3 := hml0
  have hown : s.vm.findClass "com/example/tidy_expiry/tidyexpiry/keyspace/StreamId" = some m.cls := findClass_of_methodNamed Bd.named
  have hnm := (name_of_methodNamed Bd.named Bd.method).1
  have X0 : Stand p l e ({ frames := 0, cells := 0, slots := 0, locals := 0 } : Room) s m #[(.ref a1), (.ref a2)] below meth c s₁ [] 0 0 := Stand.of_body Bd
  have e0 : s₁.heap = h0 := by rw [← hh, Bd.state]; rfl
  have N0 := Fr.nil n0
  have pre0 : ∀ t, Steps p.tables e below (s₁.setTop (mkF m 0 #[.val (.ref a1), .val (.ref a2), .unset] [])) t → Steps p.tables e below (s₁.setTop (entryFrame m #[(.ref a1), (.ref a2)] 3)) t := fun t k => castTop (ef_3 m a1 a2) k
  have P1 : ∀ t, Steps p.tables e below (s₁.setTop (mkF m 1 #[.val (.ref a1), .val (.ref a2), .unset] [(.ref a2)])) t → Steps p.tables e below (s₁.setTop (mkF m 0 #[.val (.ref a1), .val (.ref a2), .unset] [])) t := fun t k => by
    show Steps p.tables e below (s₁.setTop (mkF m 0 #[.val (.ref a1), .val (.ref a2), .unset] [])) t
    refine XS.aloadN X0.here hx rfl (hb hby d3_0) rfl rfl ?_
    exact k
  obtain ⟨T2, X2, e2, st2⟩ := instN' X0 hx hZ hown (hw _ (List.mem_of_getElem? (i := 18) rfl)) e0 (by rw [hh]; exact own_noins E2 (hw _ (List.mem_of_getElem? (i := 40) rfl)) (hw _ (List.mem_of_getElem? (i := 41) rfl)) (hw _ (List.mem_of_getElem? (i := 42) rfl)) (hw _ (List.mem_of_getElem? (i := 1) rfl)) (by decide) (by decide) (by decide)) (by rw [hh]; exact Ins.self E2) (g := (mkF m 1 #[.val (.ref a1), .val (.ref a2), .unset] [(.ref a2)])) rfl rfl (hb hby d3_1)
  have P3 : ∀ t, Steps p.tables e below (T2.setTop (mkF m 4 #[.val (.ref a1), .val (.ref a2), .unset] [(.int (0 : Int32))])) t → Steps p.tables e below (s₁.setTop (mkF m 0 #[.val (.ref a1), .val (.ref a2), .unset] [])) t := fun t k => P1 t (st2 _ k)
  have P4 : ∀ t, Steps p.tables e below (T2.setTop (mkF m 41 #[.val (.ref a1), .val (.ref a2), .unset] [(.int (0 : Int32))])) t → Steps p.tables e below (s₁.setTop (mkF m 0 #[.val (.ref a1), .val (.ref a2), .unset] [])) t := fun t k => by
    refine P3 t ?_
    show Steps p.tables e below (T2.setTop (mkF m 4 #[.val (.ref a1), .val (.ref a2), .unset] [(.int (0 : Int32))])) t
    refine XS.ifYes X2.here hx rfl (pc0 := 4) (pc' := 40) rfl (hb hby d3_4) rfl ((if0 _ _).trans (teq rfl).1) (by decide) (by decide) ?_
    show Steps p.tables e below (T2.setTop (mkF m 40 #[.val (.ref a1), .val (.ref a2), .unset] [])) t
    refine XS.iconst X2.here hx rfl (hb hby d3_40) ?_
    exact k
  obtain ⟨fs, hr, hrun, hended, hW, hsame⟩ := X2.leave (v := some (.int (0 : Int32))) (fun h => by rw [Bd.returns] at h; cases h)
  refine ⟨_, _, pre0 _ (P4 _ ?_), hrun, hended, _, _, rfl, ?_, ⟨_, rfl⟩, hW, hsame.mono (by decide) (by decide)⟩
  · exact retN X2 hx (t := .boolean) Bd.returns (by simp) (hb hby d3_41) hr
  · show Q4i Z a1 a2 h0 n0 _ T2.heap _
    rw [e2]
    exact ⟨rfl, N0, rfl⟩
theorem pn_0 : plainName "com/example/tidy_expiry/tidyexpiry/keyspace/StreamIdEqualsPinLaw" = true := by first | (simp [plainName, overriddenIn]; done) | decide +kernel
theorem ef_0 (m : MethodId) (x0 : Int64) (x1 : Int64) (x2 : Int64) (x3 : Int64) (x4 : Int32) : entryFrame m #[(.long x0), (.long x1), (.long x2), (.long x3), (.int x4)] maxLocals = mkF m 0 #[.val (.long x0), .second, .val (.long x1), .second, .val (.long x2), .second, .val (.long x3), .second, .val (.int x4), .unset, .unset, .unset, .unset, .unset, .unset, .unset, .unset, .unset, .unset, .unset] [] := by first | (simp [entryFrame, mkF, argsToLocals, Value.category, maxLocals]; done) | rfl
theorem pd__JJ_V : parseMethodDescriptor "(JJ)V" = some ⟨[.long, .long], none⟩ := by decide +kernel
theorem pd__Ljava_lang_Object__Z : parseMethodDescriptor "(Ljava/lang/Object;)Z" = some ⟨[(.object "java/lang/Object")], some .boolean⟩ := by decide +kernel
theorem pd__J_Ljava_lang_Long_ : parseMethodDescriptor "(J)Ljava/lang/Long;" = some ⟨[.long], some (.object "java/lang/Long")⟩ := by decide +kernel
def Q0 (Z : State) (q1 q2 q3 q4 : Int64) (p5 : Int32) (wC : Addr) (cC : Cell) (h0 : Heap) (n0 : Nat) (v : Option Value) (h : Heap) (L : List Loc) : Prop := v = some (.int 1) ∧ Fr n0 L
set_option maxRecDepth 65536 in
set_option maxHeartbeats 40000000 in
theorem rm0 (l : Launch) (Z : State) (a0 : Array Value) (hw : ∀ d ∈ tables_1, d.before a0 Z = true) (ws : List Jvm.Cond) (q1 q2 q3 q4 : Int64) (p5 : Int32) (wC : Addr) (cC : Cell) (h0 : Heap) (n0 : Nat) (Z0 : n0 ≤ h0.size) (OL_0 : Old Z n0 h0) (S_cache : Sta Z Z.heap "java/lang/Long$LongCache" "cache" "[Ljava/lang/Long;" (.ref wC)) (BX : Bxs Z wC cC "java/lang/Long" "J" (256 : Int32) (fun j => .long (j - 128).toInt64)) :
    MetFree l x (head1 (Jvm.Cond.code x code maxLocals ret :: ws) room_1) (fun a U => a = #[(.long q1), (.long q2), (.long q3), (.long q4), (.int p5)] ∧ Z.Warmed39 U.vm ∧ U.heap = h0) (fun _ _ _ _ _ => True) (fun _ U o U' => ∃ v L, o = .returned v ∧ Q0 Z q1 q2 q3 q4 p5 wC cC h0 n0 v U'.heap L ∧ FrameEnd U o U' L room_1.cells room_1.slots) := by
  refine MetFree.of_bodySF (plainFor_of_name pn_0) hisR ?_
  intro p e s m args below meth c s₁ Bd hml0 hP hK
  obtain ⟨rfl, hZ, hh⟩ := hP
  have hx := Bd.exec
  have hby := Bd.bytes
  have hml : c.maxLocals = 20 := hml0
  have hown : s.vm.findClass "com/example/tidy_expiry/tidyexpiry/keyspace/StreamIdEqualsPinLaw" = some m.cls := findClass_of_methodNamed Bd.named
  have hnm := (name_of_methodNamed Bd.named Bd.method).1
  have X0 : Stand p l e room_1 s m #[(.long q1), (.long q2), (.long q3), (.long q4), (.int p5)] below meth c s₁ [] 0 0 := Stand.of_body Bd
  have e0 : s₁.heap = h0 := by rw [← hh, Bd.state]; rfl
  have N0 := Fr.nil n0
  have pre0 : ∀ t, Steps p.tables e below (s₁.setTop (mkF m 0 #[.val (.long q1), .second, .val (.long q2), .second, .val (.long q3), .second, .val (.long q4), .second, .val (.int p5), .unset, .unset, .unset, .unset, .unset, .unset, .unset, .unset, .unset, .unset, .unset] [])) t → Steps p.tables e below (s₁.setTop (entryFrame m #[(.long q1), (.long q2), (.long q3), (.long q4), (.int p5)] maxLocals)) t := fun t k => castTop (ef_0 m q1 q2 q3 q4 p5) k
  have P1 : ∀ t, Steps p.tables e below (s₁.setTop (mkF m 14 #[.val (.long q1), .second, .val (.long q2), .second, .val (.long q3), .second, .val (.long q4), .second, .val (.int p5), .val (.int (p5 &&& (3 : Int32))), .val (.int (((p5.toUInt32 >>> ((2 : Int32) &&& 31).toUInt32).toInt32) &&& (3 : Int32))), .unset, .unset, .unset, .unset, .unset, .unset, .unset, .unset, .unset] [])) t → Steps p.tables e below (s₁.setTop (mkF m 0 #[.val (.long q1), .second, .val (.long q2), .second, .val (.long q3), .second, .val (.long q4), .second, .val (.int p5), .unset, .unset, .unset, .unset, .unset, .unset, .unset, .unset, .unset, .unset, .unset] [])) t := fun t k => by
    show Steps p.tables e below (s₁.setTop (mkF m 0 #[.val (.long q1), .second, .val (.long q2), .second, .val (.long q3), .second, .val (.long q4), .second, .val (.int p5), .unset, .unset, .unset, .unset, .unset, .unset, .unset, .unset, .unset, .unset, .unset] [])) t
    refine XS.iload X0.here hx rfl (hb hby at_0) rfl ?_
    show Steps p.tables e below (s₁.setTop (mkF m 2 #[.val (.long q1), .second, .val (.long q2), .second, .val (.long q3), .second, .val (.long q4), .second, .val (.int p5), .unset, .unset, .unset, .unset, .unset, .unset, .unset, .unset, .unset, .unset, .unset] [(.int p5)])) t
    refine XS.iconst X0.here hx rfl (hb hby at_2) ?_
    show Steps p.tables e below (s₁.setTop (mkF m 3 #[.val (.long q1), .second, .val (.long q2), .second, .val (.long q3), .second, .val (.long q4), .second, .val (.int p5), .unset, .unset, .unset, .unset, .unset, .unset, .unset, .unset, .unset, .unset, .unset] [(.int (3 : Int32)), (.int p5)])) t
    refine XS.iand X0.here hx rfl (hb hby at_3) rfl ?_
    show Steps p.tables e below (s₁.setTop (mkF m 4 #[.val (.long q1), .second, .val (.long q2), .second, .val (.long q3), .second, .val (.long q4), .second, .val (.int p5), .unset, .unset, .unset, .unset, .unset, .unset, .unset, .unset, .unset, .unset, .unset] [(.int (p5 &&& (3 : Int32)))])) t
    refine XS.istore X0.here hx rfl (hb hby at_4) rfl (l' := #[.val (.long q1), .second, .val (.long q2), .second, .val (.long q3), .second, .val (.long q4), .second, .val (.int p5), .val (.int (p5 &&& (3 : Int32))), .unset, .unset, .unset, .unset, .unset, .unset, .unset, .unset, .unset, .unset]) rfl ?_
    show Steps p.tables e below (s₁.setTop (mkF m 6 #[.val (.long q1), .second, .val (.long q2), .second, .val (.long q3), .second, .val (.long q4), .second, .val (.int p5), .val (.int (p5 &&& (3 : Int32))), .unset, .unset, .unset, .unset, .unset, .unset, .unset, .unset, .unset, .unset] [])) t
    refine XS.iload X0.here hx rfl (hb hby at_6) rfl ?_
    show Steps p.tables e below (s₁.setTop (mkF m 8 #[.val (.long q1), .second, .val (.long q2), .second, .val (.long q3), .second, .val (.long q4), .second, .val (.int p5), .val (.int (p5 &&& (3 : Int32))), .unset, .unset, .unset, .unset, .unset, .unset, .unset, .unset, .unset, .unset] [(.int p5)])) t
    refine XS.iconst X0.here hx rfl (hb hby at_8) ?_
    show Steps p.tables e below (s₁.setTop (mkF m 9 #[.val (.long q1), .second, .val (.long q2), .second, .val (.long q3), .second, .val (.long q4), .second, .val (.int p5), .val (.int (p5 &&& (3 : Int32))), .unset, .unset, .unset, .unset, .unset, .unset, .unset, .unset, .unset, .unset] [(.int (2 : Int32)), (.int p5)])) t
    refine XS.iushr X0.here hx rfl (hb hby at_9) rfl ?_
    show Steps p.tables e below (s₁.setTop (mkF m 10 #[.val (.long q1), .second, .val (.long q2), .second, .val (.long q3), .second, .val (.long q4), .second, .val (.int p5), .val (.int (p5 &&& (3 : Int32))), .unset, .unset, .unset, .unset, .unset, .unset, .unset, .unset, .unset, .unset] [(.int ((p5.toUInt32 >>> ((2 : Int32) &&& 31).toUInt32).toInt32))])) t
    refine XS.iconst X0.here hx rfl (hb hby at_10) ?_
    show Steps p.tables e below (s₁.setTop (mkF m 11 #[.val (.long q1), .second, .val (.long q2), .second, .val (.long q3), .second, .val (.long q4), .second, .val (.int p5), .val (.int (p5 &&& (3 : Int32))), .unset, .unset, .unset, .unset, .unset, .unset, .unset, .unset, .unset, .unset] [(.int (3 : Int32)), (.int ((p5.toUInt32 >>> ((2 : Int32) &&& 31).toUInt32).toInt32))])) t
    refine XS.iand X0.here hx rfl (hb hby at_11) rfl ?_
    show Steps p.tables e below (s₁.setTop (mkF m 12 #[.val (.long q1), .second, .val (.long q2), .second, .val (.long q3), .second, .val (.long q4), .second, .val (.int p5), .val (.int (p5 &&& (3 : Int32))), .unset, .unset, .unset, .unset, .unset, .unset, .unset, .unset, .unset, .unset] [(.int (((p5.toUInt32 >>> ((2 : Int32) &&& 31).toUInt32).toInt32) &&& (3 : Int32)))])) t
    refine XS.istore X0.here hx rfl (hb hby at_12) rfl (l' := #[.val (.long q1), .second, .val (.long q2), .second, .val (.long q3), .second, .val (.long q4), .second, .val (.int p5), .val (.int (p5 &&& (3 : Int32))), .val (.int (((p5.toUInt32 >>> ((2 : Int32) &&& 31).toUInt32).toInt32) &&& (3 : Int32))), .unset, .unset, .unset, .unset, .unset, .unset, .unset, .unset, .unset]) rfl ?_
    exact k
  obtain ⟨kd, hv_kd⟩ : ∃ z, z = (((p5.toUInt32 >>> ((2 : Int32) &&& 31).toUInt32).toInt32) &&& (3 : Int32)) := ⟨_, rfl⟩
  rw [← hv_kd] at P1
  have P2 : ∀ t, Steps p.tables e below (s₁.setTop (mkF m 18 #[.val (.long q1), .second, .val (.long q2), .second, .val (.long q3), .second, .val (.long q4), .second, .val (.int p5), .val (.int (p5 &&& (3 : Int32))), .val (.int kd), .unset, .unset, .unset, .unset, .unset, .unset, .unset, .unset, .unset] [(.int ((p5 &&& (3 : Int32)) &&& (2 : Int32)))])) t → Steps p.tables e below (s₁.setTop (mkF m 0 #[.val (.long q1), .second, .val (.long q2), .second, .val (.long q3), .second, .val (.long q4), .second, .val (.int p5), .unset, .unset, .unset, .unset, .unset, .unset, .unset, .unset, .unset, .unset, .unset] [])) t := fun t k => by
    refine P1 t ?_
    show Steps p.tables e below (s₁.setTop (mkF m 14 #[.val (.long q1), .second, .val (.long q2), .second, .val (.long q3), .second, .val (.long q4), .second, .val (.int p5), .val (.int (p5 &&& (3 : Int32))), .val (.int kd), .unset, .unset, .unset, .unset, .unset, .unset, .unset, .unset, .unset] [])) t
    refine XS.iload X0.here hx rfl (hb hby at_14) rfl ?_
    show Steps p.tables e below (s₁.setTop (mkF m 16 #[.val (.long q1), .second, .val (.long q2), .second, .val (.long q3), .second, .val (.long q4), .second, .val (.int p5), .val (.int (p5 &&& (3 : Int32))), .val (.int kd), .unset, .unset, .unset, .unset, .unset, .unset, .unset, .unset, .unset] [(.int (p5 &&& (3 : Int32)))])) t
    refine XS.iconst X0.here hx rfl (hb hby at_16) ?_
    show Steps p.tables e below (s₁.setTop (mkF m 17 #[.val (.long q1), .second, .val (.long q2), .second, .val (.long q3), .second, .val (.long q4), .second, .val (.int p5), .val (.int (p5 &&& (3 : Int32))), .val (.int kd), .unset, .unset, .unset, .unset, .unset, .unset, .unset, .unset, .unset] [(.int (2 : Int32)), (.int (p5 &&& (3 : Int32)))])) t
    refine XS.iand X0.here hx rfl (hb hby at_17) rfl ?_
    exact k
  have P4 : ∀ t, Steps p.tables e below (s₁.setTop (mkF m 27 #[.val (.long q1), .second, .val (.long q2), .second, .val (.long q3), .second, .val (.long q4), .second, .val (.int p5), .val (.int (p5 &&& (3 : Int32))), .val (.int kd), .unset, .unset, .unset, .unset, .unset, .unset, .unset, .unset, .unset] [(.long (if ((p5 &&& (3 : Int32)) &&& (2 : Int32)) = (0 : Int32) then q1 else q3))])) t → Steps p.tables e below (s₁.setTop (mkF m 0 #[.val (.long q1), .second, .val (.long q2), .second, .val (.long q3), .second, .val (.long q4), .second, .val (.int p5), .unset, .unset, .unset, .unset, .unset, .unset, .unset, .unset, .unset, .unset, .unset] [])) t := fun t k => by
    refine P2 t ?_
    by_cases hj3 : ((p5 &&& (3 : Int32)) &&& (2 : Int32)) = (0 : Int32)
    · show Steps p.tables e below (s₁.setTop (mkF m 18 #[.val (.long q1), .second, .val (.long q2), .second, .val (.long q3), .second, .val (.long q4), .second, .val (.int p5), .val (.int (p5 &&& (3 : Int32))), .val (.int kd), .unset, .unset, .unset, .unset, .unset, .unset, .unset, .unset, .unset] [(.int ((p5 &&& (3 : Int32)) &&& (2 : Int32)))])) t
      refine XS.ifYes X0.here hx rfl (pc0 := 18) (pc' := 26) rfl (hb hby at_18) rfl ((if0 _ _).trans (teq hj3).1) (by decide) (by decide) ?_
      show Steps p.tables e below (s₁.setTop (mkF m 26 #[.val (.long q1), .second, .val (.long q2), .second, .val (.long q3), .second, .val (.long q4), .second, .val (.int p5), .val (.int (p5 &&& (3 : Int32))), .val (.int kd), .unset, .unset, .unset, .unset, .unset, .unset, .unset, .unset, .unset] [])) t
      refine XS.lloadN X0.here hx rfl (hb hby at_26) rfl ?_
      rw [if_pos hj3] at k
      exact k
    · show Steps p.tables e below (s₁.setTop (mkF m 18 #[.val (.long q1), .second, .val (.long q2), .second, .val (.long q3), .second, .val (.long q4), .second, .val (.int p5), .val (.int (p5 &&& (3 : Int32))), .val (.int kd), .unset, .unset, .unset, .unset, .unset, .unset, .unset, .unset, .unset] [(.int ((p5 &&& (3 : Int32)) &&& (2 : Int32)))])) t
      refine XS.ifNo X0.here hx rfl (hb hby at_18) rfl ((if0 _ _).trans (feq hj3).1) ?_
      show Steps p.tables e below (s₁.setTop (mkF m 21 #[.val (.long q1), .second, .val (.long q2), .second, .val (.long q3), .second, .val (.long q4), .second, .val (.int p5), .val (.int (p5 &&& (3 : Int32))), .val (.int kd), .unset, .unset, .unset, .unset, .unset, .unset, .unset, .unset, .unset] [])) t
      refine XS.lload X0.here hx rfl (hb hby at_21) rfl ?_
      show Steps p.tables e below (s₁.setTop (mkF m 23 #[.val (.long q1), .second, .val (.long q2), .second, .val (.long q3), .second, .val (.long q4), .second, .val (.int p5), .val (.int (p5 &&& (3 : Int32))), .val (.int kd), .unset, .unset, .unset, .unset, .unset, .unset, .unset, .unset, .unset] [(.long q3)])) t
      refine XS.goto X0.here hx rfl (pc0 := 23) (pc' := 27) rfl (hb hby at_23) (by decide) (by decide) ?_
      rw [if_neg hj3] at k
      exact k
  have P5 : ∀ t, Steps p.tables e below (s₁.setTop (mkF m 29 #[.val (.long q1), .second, .val (.long q2), .second, .val (.long q3), .second, .val (.long q4), .second, .val (.int p5), .val (.int (p5 &&& (3 : Int32))), .val (.int kd), .val (.long (if ((p5 &&& (3 : Int32)) &&& (2 : Int32)) = (0 : Int32) then q1 else q3)), .second, .unset, .unset, .unset, .unset, .unset, .unset, .unset] [])) t → Steps p.tables e below (s₁.setTop (mkF m 0 #[.val (.long q1), .second, .val (.long q2), .second, .val (.long q3), .second, .val (.long q4), .second, .val (.int p5), .unset, .unset, .unset, .unset, .unset, .unset, .unset, .unset, .unset, .unset, .unset] [])) t := fun t k => by
    refine P4 t ?_
    show Steps p.tables e below (s₁.setTop (mkF m 27 #[.val (.long q1), .second, .val (.long q2), .second, .val (.long q3), .second, .val (.long q4), .second, .val (.int p5), .val (.int (p5 &&& (3 : Int32))), .val (.int kd), .unset, .unset, .unset, .unset, .unset, .unset, .unset, .unset, .unset] [(.long (if ((p5 &&& (3 : Int32)) &&& (2 : Int32)) = (0 : Int32) then q1 else q3))])) t
    refine XS.lstore X0.here hx rfl (hb hby at_27) rfl (l' := #[.val (.long q1), .second, .val (.long q2), .second, .val (.long q3), .second, .val (.long q4), .second, .val (.int p5), .val (.int (p5 &&& (3 : Int32))), .val (.int kd), .val (.long (if ((p5 &&& (3 : Int32)) &&& (2 : Int32)) = (0 : Int32) then q1 else q3)), .second, .unset, .unset, .unset, .unset, .unset, .unset, .unset]) rfl ?_
    exact k
  obtain ⟨bm, hv_bm⟩ : ∃ z, z = (if ((p5 &&& (3 : Int32)) &&& (2 : Int32)) = (0 : Int32) then q1 else q3) := ⟨_, rfl⟩
  rw [← hv_bm] at P5
  have P6 : ∀ t, Steps p.tables e below (s₁.setTop (mkF m 33 #[.val (.long q1), .second, .val (.long q2), .second, .val (.long q3), .second, .val (.long q4), .second, .val (.int p5), .val (.int (p5 &&& (3 : Int32))), .val (.int kd), .val (.long bm), .second, .unset, .unset, .unset, .unset, .unset, .unset, .unset] [(.int ((p5 &&& (3 : Int32)) &&& (1 : Int32)))])) t → Steps p.tables e below (s₁.setTop (mkF m 0 #[.val (.long q1), .second, .val (.long q2), .second, .val (.long q3), .second, .val (.long q4), .second, .val (.int p5), .unset, .unset, .unset, .unset, .unset, .unset, .unset, .unset, .unset, .unset, .unset] [])) t := fun t k => by
    refine P5 t ?_
    show Steps p.tables e below (s₁.setTop (mkF m 29 #[.val (.long q1), .second, .val (.long q2), .second, .val (.long q3), .second, .val (.long q4), .second, .val (.int p5), .val (.int (p5 &&& (3 : Int32))), .val (.int kd), .val (.long bm), .second, .unset, .unset, .unset, .unset, .unset, .unset, .unset] [])) t
    refine XS.iload X0.here hx rfl (hb hby at_29) rfl ?_
    show Steps p.tables e below (s₁.setTop (mkF m 31 #[.val (.long q1), .second, .val (.long q2), .second, .val (.long q3), .second, .val (.long q4), .second, .val (.int p5), .val (.int (p5 &&& (3 : Int32))), .val (.int kd), .val (.long bm), .second, .unset, .unset, .unset, .unset, .unset, .unset, .unset] [(.int (p5 &&& (3 : Int32)))])) t
    refine XS.iconst X0.here hx rfl (hb hby at_31) ?_
    show Steps p.tables e below (s₁.setTop (mkF m 32 #[.val (.long q1), .second, .val (.long q2), .second, .val (.long q3), .second, .val (.long q4), .second, .val (.int p5), .val (.int (p5 &&& (3 : Int32))), .val (.int kd), .val (.long bm), .second, .unset, .unset, .unset, .unset, .unset, .unset, .unset] [(.int (1 : Int32)), (.int (p5 &&& (3 : Int32)))])) t
    refine XS.iand X0.here hx rfl (hb hby at_32) rfl ?_
    exact k
  have P8 : ∀ t, Steps p.tables e below (s₁.setTop (mkF m 42 #[.val (.long q1), .second, .val (.long q2), .second, .val (.long q3), .second, .val (.long q4), .second, .val (.int p5), .val (.int (p5 &&& (3 : Int32))), .val (.int kd), .val (.long bm), .second, .unset, .unset, .unset, .unset, .unset, .unset, .unset] [(.long (if ((p5 &&& (3 : Int32)) &&& (1 : Int32)) = (0 : Int32) then q2 else q4))])) t → Steps p.tables e below (s₁.setTop (mkF m 0 #[.val (.long q1), .second, .val (.long q2), .second, .val (.long q3), .second, .val (.long q4), .second, .val (.int p5), .unset, .unset, .unset, .unset, .unset, .unset, .unset, .unset, .unset, .unset, .unset] [])) t := fun t k => by
    refine P6 t ?_
    by_cases hj7 : ((p5 &&& (3 : Int32)) &&& (1 : Int32)) = (0 : Int32)
    · show Steps p.tables e below (s₁.setTop (mkF m 33 #[.val (.long q1), .second, .val (.long q2), .second, .val (.long q3), .second, .val (.long q4), .second, .val (.int p5), .val (.int (p5 &&& (3 : Int32))), .val (.int kd), .val (.long bm), .second, .unset, .unset, .unset, .unset, .unset, .unset, .unset] [(.int ((p5 &&& (3 : Int32)) &&& (1 : Int32)))])) t
      refine XS.ifYes X0.here hx rfl (pc0 := 33) (pc' := 41) rfl (hb hby at_33) rfl ((if0 _ _).trans (teq hj7).1) (by decide) (by decide) ?_
      show Steps p.tables e below (s₁.setTop (mkF m 41 #[.val (.long q1), .second, .val (.long q2), .second, .val (.long q3), .second, .val (.long q4), .second, .val (.int p5), .val (.int (p5 &&& (3 : Int32))), .val (.int kd), .val (.long bm), .second, .unset, .unset, .unset, .unset, .unset, .unset, .unset] [])) t
      refine XS.lloadN X0.here hx rfl (hb hby at_41) rfl ?_
      rw [if_pos hj7] at k
      exact k
    · show Steps p.tables e below (s₁.setTop (mkF m 33 #[.val (.long q1), .second, .val (.long q2), .second, .val (.long q3), .second, .val (.long q4), .second, .val (.int p5), .val (.int (p5 &&& (3 : Int32))), .val (.int kd), .val (.long bm), .second, .unset, .unset, .unset, .unset, .unset, .unset, .unset] [(.int ((p5 &&& (3 : Int32)) &&& (1 : Int32)))])) t
      refine XS.ifNo X0.here hx rfl (hb hby at_33) rfl ((if0 _ _).trans (feq hj7).1) ?_
      show Steps p.tables e below (s₁.setTop (mkF m 36 #[.val (.long q1), .second, .val (.long q2), .second, .val (.long q3), .second, .val (.long q4), .second, .val (.int p5), .val (.int (p5 &&& (3 : Int32))), .val (.int kd), .val (.long bm), .second, .unset, .unset, .unset, .unset, .unset, .unset, .unset] [])) t
      refine XS.lload X0.here hx rfl (hb hby at_36) rfl ?_
      show Steps p.tables e below (s₁.setTop (mkF m 38 #[.val (.long q1), .second, .val (.long q2), .second, .val (.long q3), .second, .val (.long q4), .second, .val (.int p5), .val (.int (p5 &&& (3 : Int32))), .val (.int kd), .val (.long bm), .second, .unset, .unset, .unset, .unset, .unset, .unset, .unset] [(.long q4)])) t
      refine XS.goto X0.here hx rfl (pc0 := 38) (pc' := 42) rfl (hb hby at_38) (by decide) (by decide) ?_
      rw [if_neg hj7] at k
      exact k
  have P9 : ∀ t, Steps p.tables e below (s₁.setTop (mkF m 44 #[.val (.long q1), .second, .val (.long q2), .second, .val (.long q3), .second, .val (.long q4), .second, .val (.int p5), .val (.int (p5 &&& (3 : Int32))), .val (.int kd), .val (.long bm), .second, .val (.long (if ((p5 &&& (3 : Int32)) &&& (1 : Int32)) = (0 : Int32) then q2 else q4)), .second, .unset, .unset, .unset, .unset, .unset] [])) t → Steps p.tables e below (s₁.setTop (mkF m 0 #[.val (.long q1), .second, .val (.long q2), .second, .val (.long q3), .second, .val (.long q4), .second, .val (.int p5), .unset, .unset, .unset, .unset, .unset, .unset, .unset, .unset, .unset, .unset, .unset] [])) t := fun t k => by
    refine P8 t ?_
    show Steps p.tables e below (s₁.setTop (mkF m 42 #[.val (.long q1), .second, .val (.long q2), .second, .val (.long q3), .second, .val (.long q4), .second, .val (.int p5), .val (.int (p5 &&& (3 : Int32))), .val (.int kd), .val (.long bm), .second, .unset, .unset, .unset, .unset, .unset, .unset, .unset] [(.long (if ((p5 &&& (3 : Int32)) &&& (1 : Int32)) = (0 : Int32) then q2 else q4))])) t
    refine XS.lstore X0.here hx rfl (hb hby at_42) rfl (l' := #[.val (.long q1), .second, .val (.long q2), .second, .val (.long q3), .second, .val (.long q4), .second, .val (.int p5), .val (.int (p5 &&& (3 : Int32))), .val (.int kd), .val (.long bm), .second, .val (.long (if ((p5 &&& (3 : Int32)) &&& (1 : Int32)) = (0 : Int32) then q2 else q4)), .second, .unset, .unset, .unset, .unset, .unset]) rfl ?_
    exact k
  obtain ⟨bs, hv_bs⟩ : ∃ z, z = (if ((p5 &&& (3 : Int32)) &&& (1 : Int32)) = (0 : Int32) then q2 else q4) := ⟨_, rfl⟩
  rw [← hv_bs] at P9
  obtain ⟨T10, h10, X10, e10, E10, A10, D10, -, st10⟩ := newO X0 hx hZ hown (hw _ (List.mem_of_getElem? (i := 0) rfl)) (hw _ (List.mem_of_getElem? (i := 1) rfl)) (hw _ (List.mem_of_getElem? (i := 2) rfl)) e0 (g := (mkF m 44 #[.val (.long q1), .second, .val (.long q2), .second, .val (.long q3), .second, .val (.long q4), .second, .val (.int p5), .val (.int (p5 &&& (3 : Int32))), .val (.int kd), .val (.long bm), .second, .val (.long bs), .second, .unset, .unset, .unset, .unset, .unset] [])) rfl (hb hby at_44) (by decide) (by decide)
  obtain ⟨b10, g10⟩ : ∃ z, z = h0.size := ⟨_, rfl⟩
  rw [← g10] at A10 D10 st10
  have g_b10 : n0 ≤ b10 := Nat.le_trans Z0 (Nat.le_of_eq g10.symm)
  have OL_10 := OL_0.ext E10
  have Z_11 : n0 ≤ h10.size := Nat.le_trans Z0 E10.1
  have F_millis_b10 : Fld Z h10 b10 "com/example/tidy_expiry/tidyexpiry/keyspace/StreamId" "millis" "J" (.long (0 : Int64)) := D10 (Or.inr (hw _ (List.mem_of_getElem? (i := 10) rfl))) (ty := .long) (by decide)
  have F_sequence_b10 : Fld Z h10 b10 "com/example/tidy_expiry/tidyexpiry/keyspace/StreamId" "sequence" "J" (.long (0 : Int64)) := D10 (Or.inr (hw _ (List.mem_of_getElem? (i := 12) rfl))) (ty := .long) (by decide)
  have P12 : ∀ t, Steps p.tables e below (T10.setTop (mkF m 47 #[.val (.long q1), .second, .val (.long q2), .second, .val (.long q3), .second, .val (.long q4), .second, .val (.int p5), .val (.int (p5 &&& (3 : Int32))), .val (.int kd), .val (.long bm), .second, .val (.long bs), .second, .unset, .unset, .unset, .unset, .unset] [(.ref b10)])) t → Steps p.tables e below (s₁.setTop (mkF m 0 #[.val (.long q1), .second, .val (.long q2), .second, .val (.long q3), .second, .val (.long q4), .second, .val (.int p5), .unset, .unset, .unset, .unset, .unset, .unset, .unset, .unset, .unset, .unset, .unset] [])) t := fun t k => P9 t (st10 _ k)
  have P13 : ∀ t, Steps p.tables e below (T10.setTop (mkF m 50 #[.val (.long q1), .second, .val (.long q2), .second, .val (.long q3), .second, .val (.long q4), .second, .val (.int p5), .val (.int (p5 &&& (3 : Int32))), .val (.int kd), .val (.long bm), .second, .val (.long bs), .second, .unset, .unset, .unset, .unset, .unset] [(.long q2), (.long q1), (.ref b10), (.ref b10)])) t → Steps p.tables e below (s₁.setTop (mkF m 0 #[.val (.long q1), .second, .val (.long q2), .second, .val (.long q3), .second, .val (.long q4), .second, .val (.int p5), .unset, .unset, .unset, .unset, .unset, .unset, .unset, .unset, .unset, .unset, .unset] [])) t := fun t k => by
    refine P12 t ?_
    show Steps p.tables e below (T10.setTop (mkF m 47 #[.val (.long q1), .second, .val (.long q2), .second, .val (.long q3), .second, .val (.long q4), .second, .val (.int p5), .val (.int (p5 &&& (3 : Int32))), .val (.int kd), .val (.long bm), .second, .val (.long bs), .second, .unset, .unset, .unset, .unset, .unset] [(.ref b10)])) t
    refine XS.dup X10.here hx rfl (hb hby at_47) rfl rfl ?_
    show Steps p.tables e below (T10.setTop (mkF m 48 #[.val (.long q1), .second, .val (.long q2), .second, .val (.long q3), .second, .val (.long q4), .second, .val (.int p5), .val (.int (p5 &&& (3 : Int32))), .val (.int kd), .val (.long bm), .second, .val (.long bs), .second, .unset, .unset, .unset, .unset, .unset] [(.ref b10), (.ref b10)])) t
    refine XS.lloadN X10.here hx rfl (hb hby at_48) rfl ?_
    show Steps p.tables e below (T10.setTop (mkF m 49 #[.val (.long q1), .second, .val (.long q2), .second, .val (.long q3), .second, .val (.long q4), .second, .val (.int p5), .val (.int (p5 &&& (3 : Int32))), .val (.int kd), .val (.long bm), .second, .val (.long bs), .second, .unset, .unset, .unset, .unset, .unset] [(.long q1), (.ref b10), (.ref b10)])) t
    refine XS.lloadN X10.here hx rfl (hb hby at_49) rfl ?_
    exact k
  obtain ⟨_, _, ⟨T14, L14, k14, n14⟩, -, X14, ⟨Lc14, hQ14, l14, y14, z14⟩, st14⟩ := X10.specialBack hx (y := (⟨"com/example/tidy_expiry/tidyexpiry/keyspace/StreamId", "<init>", "(JJ)V"⟩ : MethodName)) rfl hown (mvT hZ (hw _ (List.mem_of_getElem? (i := 3) rfl))) (mvT hZ (hw _ (List.mem_of_getElem? (i := 4) rfl))) (mvT hZ (hw _ (List.mem_of_getElem? (i := 5) rfl))) (by decide) (backOf (W := 1) (rm1 l Z a0 hw [] b10 q1 q2 h10 n0 Z_11 A10 F_millis_b10 F_sequence_b10 g_b10) hZ (hw _ (List.mem_of_getElem? (i := 5) rfl)) (hw _ (List.mem_of_getElem? (i := 2) rfl)) (by decide) (by decide)) (g := (mkF m 50 #[.val (.long q1), .second, .val (.long q2), .second, .val (.long q3), .second, .val (.long q4), .second, .val (.int p5), .val (.int (p5 &&& (3 : Int32))), .val (.int kd), .val (.long bm), .second, .val (.long bs), .second, .unset, .unset, .unset, .unset, .unset] [(.long q2), (.long q1), (.ref b10), (.ref b10)])) rfl (by rw [hml]; rfl) (Steps.refl _) (a := b10) (argsL := [(.long q1), (.long q2)]) (rest := [(.ref b10)]) (lenOf pd__JJ_V rfl) rfl (by show 2 * 0 + _ ≤ _; exact Nat.le_of_eq rfl) (hb hby at_50) (fun _ _ => ⟨rfl, e10, (by decide : 1 + 0 ≤ _), (by decide : 2 + 0 ≤ _)⟩)
  dsimp only [Pt.U, Pt.locs, Pt.cells, Pt.slots] at X14 l14 y14 z14 st14 hQ14
  subst l14 y14 z14
  obtain ⟨rfl, N14q, K14, E14x, F14x, G14x⟩ := hQ14
  have OL_14 := OL_10.keep K14 (allS g_b10 all0)
  have A10_14 := A10.keep K14
  have Z_15 : n0 ≤ T14.heap.size := Nat.le_trans Z_11 K14.1
  have N14 := Fr.app N0 N14q
  have P16 : ∀ t, Steps p.tables e below (T14.setTop (mkF m 53 #[.val (.long q1), .second, .val (.long q2), .second, .val (.long q3), .second, .val (.long q4), .second, .val (.int p5), .val (.int (p5 &&& (3 : Int32))), .val (.int kd), .val (.long bm), .second, .val (.long bs), .second, .unset, .unset, .unset, .unset, .unset] [(.ref b10)])) t → Steps p.tables e below (s₁.setTop (mkF m 0 #[.val (.long q1), .second, .val (.long q2), .second, .val (.long q3), .second, .val (.long q4), .second, .val (.int p5), .unset, .unset, .unset, .unset, .unset, .unset, .unset, .unset, .unset, .unset, .unset] [])) t := fun t k => P13 t (st14.trans k)
  have P17 : ∀ t, Steps p.tables e below (T14.setTop (mkF m 55 #[.val (.long q1), .second, .val (.long q2), .second, .val (.long q3), .second, .val (.long q4), .second, .val (.int p5), .val (.int (p5 &&& (3 : Int32))), .val (.int kd), .val (.long bm), .second, .val (.long bs), .second, .val (.ref b10), .unset, .unset, .unset, .unset] [])) t → Steps p.tables e below (s₁.setTop (mkF m 0 #[.val (.long q1), .second, .val (.long q2), .second, .val (.long q3), .second, .val (.long q4), .second, .val (.int p5), .unset, .unset, .unset, .unset, .unset, .unset, .unset, .unset, .unset, .unset, .unset] [])) t := fun t k => by
    refine P16 t ?_
    show Steps p.tables e below (T14.setTop (mkF m 53 #[.val (.long q1), .second, .val (.long q2), .second, .val (.long q3), .second, .val (.long q4), .second, .val (.int p5), .val (.int (p5 &&& (3 : Int32))), .val (.int kd), .val (.long bm), .second, .val (.long bs), .second, .unset, .unset, .unset, .unset, .unset] [(.ref b10)])) t
    refine XS.astore X14.here hx rfl (hb hby at_53) rfl rfl (l' := #[.val (.long q1), .second, .val (.long q2), .second, .val (.long q3), .second, .val (.long q4), .second, .val (.int p5), .val (.int (p5 &&& (3 : Int32))), .val (.int kd), .val (.long bm), .second, .val (.long bs), .second, .val (.ref b10), .unset, .unset, .unset, .unset]) rfl ?_
    exact k
  obtain ⟨T18, h18, X18, e18, E18, A18, D18, -, st18⟩ := newO X14 hx hZ hown (hw _ (List.mem_of_getElem? (i := 0) rfl)) (hw _ (List.mem_of_getElem? (i := 1) rfl)) (hw _ (List.mem_of_getElem? (i := 2) rfl)) rfl (g := (mkF m 55 #[.val (.long q1), .second, .val (.long q2), .second, .val (.long q3), .second, .val (.long q4), .second, .val (.int p5), .val (.int (p5 &&& (3 : Int32))), .val (.int kd), .val (.long bm), .second, .val (.long bs), .second, .val (.ref b10), .unset, .unset, .unset, .unset] [])) rfl (hb hby at_55) (by decide) (by decide)
  obtain ⟨b18, g18⟩ : ∃ z, z = T14.heap.size := ⟨_, rfl⟩
  rw [← g18] at A18 D18 st18
  have ne_b10_b18 : b10 ≠ b18 := Nat.ne_of_lt (Nat.lt_of_lt_of_le A10_14.lt (Nat.le_of_eq g18.symm))
  have g_b18 : n0 ≤ b18 := Nat.le_trans Z_15 (Nat.le_of_eq g18.symm)
  have OL_18 := OL_14.ext E18
  have A10_18 := A10_14.ext E18
  have F14x_18 := F14x.ext E18
  have G14x_18 := G14x.ext E18
  have Z_19 : n0 ≤ h18.size := Nat.le_trans Z_15 E18.1
  have F_millis_b18 : Fld Z h18 b18 "com/example/tidy_expiry/tidyexpiry/keyspace/StreamId" "millis" "J" (.long (0 : Int64)) := D18 (Or.inr (hw _ (List.mem_of_getElem? (i := 10) rfl))) (ty := .long) (by decide)
  have F_sequence_b18 : Fld Z h18 b18 "com/example/tidy_expiry/tidyexpiry/keyspace/StreamId" "sequence" "J" (.long (0 : Int64)) := D18 (Or.inr (hw _ (List.mem_of_getElem? (i := 12) rfl))) (ty := .long) (by decide)
  have P20 : ∀ t, Steps p.tables e below (T18.setTop (mkF m 58 #[.val (.long q1), .second, .val (.long q2), .second, .val (.long q3), .second, .val (.long q4), .second, .val (.int p5), .val (.int (p5 &&& (3 : Int32))), .val (.int kd), .val (.long bm), .second, .val (.long bs), .second, .val (.ref b10), .unset, .unset, .unset, .unset] [(.ref b18)])) t → Steps p.tables e below (s₁.setTop (mkF m 0 #[.val (.long q1), .second, .val (.long q2), .second, .val (.long q3), .second, .val (.long q4), .second, .val (.int p5), .unset, .unset, .unset, .unset, .unset, .unset, .unset, .unset, .unset, .unset, .unset] [])) t := fun t k => P17 t (st18 _ k)
  have P21 : ∀ t, Steps p.tables e below (T18.setTop (mkF m 63 #[.val (.long q1), .second, .val (.long q2), .second, .val (.long q3), .second, .val (.long q4), .second, .val (.int p5), .val (.int (p5 &&& (3 : Int32))), .val (.int kd), .val (.long bm), .second, .val (.long bs), .second, .val (.ref b10), .unset, .unset, .unset, .unset] [(.long bs), (.long bm), (.ref b18), (.ref b18)])) t → Steps p.tables e below (s₁.setTop (mkF m 0 #[.val (.long q1), .second, .val (.long q2), .second, .val (.long q3), .second, .val (.long q4), .second, .val (.int p5), .unset, .unset, .unset, .unset, .unset, .unset, .unset, .unset, .unset, .unset, .unset] [])) t := fun t k => by
    refine P20 t ?_
    show Steps p.tables e below (T18.setTop (mkF m 58 #[.val (.long q1), .second, .val (.long q2), .second, .val (.long q3), .second, .val (.long q4), .second, .val (.int p5), .val (.int (p5 &&& (3 : Int32))), .val (.int kd), .val (.long bm), .second, .val (.long bs), .second, .val (.ref b10), .unset, .unset, .unset, .unset] [(.ref b18)])) t
    refine XS.dup X18.here hx rfl (hb hby at_58) rfl rfl ?_
    show Steps p.tables e below (T18.setTop (mkF m 59 #[.val (.long q1), .second, .val (.long q2), .second, .val (.long q3), .second, .val (.long q4), .second, .val (.int p5), .val (.int (p5 &&& (3 : Int32))), .val (.int kd), .val (.long bm), .second, .val (.long bs), .second, .val (.ref b10), .unset, .unset, .unset, .unset] [(.ref b18), (.ref b18)])) t
    refine XS.lload X18.here hx rfl (hb hby at_59) rfl ?_
    show Steps p.tables e below (T18.setTop (mkF m 61 #[.val (.long q1), .second, .val (.long q2), .second, .val (.long q3), .second, .val (.long q4), .second, .val (.int p5), .val (.int (p5 &&& (3 : Int32))), .val (.int kd), .val (.long bm), .second, .val (.long bs), .second, .val (.ref b10), .unset, .unset, .unset, .unset] [(.long bm), (.ref b18), (.ref b18)])) t
    refine XS.lload X18.here hx rfl (hb hby at_61) rfl ?_
    exact k
  obtain ⟨_, _, ⟨T22, L22, k22, n22⟩, -, X22, ⟨Lc22, hQ22, l22, y22, z22⟩, st22⟩ := X18.specialBack hx (y := (⟨"com/example/tidy_expiry/tidyexpiry/keyspace/StreamId", "<init>", "(JJ)V"⟩ : MethodName)) rfl hown (mvT hZ (hw _ (List.mem_of_getElem? (i := 3) rfl))) (mvT hZ (hw _ (List.mem_of_getElem? (i := 4) rfl))) (mvT hZ (hw _ (List.mem_of_getElem? (i := 5) rfl))) (by decide) (backOf (W := 1) (rm1 l Z a0 hw [] b18 bm bs h18 n0 Z_19 A18 F_millis_b18 F_sequence_b18 g_b18) hZ (hw _ (List.mem_of_getElem? (i := 5) rfl)) (hw _ (List.mem_of_getElem? (i := 2) rfl)) (by decide) (by decide)) (g := (mkF m 63 #[.val (.long q1), .second, .val (.long q2), .second, .val (.long q3), .second, .val (.long q4), .second, .val (.int p5), .val (.int (p5 &&& (3 : Int32))), .val (.int kd), .val (.long bm), .second, .val (.long bs), .second, .val (.ref b10), .unset, .unset, .unset, .unset] [(.long bs), (.long bm), (.ref b18), (.ref b18)])) rfl (by rw [hml]; rfl) (Steps.refl _) (a := b18) (argsL := [(.long bm), (.long bs)]) (rest := [(.ref b18)]) (lenOf pd__JJ_V rfl) rfl (by show 2 * 0 + _ ≤ _; exact Nat.le_of_eq rfl) (hb hby at_63) (fun _ _ => ⟨rfl, e18, (by decide : 2 + 0 ≤ _), (by decide : 4 + 0 ≤ _)⟩)
  dsimp only [Pt.U, Pt.locs, Pt.cells, Pt.slots] at X22 l22 y22 z22 st22 hQ22
  subst l22 y22 z22
  obtain ⟨rfl, N22q, K22, E22x, F22x, G22x⟩ := hQ22
  have OL_22 := OL_18.keep K22 (allS g_b18 all0)
  have A10_22 := A10_18.keep K22
  have F14x_22 := F14x_18.keep K22 (ninS ne_b10_b18 nin0)
  have G14x_22 := G14x_18.keep K22 (ninS ne_b10_b18 nin0)
  have A18_22 := A18.keep K22
  have Z_23 : n0 ≤ T22.heap.size := Nat.le_trans Z_19 K22.1
  have N22 := Fr.app N14 N22q
  have P24 : ∀ t, Steps p.tables e below (T22.setTop (mkF m 66 #[.val (.long q1), .second, .val (.long q2), .second, .val (.long q3), .second, .val (.long q4), .second, .val (.int p5), .val (.int (p5 &&& (3 : Int32))), .val (.int kd), .val (.long bm), .second, .val (.long bs), .second, .val (.ref b10), .unset, .unset, .unset, .unset] [(.ref b18)])) t → Steps p.tables e below (s₁.setTop (mkF m 0 #[.val (.long q1), .second, .val (.long q2), .second, .val (.long q3), .second, .val (.long q4), .second, .val (.int p5), .unset, .unset, .unset, .unset, .unset, .unset, .unset, .unset, .unset, .unset, .unset] [])) t := fun t k => P21 t (st22.trans k)
  have P25 : ∀ t, Steps p.tables e below (T22.setTop (mkF m 70 #[.val (.long q1), .second, .val (.long q2), .second, .val (.long q3), .second, .val (.long q4), .second, .val (.int p5), .val (.int (p5 &&& (3 : Int32))), .val (.int kd), .val (.long bm), .second, .val (.long bs), .second, .val (.ref b10), .val (.ref b18), .unset, .unset, .unset] [(.int kd)])) t → Steps p.tables e below (s₁.setTop (mkF m 0 #[.val (.long q1), .second, .val (.long q2), .second, .val (.long q3), .second, .val (.long q4), .second, .val (.int p5), .unset, .unset, .unset, .unset, .unset, .unset, .unset, .unset, .unset, .unset, .unset] [])) t := fun t k => by
    refine P24 t ?_
    show Steps p.tables e below (T22.setTop (mkF m 66 #[.val (.long q1), .second, .val (.long q2), .second, .val (.long q3), .second, .val (.long q4), .second, .val (.int p5), .val (.int (p5 &&& (3 : Int32))), .val (.int kd), .val (.long bm), .second, .val (.long bs), .second, .val (.ref b10), .unset, .unset, .unset, .unset] [(.ref b18)])) t
    refine XS.astore X22.here hx rfl (hb hby at_66) rfl rfl (l' := #[.val (.long q1), .second, .val (.long q2), .second, .val (.long q3), .second, .val (.long q4), .second, .val (.int p5), .val (.int (p5 &&& (3 : Int32))), .val (.int kd), .val (.long bm), .second, .val (.long bs), .second, .val (.ref b10), .val (.ref b18), .unset, .unset, .unset]) rfl ?_
    show Steps p.tables e below (T22.setTop (mkF m 68 #[.val (.long q1), .second, .val (.long q2), .second, .val (.long q3), .second, .val (.long q4), .second, .val (.int p5), .val (.int (p5 &&& (3 : Int32))), .val (.int kd), .val (.long bm), .second, .val (.long bs), .second, .val (.ref b10), .val (.ref b18), .unset, .unset, .unset] [])) t
    refine XS.iload X22.here hx rfl (hb hby at_68) rfl ?_
    exact k
  by_cases hc26 : kd = (0 : Int32)
  · have P27 : ∀ t, Steps p.tables e below (T22.setTop (mkF m 81 #[.val (.long q1), .second, .val (.long q2), .second, .val (.long q3), .second, .val (.long q4), .second, .val (.int p5), .val (.int (p5 &&& (3 : Int32))), .val (.int kd), .val (.long bm), .second, .val (.long bs), .second, .val (.ref b10), .val (.ref b18), .val (.ref b18), .unset, .unset] [(.int (lcmpW bm q1))])) t → Steps p.tables e below (s₁.setTop (mkF m 0 #[.val (.long q1), .second, .val (.long q2), .second, .val (.long q3), .second, .val (.long q4), .second, .val (.int p5), .unset, .unset, .unset, .unset, .unset, .unset, .unset, .unset, .unset, .unset, .unset] [])) t := fun t k => by
      refine P25 t ?_
      show Steps p.tables e below (T22.setTop (mkF m 70 #[.val (.long q1), .second, .val (.long q2), .second, .val (.long q3), .second, .val (.long q4), .second, .val (.int p5), .val (.int (p5 &&& (3 : Int32))), .val (.int kd), .val (.long bm), .second, .val (.long bs), .second, .val (.ref b10), .val (.ref b18), .unset, .unset, .unset] [(.int kd)])) t
      refine XS.ifNo X22.here hx rfl (hb hby at_70) rfl ((if0 _ _).trans (teq hc26).2) ?_
      show Steps p.tables e below (T22.setTop (mkF m 73 #[.val (.long q1), .second, .val (.long q2), .second, .val (.long q3), .second, .val (.long q4), .second, .val (.int p5), .val (.int (p5 &&& (3 : Int32))), .val (.int kd), .val (.long bm), .second, .val (.long bs), .second, .val (.ref b10), .val (.ref b18), .unset, .unset, .unset] [])) t
      refine XS.aload X22.here hx rfl (hb hby at_73) rfl rfl ?_
      show Steps p.tables e below (T22.setTop (mkF m 75 #[.val (.long q1), .second, .val (.long q2), .second, .val (.long q3), .second, .val (.long q4), .second, .val (.int p5), .val (.int (p5 &&& (3 : Int32))), .val (.int kd), .val (.long bm), .second, .val (.long bs), .second, .val (.ref b10), .val (.ref b18), .unset, .unset, .unset] [(.ref b18)])) t
      refine XS.astore X22.here hx rfl (hb hby at_75) rfl rfl (l' := #[.val (.long q1), .second, .val (.long q2), .second, .val (.long q3), .second, .val (.long q4), .second, .val (.int p5), .val (.int (p5 &&& (3 : Int32))), .val (.int kd), .val (.long bm), .second, .val (.long bs), .second, .val (.ref b10), .val (.ref b18), .val (.ref b18), .unset, .unset]) rfl ?_
      show Steps p.tables e below (T22.setTop (mkF m 77 #[.val (.long q1), .second, .val (.long q2), .second, .val (.long q3), .second, .val (.long q4), .second, .val (.int p5), .val (.int (p5 &&& (3 : Int32))), .val (.int kd), .val (.long bm), .second, .val (.long bs), .second, .val (.ref b10), .val (.ref b18), .val (.ref b18), .unset, .unset] [])) t
      refine XS.lload X22.here hx rfl (hb hby at_77) rfl ?_
      show Steps p.tables e below (T22.setTop (mkF m 79 #[.val (.long q1), .second, .val (.long q2), .second, .val (.long q3), .second, .val (.long q4), .second, .val (.int p5), .val (.int (p5 &&& (3 : Int32))), .val (.int kd), .val (.long bm), .second, .val (.long bs), .second, .val (.ref b10), .val (.ref b18), .val (.ref b18), .unset, .unset] [(.long bm)])) t
      refine XS.lloadN X22.here hx rfl (hb hby at_79) rfl ?_
      show Steps p.tables e below (T22.setTop (mkF m 80 #[.val (.long q1), .second, .val (.long q2), .second, .val (.long q3), .second, .val (.long q4), .second, .val (.int p5), .val (.int (p5 &&& (3 : Int32))), .val (.int kd), .val (.long bm), .second, .val (.long bs), .second, .val (.ref b10), .val (.ref b18), .val (.ref b18), .unset, .unset] [(.long q1), (.long bm)])) t
      refine XS.lcmp X22.here hx rfl (hb hby at_80) rfl ?_
      exact k
    have P30 : ∀ t, Steps p.tables e below (T22.setTop (mkF m 96 #[.val (.long q1), .second, .val (.long q2), .second, .val (.long q3), .second, .val (.long q4), .second, .val (.int p5), .val (.int (p5 &&& (3 : Int32))), .val (.int kd), .val (.long bm), .second, .val (.long bs), .second, .val (.ref b10), .val (.ref b18), .val (.ref b18), .unset, .unset] [(.int (if (lcmpW bm q1) = (0 : Int32) then (if (lcmpW bs q2) = (0 : Int32) then (1 : Int32) else (0 : Int32)) else (0 : Int32)))])) t → Steps p.tables e below (s₁.setTop (mkF m 0 #[.val (.long q1), .second, .val (.long q2), .second, .val (.long q3), .second, .val (.long q4), .second, .val (.int p5), .unset, .unset, .unset, .unset, .unset, .unset, .unset, .unset, .unset, .unset, .unset] [])) t := fun t k => by
      refine P27 t ?_
      by_cases hj28 : (lcmpW bm q1) = (0 : Int32)
      · show Steps p.tables e below (T22.setTop (mkF m 81 #[.val (.long q1), .second, .val (.long q2), .second, .val (.long q3), .second, .val (.long q4), .second, .val (.int p5), .val (.int (p5 &&& (3 : Int32))), .val (.int kd), .val (.long bm), .second, .val (.long bs), .second, .val (.ref b10), .val (.ref b18), .val (.ref b18), .unset, .unset] [(.int (lcmpW bm q1))])) t
        refine XS.ifNo X22.here hx rfl (hb hby at_81) rfl ((if0 _ _).trans (teq hj28).2) ?_
        show Steps p.tables e below (T22.setTop (mkF m 84 #[.val (.long q1), .second, .val (.long q2), .second, .val (.long q3), .second, .val (.long q4), .second, .val (.int p5), .val (.int (p5 &&& (3 : Int32))), .val (.int kd), .val (.long bm), .second, .val (.long bs), .second, .val (.ref b10), .val (.ref b18), .val (.ref b18), .unset, .unset] [])) t
        refine XS.lload X22.here hx rfl (hb hby at_84) rfl ?_
        show Steps p.tables e below (T22.setTop (mkF m 86 #[.val (.long q1), .second, .val (.long q2), .second, .val (.long q3), .second, .val (.long q4), .second, .val (.int p5), .val (.int (p5 &&& (3 : Int32))), .val (.int kd), .val (.long bm), .second, .val (.long bs), .second, .val (.ref b10), .val (.ref b18), .val (.ref b18), .unset, .unset] [(.long bs)])) t
        refine XS.lloadN X22.here hx rfl (hb hby at_86) rfl ?_
        show Steps p.tables e below (T22.setTop (mkF m 87 #[.val (.long q1), .second, .val (.long q2), .second, .val (.long q3), .second, .val (.long q4), .second, .val (.int p5), .val (.int (p5 &&& (3 : Int32))), .val (.int kd), .val (.long bm), .second, .val (.long bs), .second, .val (.ref b10), .val (.ref b18), .val (.ref b18), .unset, .unset] [(.long q2), (.long bs)])) t
        refine XS.lcmp X22.here hx rfl (hb hby at_87) rfl ?_
        by_cases hj29 : (lcmpW bs q2) = (0 : Int32)
        · show Steps p.tables e below (T22.setTop (mkF m 88 #[.val (.long q1), .second, .val (.long q2), .second, .val (.long q3), .second, .val (.long q4), .second, .val (.int p5), .val (.int (p5 &&& (3 : Int32))), .val (.int kd), .val (.long bm), .second, .val (.long bs), .second, .val (.ref b10), .val (.ref b18), .val (.ref b18), .unset, .unset] [(.int (lcmpW bs q2))])) t
          refine XS.ifNo X22.here hx rfl (hb hby at_88) rfl ((if0 _ _).trans (teq hj29).2) ?_
          show Steps p.tables e below (T22.setTop (mkF m 91 #[.val (.long q1), .second, .val (.long q2), .second, .val (.long q3), .second, .val (.long q4), .second, .val (.int p5), .val (.int (p5 &&& (3 : Int32))), .val (.int kd), .val (.long bm), .second, .val (.long bs), .second, .val (.ref b10), .val (.ref b18), .val (.ref b18), .unset, .unset] [])) t
          refine XS.iconst X22.here hx rfl (hb hby at_91) ?_
          show Steps p.tables e below (T22.setTop (mkF m 92 #[.val (.long q1), .second, .val (.long q2), .second, .val (.long q3), .second, .val (.long q4), .second, .val (.int p5), .val (.int (p5 &&& (3 : Int32))), .val (.int kd), .val (.long bm), .second, .val (.long bs), .second, .val (.ref b10), .val (.ref b18), .val (.ref b18), .unset, .unset] [(.int (1 : Int32))])) t
          refine XS.goto X22.here hx rfl (pc0 := 92) (pc' := 96) rfl (hb hby at_92) (by decide) (by decide) ?_
          rw [if_pos hj28, if_pos hj29] at k
          exact k
        · show Steps p.tables e below (T22.setTop (mkF m 88 #[.val (.long q1), .second, .val (.long q2), .second, .val (.long q3), .second, .val (.long q4), .second, .val (.int p5), .val (.int (p5 &&& (3 : Int32))), .val (.int kd), .val (.long bm), .second, .val (.long bs), .second, .val (.ref b10), .val (.ref b18), .val (.ref b18), .unset, .unset] [(.int (lcmpW bs q2))])) t
          refine XS.ifYes X22.here hx rfl (pc0 := 88) (pc' := 95) rfl (hb hby at_88) rfl ((if0 _ _).trans (feq hj29).2) (by decide) (by decide) ?_
          show Steps p.tables e below (T22.setTop (mkF m 95 #[.val (.long q1), .second, .val (.long q2), .second, .val (.long q3), .second, .val (.long q4), .second, .val (.int p5), .val (.int (p5 &&& (3 : Int32))), .val (.int kd), .val (.long bm), .second, .val (.long bs), .second, .val (.ref b10), .val (.ref b18), .val (.ref b18), .unset, .unset] [])) t
          refine XS.iconst X22.here hx rfl (hb hby at_95) ?_
          rw [if_pos hj28, if_neg hj29] at k
          exact k
      · show Steps p.tables e below (T22.setTop (mkF m 81 #[.val (.long q1), .second, .val (.long q2), .second, .val (.long q3), .second, .val (.long q4), .second, .val (.int p5), .val (.int (p5 &&& (3 : Int32))), .val (.int kd), .val (.long bm), .second, .val (.long bs), .second, .val (.ref b10), .val (.ref b18), .val (.ref b18), .unset, .unset] [(.int (lcmpW bm q1))])) t
        refine XS.ifYes X22.here hx rfl (pc0 := 81) (pc' := 95) rfl (hb hby at_81) rfl ((if0 _ _).trans (feq hj28).2) (by decide) (by decide) ?_
        show Steps p.tables e below (T22.setTop (mkF m 95 #[.val (.long q1), .second, .val (.long q2), .second, .val (.long q3), .second, .val (.long q4), .second, .val (.int p5), .val (.int (p5 &&& (3 : Int32))), .val (.int kd), .val (.long bm), .second, .val (.long bs), .second, .val (.ref b10), .val (.ref b18), .val (.ref b18), .unset, .unset] [])) t
        refine XS.iconst X22.here hx rfl (hb hby at_95) ?_
        rw [if_neg hj28] at k
        exact k
    have P31 : ∀ t, Steps p.tables e below (T22.setTop (mkF m 98 #[.val (.long q1), .second, .val (.long q2), .second, .val (.long q3), .second, .val (.long q4), .second, .val (.int p5), .val (.int (p5 &&& (3 : Int32))), .val (.int kd), .val (.long bm), .second, .val (.long bs), .second, .val (.ref b10), .val (.ref b18), .val (.ref b18), .val (.int (if (lcmpW bm q1) = (0 : Int32) then (if (lcmpW bs q2) = (0 : Int32) then (1 : Int32) else (0 : Int32)) else (0 : Int32))), .unset] [])) t → Steps p.tables e below (s₁.setTop (mkF m 0 #[.val (.long q1), .second, .val (.long q2), .second, .val (.long q3), .second, .val (.long q4), .second, .val (.int p5), .unset, .unset, .unset, .unset, .unset, .unset, .unset, .unset, .unset, .unset, .unset] [])) t := fun t k => by
      refine P30 t ?_
      show Steps p.tables e below (T22.setTop (mkF m 96 #[.val (.long q1), .second, .val (.long q2), .second, .val (.long q3), .second, .val (.long q4), .second, .val (.int p5), .val (.int (p5 &&& (3 : Int32))), .val (.int kd), .val (.long bm), .second, .val (.long bs), .second, .val (.ref b10), .val (.ref b18), .val (.ref b18), .unset, .unset] [(.int (if (lcmpW bm q1) = (0 : Int32) then (if (lcmpW bs q2) = (0 : Int32) then (1 : Int32) else (0 : Int32)) else (0 : Int32)))])) t
      refine XS.istore X22.here hx rfl (hb hby at_96) rfl (l' := #[.val (.long q1), .second, .val (.long q2), .second, .val (.long q3), .second, .val (.long q4), .second, .val (.int p5), .val (.int (p5 &&& (3 : Int32))), .val (.int kd), .val (.long bm), .second, .val (.long bs), .second, .val (.ref b10), .val (.ref b18), .val (.ref b18), .val (.int (if (lcmpW bm q1) = (0 : Int32) then (if (lcmpW bs q2) = (0 : Int32) then (1 : Int32) else (0 : Int32)) else (0 : Int32))), .unset]) rfl ?_
      exact k
    obtain ⟨ex, hv_ex⟩ : ∃ z, z = (if (lcmpW bm q1) = (0 : Int32) then (if (lcmpW bs q2) = (0 : Int32) then (1 : Int32) else (0 : Int32)) else (0 : Int32)) := ⟨_, rfl⟩
    rw [← hv_ex] at P31
    have P32 : ∀ t, Steps p.tables e below (T22.setTop (mkF m 145 #[.val (.long q1), .second, .val (.long q2), .second, .val (.long q3), .second, .val (.long q4), .second, .val (.int p5), .val (.int (p5 &&& (3 : Int32))), .val (.int kd), .val (.long bm), .second, .val (.long bs), .second, .val (.ref b10), .val (.ref b18), .val (.ref b18), .val (.int ex), .unset] [(.ref b18), (.ref b10)])) t → Steps p.tables e below (s₁.setTop (mkF m 0 #[.val (.long q1), .second, .val (.long q2), .second, .val (.long q3), .second, .val (.long q4), .second, .val (.int p5), .unset, .unset, .unset, .unset, .unset, .unset, .unset, .unset, .unset, .unset, .unset] [])) t := fun t k => by
      refine P31 t ?_
      show Steps p.tables e below (T22.setTop (mkF m 98 #[.val (.long q1), .second, .val (.long q2), .second, .val (.long q3), .second, .val (.long q4), .second, .val (.int p5), .val (.int (p5 &&& (3 : Int32))), .val (.int kd), .val (.long bm), .second, .val (.long bs), .second, .val (.ref b10), .val (.ref b18), .val (.ref b18), .val (.int ex), .unset] [])) t
      refine XS.goto X22.here hx rfl (pc0 := 98) (pc' := 141) rfl (hb hby at_98) (by decide) (by decide) ?_
      show Steps p.tables e below (T22.setTop (mkF m 141 #[.val (.long q1), .second, .val (.long q2), .second, .val (.long q3), .second, .val (.long q4), .second, .val (.int p5), .val (.int (p5 &&& (3 : Int32))), .val (.int kd), .val (.long bm), .second, .val (.long bs), .second, .val (.ref b10), .val (.ref b18), .val (.ref b18), .val (.int ex), .unset] [])) t
      refine XS.aload X22.here hx rfl (hb hby at_141) rfl rfl ?_
      show Steps p.tables e below (T22.setTop (mkF m 143 #[.val (.long q1), .second, .val (.long q2), .second, .val (.long q3), .second, .val (.long q4), .second, .val (.int p5), .val (.int (p5 &&& (3 : Int32))), .val (.int kd), .val (.long bm), .second, .val (.long bs), .second, .val (.ref b10), .val (.ref b18), .val (.ref b18), .val (.int ex), .unset] [(.ref b10)])) t
      refine XS.aload X22.here hx rfl (hb hby at_143) rfl rfl ?_
      exact k
    obtain ⟨cq33, kq33, q33a, q33b, q33c⟩ := isOf hZ rfl A10_22
    obtain ⟨_, _, ⟨T33, L33, k33, n33⟩, -, X33, ⟨Lc33, hQ33, l33, y33, z33⟩, st33⟩ := X22.virtualBack hx (y := (⟨"com/example/tidy_expiry/tidyexpiry/keyspace/StreamId", "equals", "(Ljava/lang/Object;)Z"⟩ : MethodName)) (z := (⟨"com/example/tidy_expiry/tidyexpiry/keyspace/StreamId", "equals", "(Ljava/lang/Object;)Z"⟩ : MethodName)) hown (mvT hZ (hw _ (List.mem_of_getElem? (i := 13) rfl))) (mvT hZ (hw _ (List.mem_of_getElem? (i := 14) rfl))) (notFace_of_selects (args := #[]) (mvT hZ (hw _ (List.mem_of_getElem? (i := 16) rfl)))) (mvT hZ (hw _ (List.mem_of_getElem? (i := 16) rfl))) (mvT hZ (hw _ (List.mem_of_getElem? (i := 15) rfl))) (by decide) (backOf (W := 0) (rm4h l Z a0 hw [] b10 b18 q1 q2 bm bs T22.heap n0 Z_23 F14x_22 G14x_22 F22x G22x A18_22) hZ (hw _ (List.mem_of_getElem? (i := 17) rfl)) (hw _ (List.mem_of_getElem? (i := 2) rfl)) (by decide) (by decide)) q33a q33c (g := (mkF m 145 #[.val (.long q1), .second, .val (.long q2), .second, .val (.long q3), .second, .val (.long q4), .second, .val (.int p5), .val (.int (p5 &&& (3 : Int32))), .val (.int kd), .val (.long bm), .second, .val (.long bs), .second, .val (.ref b10), .val (.ref b18), .val (.ref b18), .val (.int ex), .unset] [(.ref b18), (.ref b10)])) rfl (by rw [hml]; rfl) (Steps.refl _) (argsL := [(.ref b18)]) (rest := []) (lenOf pd__Ljava_lang_Object__Z rfl) rfl (by show 2 * 0 + _ ≤ _; exact Nat.le_of_eq rfl) (hb hby at_145) (fun _ _ => ⟨rfl, rfl, (by decide : 2 + 0 ≤ _), (by decide : 4 + 0 ≤ _)⟩)
    dsimp only [Pt.U, Pt.locs, Pt.cells, Pt.slots] at X33 l33 y33 z33 st33 hQ33
    subst l33 y33 z33
    obtain ⟨rfl, N33q, e33⟩ := hQ33
    have N33 := Fr.app N22 N33q
    have P34 : ∀ t, Steps p.tables e below (T33.setTop (mkF m 148 #[.val (.long q1), .second, .val (.long q2), .second, .val (.long q3), .second, .val (.long q4), .second, .val (.int p5), .val (.int (p5 &&& (3 : Int32))), .val (.int kd), .val (.long bm), .second, .val (.long bs), .second, .val (.ref b10), .val (.ref b18), .val (.ref b18), .val (.int ex), .unset] [(.int (own_eq q1 q2 bm bs))])) t → Steps p.tables e below (s₁.setTop (mkF m 0 #[.val (.long q1), .second, .val (.long q2), .second, .val (.long q3), .second, .val (.long q4), .second, .val (.int p5), .unset, .unset, .unset, .unset, .unset, .unset, .unset, .unset, .unset, .unset, .unset] [])) t := fun t k => P32 t (st33.trans k)
    have P35 : ∀ t, Steps p.tables e below (T33.setTop (mkF m 168 #[.val (.long q1), .second, .val (.long q2), .second, .val (.long q3), .second, .val (.long q4), .second, .val (.int p5), .val (.int (p5 &&& (3 : Int32))), .val (.int kd), .val (.long bm), .second, .val (.long bs), .second, .val (.ref b10), .val (.ref b18), .val (.ref b18), .val (.int ex), .val (.int (own_eq q1 q2 bm bs))] [(.ref b10), (.ref b18)])) t → Steps p.tables e below (s₁.setTop (mkF m 0 #[.val (.long q1), .second, .val (.long q2), .second, .val (.long q3), .second, .val (.long q4), .second, .val (.int p5), .unset, .unset, .unset, .unset, .unset, .unset, .unset, .unset, .unset, .unset, .unset] [])) t := fun t k => by
      refine P34 t ?_
      show Steps p.tables e below (T33.setTop (mkF m 148 #[.val (.long q1), .second, .val (.long q2), .second, .val (.long q3), .second, .val (.long q4), .second, .val (.int p5), .val (.int (p5 &&& (3 : Int32))), .val (.int kd), .val (.long bm), .second, .val (.long bs), .second, .val (.ref b10), .val (.ref b18), .val (.ref b18), .val (.int ex), .unset] [(.int (own_eq q1 q2 bm bs))])) t
      refine XS.istore X33.here hx rfl (hb hby at_148) rfl (l' := #[.val (.long q1), .second, .val (.long q2), .second, .val (.long q3), .second, .val (.long q4), .second, .val (.int p5), .val (.int (p5 &&& (3 : Int32))), .val (.int kd), .val (.long bm), .second, .val (.long bs), .second, .val (.ref b10), .val (.ref b18), .val (.ref b18), .val (.int ex), .val (.int (own_eq q1 q2 bm bs))]) rfl ?_
      show Steps p.tables e below (T33.setTop (mkF m 150 #[.val (.long q1), .second, .val (.long q2), .second, .val (.long q3), .second, .val (.long q4), .second, .val (.int p5), .val (.int (p5 &&& (3 : Int32))), .val (.int kd), .val (.long bm), .second, .val (.long bs), .second, .val (.ref b10), .val (.ref b18), .val (.ref b18), .val (.int ex), .val (.int (own_eq q1 q2 bm bs))] [])) t
      refine XS.iload X33.here hx rfl (hb hby at_150) rfl ?_
      show Steps p.tables e below (T33.setTop (mkF m 152 #[.val (.long q1), .second, .val (.long q2), .second, .val (.long q3), .second, .val (.long q4), .second, .val (.int p5), .val (.int (p5 &&& (3 : Int32))), .val (.int kd), .val (.long bm), .second, .val (.long bs), .second, .val (.ref b10), .val (.ref b18), .val (.ref b18), .val (.int ex), .val (.int (own_eq q1 q2 bm bs))] [(.int (own_eq q1 q2 bm bs))])) t
      refine XS.iload X33.here hx rfl (hb hby at_152) rfl ?_
      show Steps p.tables e below (T33.setTop (mkF m 154 #[.val (.long q1), .second, .val (.long q2), .second, .val (.long q3), .second, .val (.long q4), .second, .val (.int p5), .val (.int (p5 &&& (3 : Int32))), .val (.int kd), .val (.long bm), .second, .val (.long bs), .second, .val (.ref b10), .val (.ref b18), .val (.ref b18), .val (.int ex), .val (.int (own_eq q1 q2 bm bs))] [(.int ex), (.int (own_eq q1 q2 bm bs))])) t
      refine XS.icmpYes X33.here hx rfl (pc0 := 154) (pc' := 159) rfl (hb hby at_154) rfl (teq ((own_eq_comm q1 q2 bm bs).trans (hv_ex.symm : own_eq bm bs q1 q2 = ex))).1 (by decide) (by decide) ?_
      show Steps p.tables e below (T33.setTop (mkF m 159 #[.val (.long q1), .second, .val (.long q2), .second, .val (.long q3), .second, .val (.long q4), .second, .val (.int p5), .val (.int (p5 &&& (3 : Int32))), .val (.int kd), .val (.long bm), .second, .val (.long bs), .second, .val (.ref b10), .val (.ref b18), .val (.ref b18), .val (.int ex), .val (.int (own_eq q1 q2 bm bs))] [])) t
      refine XS.iload X33.here hx rfl (hb hby at_159) rfl ?_
      show Steps p.tables e below (T33.setTop (mkF m 161 #[.val (.long q1), .second, .val (.long q2), .second, .val (.long q3), .second, .val (.long q4), .second, .val (.int p5), .val (.int (p5 &&& (3 : Int32))), .val (.int kd), .val (.long bm), .second, .val (.long bs), .second, .val (.ref b10), .val (.ref b18), .val (.ref b18), .val (.int ex), .val (.int (own_eq q1 q2 bm bs))] [(.int kd)])) t
      refine XS.ifNo X33.here hx rfl (hb hby at_161) rfl ((if0 _ _).trans (teq hc26).2) ?_
      show Steps p.tables e below (T33.setTop (mkF m 164 #[.val (.long q1), .second, .val (.long q2), .second, .val (.long q3), .second, .val (.long q4), .second, .val (.int p5), .val (.int (p5 &&& (3 : Int32))), .val (.int kd), .val (.long bm), .second, .val (.long bs), .second, .val (.ref b10), .val (.ref b18), .val (.ref b18), .val (.int ex), .val (.int (own_eq q1 q2 bm bs))] [])) t
      refine XS.aload X33.here hx rfl (hb hby at_164) rfl rfl ?_
      show Steps p.tables e below (T33.setTop (mkF m 166 #[.val (.long q1), .second, .val (.long q2), .second, .val (.long q3), .second, .val (.long q4), .second, .val (.int p5), .val (.int (p5 &&& (3 : Int32))), .val (.int kd), .val (.long bm), .second, .val (.long bs), .second, .val (.ref b10), .val (.ref b18), .val (.ref b18), .val (.int ex), .val (.int (own_eq q1 q2 bm bs))] [(.ref b18)])) t
      refine XS.aload X33.here hx rfl (hb hby at_166) rfl rfl ?_
      exact k
    obtain ⟨cq36, kq36, q36a, q36b, q36c⟩ := isOf hZ e33 A18_22
    obtain ⟨_, _, ⟨T36, L36, k36, n36⟩, -, X36, ⟨Lc36, hQ36, l36, y36, z36⟩, st36⟩ := X33.virtualBack hx (y := (⟨"com/example/tidy_expiry/tidyexpiry/keyspace/StreamId", "equals", "(Ljava/lang/Object;)Z"⟩ : MethodName)) (z := (⟨"com/example/tidy_expiry/tidyexpiry/keyspace/StreamId", "equals", "(Ljava/lang/Object;)Z"⟩ : MethodName)) hown (mvT hZ (hw _ (List.mem_of_getElem? (i := 13) rfl))) (mvT hZ (hw _ (List.mem_of_getElem? (i := 14) rfl))) (notFace_of_selects (args := #[]) (mvT hZ (hw _ (List.mem_of_getElem? (i := 16) rfl)))) (mvT hZ (hw _ (List.mem_of_getElem? (i := 16) rfl))) (mvT hZ (hw _ (List.mem_of_getElem? (i := 15) rfl))) (by decide) (backOf (W := 0) (rm4h l Z a0 hw [] b18 b10 bm bs q1 q2 T22.heap n0 Z_23 F22x G22x F14x_22 G14x_22 A10_22) hZ (hw _ (List.mem_of_getElem? (i := 17) rfl)) (hw _ (List.mem_of_getElem? (i := 2) rfl)) (by decide) (by decide)) q36a q36c (g := (mkF m 168 #[.val (.long q1), .second, .val (.long q2), .second, .val (.long q3), .second, .val (.long q4), .second, .val (.int p5), .val (.int (p5 &&& (3 : Int32))), .val (.int kd), .val (.long bm), .second, .val (.long bs), .second, .val (.ref b10), .val (.ref b18), .val (.ref b18), .val (.int ex), .val (.int (own_eq q1 q2 bm bs))] [(.ref b10), (.ref b18)])) rfl (by rw [hml]; rfl) (Steps.refl _) (argsL := [(.ref b10)]) (rest := []) (lenOf pd__Ljava_lang_Object__Z rfl) rfl (by show 2 * 0 + _ ≤ _; exact Nat.le_of_eq rfl) (hb hby at_168) (fun _ _ => ⟨rfl, e33, (by decide : 2 + 0 ≤ _), (by decide : 4 + 0 ≤ _)⟩)
    dsimp only [Pt.U, Pt.locs, Pt.cells, Pt.slots] at X36 l36 y36 z36 st36 hQ36
    subst l36 y36 z36
    obtain ⟨rfl, N36q, e36⟩ := hQ36
    have N36 := Fr.app N33 N36q
    have P37 : ∀ t, Steps p.tables e below (T36.setTop (mkF m 171 #[.val (.long q1), .second, .val (.long q2), .second, .val (.long q3), .second, .val (.long q4), .second, .val (.int p5), .val (.int (p5 &&& (3 : Int32))), .val (.int kd), .val (.long bm), .second, .val (.long bs), .second, .val (.ref b10), .val (.ref b18), .val (.ref b18), .val (.int ex), .val (.int (own_eq q1 q2 bm bs))] [(.int (own_eq bm bs q1 q2))])) t → Steps p.tables e below (s₁.setTop (mkF m 0 #[.val (.long q1), .second, .val (.long q2), .second, .val (.long q3), .second, .val (.long q4), .second, .val (.int p5), .unset, .unset, .unset, .unset, .unset, .unset, .unset, .unset, .unset, .unset, .unset] [])) t := fun t k => P35 t (st36.trans k)
    have P38 : ∀ t, Steps p.tables e below (T36.setTop (mkF m 181 #[.val (.long q1), .second, .val (.long q2), .second, .val (.long q3), .second, .val (.long q4), .second, .val (.int p5), .val (.int (p5 &&& (3 : Int32))), .val (.int kd), .val (.long bm), .second, .val (.long bs), .second, .val (.ref b10), .val (.ref b18), .val (.ref b18), .val (.int ex), .val (.int (own_eq q1 q2 bm bs))] [(.int (1 : Int32))])) t → Steps p.tables e below (s₁.setTop (mkF m 0 #[.val (.long q1), .second, .val (.long q2), .second, .val (.long q3), .second, .val (.long q4), .second, .val (.int p5), .unset, .unset, .unset, .unset, .unset, .unset, .unset, .unset, .unset, .unset, .unset] [])) t := fun t k => by
      refine P37 t ?_
      show Steps p.tables e below (T36.setTop (mkF m 171 #[.val (.long q1), .second, .val (.long q2), .second, .val (.long q3), .second, .val (.long q4), .second, .val (.int p5), .val (.int (p5 &&& (3 : Int32))), .val (.int kd), .val (.long bm), .second, .val (.long bs), .second, .val (.ref b10), .val (.ref b18), .val (.ref b18), .val (.int ex), .val (.int (own_eq q1 q2 bm bs))] [(.int (own_eq bm bs q1 q2))])) t
      refine XS.iload X36.here hx rfl (hb hby at_171) rfl ?_
      show Steps p.tables e below (T36.setTop (mkF m 173 #[.val (.long q1), .second, .val (.long q2), .second, .val (.long q3), .second, .val (.long q4), .second, .val (.int p5), .val (.int (p5 &&& (3 : Int32))), .val (.int kd), .val (.long bm), .second, .val (.long bs), .second, .val (.ref b10), .val (.ref b18), .val (.ref b18), .val (.int ex), .val (.int (own_eq q1 q2 bm bs))] [(.int ex), (.int (own_eq bm bs q1 q2))])) t
      refine XS.icmpNo X36.here hx rfl (hb hby at_173) rfl (teq (hv_ex.symm : own_eq bm bs q1 q2 = ex)).2 ?_
      show Steps p.tables e below (T36.setTop (mkF m 176 #[.val (.long q1), .second, .val (.long q2), .second, .val (.long q3), .second, .val (.long q4), .second, .val (.int p5), .val (.int (p5 &&& (3 : Int32))), .val (.int kd), .val (.long bm), .second, .val (.long bs), .second, .val (.ref b10), .val (.ref b18), .val (.ref b18), .val (.int ex), .val (.int (own_eq q1 q2 bm bs))] [])) t
      refine XS.iconst X36.here hx rfl (hb hby at_176) ?_
      show Steps p.tables e below (T36.setTop (mkF m 177 #[.val (.long q1), .second, .val (.long q2), .second, .val (.long q3), .second, .val (.long q4), .second, .val (.int p5), .val (.int (p5 &&& (3 : Int32))), .val (.int kd), .val (.long bm), .second, .val (.long bs), .second, .val (.ref b10), .val (.ref b18), .val (.ref b18), .val (.int ex), .val (.int (own_eq q1 q2 bm bs))] [(.int (1 : Int32))])) t
      refine XS.goto X36.here hx rfl (pc0 := 177) (pc' := 181) rfl (hb hby at_177) (by decide) (by decide) ?_
      exact k
    obtain ⟨fs, hr, hrun, hended, hW, hsame⟩ := X36.leave (v := some (.int (1 : Int32))) (fun h => by rw [Bd.returns] at h; cases h)
    refine ⟨_, _, pre0 _ (P38 _ ?_), hrun, hended, _, _, rfl, ?_, ⟨_, rfl⟩, hW, hsame.mono (by decide) (by decide)⟩
    · exact retN X36 hx (t := .boolean) Bd.returns (by simp) (hb hby at_181) hr
    · show Q0 Z q1 q2 q3 q4 p5 wC cC h0 n0 _ T36.heap _
      rw [e36]
      exact ⟨rfl, N36⟩
  · have P39 : ∀ t, Steps p.tables e below (T22.setTop (mkF m 104 #[.val (.long q1), .second, .val (.long q2), .second, .val (.long q3), .second, .val (.long q4), .second, .val (.int p5), .val (.int (p5 &&& (3 : Int32))), .val (.int kd), .val (.long bm), .second, .val (.long bs), .second, .val (.ref b10), .val (.ref b18), .unset, .unset, .unset] [(.int (1 : Int32)), (.int kd)])) t → Steps p.tables e below (s₁.setTop (mkF m 0 #[.val (.long q1), .second, .val (.long q2), .second, .val (.long q3), .second, .val (.long q4), .second, .val (.int p5), .unset, .unset, .unset, .unset, .unset, .unset, .unset, .unset, .unset, .unset, .unset] [])) t := fun t k => by
      refine P25 t ?_
      show Steps p.tables e below (T22.setTop (mkF m 70 #[.val (.long q1), .second, .val (.long q2), .second, .val (.long q3), .second, .val (.long q4), .second, .val (.int p5), .val (.int (p5 &&& (3 : Int32))), .val (.int kd), .val (.long bm), .second, .val (.long bs), .second, .val (.ref b10), .val (.ref b18), .unset, .unset, .unset] [(.int kd)])) t
      refine XS.ifYes X22.here hx rfl (pc0 := 70) (pc' := 101) rfl (hb hby at_70) rfl ((if0 _ _).trans (feq hc26).2) (by decide) (by decide) ?_
      show Steps p.tables e below (T22.setTop (mkF m 101 #[.val (.long q1), .second, .val (.long q2), .second, .val (.long q3), .second, .val (.long q4), .second, .val (.int p5), .val (.int (p5 &&& (3 : Int32))), .val (.int kd), .val (.long bm), .second, .val (.long bs), .second, .val (.ref b10), .val (.ref b18), .unset, .unset, .unset] [])) t
      refine XS.iload X22.here hx rfl (hb hby at_101) rfl ?_
      show Steps p.tables e below (T22.setTop (mkF m 103 #[.val (.long q1), .second, .val (.long q2), .second, .val (.long q3), .second, .val (.long q4), .second, .val (.int p5), .val (.int (p5 &&& (3 : Int32))), .val (.int kd), .val (.long bm), .second, .val (.long bs), .second, .val (.ref b10), .val (.ref b18), .unset, .unset, .unset] [(.int kd)])) t
      refine XS.iconst X22.here hx rfl (hb hby at_103) ?_
      exact k
    by_cases hc40 : kd = (1 : Int32)
    · have P41 : ∀ t, Steps p.tables e below (T22.setTop (mkF m 145 #[.val (.long q1), .second, .val (.long q2), .second, .val (.long q3), .second, .val (.long q4), .second, .val (.int p5), .val (.int (p5 &&& (3 : Int32))), .val (.int kd), .val (.long bm), .second, .val (.long bs), .second, .val (.ref b10), .val (.ref b18), .val .null, .val (.int (0 : Int32)), .unset] [.null, (.ref b10)])) t → Steps p.tables e below (s₁.setTop (mkF m 0 #[.val (.long q1), .second, .val (.long q2), .second, .val (.long q3), .second, .val (.long q4), .second, .val (.int p5), .unset, .unset, .unset, .unset, .unset, .unset, .unset, .unset, .unset, .unset, .unset] [])) t := fun t k => by
        refine P39 t ?_
        show Steps p.tables e below (T22.setTop (mkF m 104 #[.val (.long q1), .second, .val (.long q2), .second, .val (.long q3), .second, .val (.long q4), .second, .val (.int p5), .val (.int (p5 &&& (3 : Int32))), .val (.int kd), .val (.long bm), .second, .val (.long bs), .second, .val (.ref b10), .val (.ref b18), .unset, .unset, .unset] [(.int (1 : Int32)), (.int kd)])) t
        refine XS.icmpNo X22.here hx rfl (hb hby at_104) rfl (teq hc40).2 ?_
        show Steps p.tables e below (T22.setTop (mkF m 107 #[.val (.long q1), .second, .val (.long q2), .second, .val (.long q3), .second, .val (.long q4), .second, .val (.int p5), .val (.int (p5 &&& (3 : Int32))), .val (.int kd), .val (.long bm), .second, .val (.long bs), .second, .val (.ref b10), .val (.ref b18), .unset, .unset, .unset] [])) t
        refine XS.aconstNull X22.here hx rfl (hb hby at_107) ?_
        show Steps p.tables e below (T22.setTop (mkF m 108 #[.val (.long q1), .second, .val (.long q2), .second, .val (.long q3), .second, .val (.long q4), .second, .val (.int p5), .val (.int (p5 &&& (3 : Int32))), .val (.int kd), .val (.long bm), .second, .val (.long bs), .second, .val (.ref b10), .val (.ref b18), .unset, .unset, .unset] [.null])) t
        refine XS.astore X22.here hx rfl (hb hby at_108) rfl rfl (l' := #[.val (.long q1), .second, .val (.long q2), .second, .val (.long q3), .second, .val (.long q4), .second, .val (.int p5), .val (.int (p5 &&& (3 : Int32))), .val (.int kd), .val (.long bm), .second, .val (.long bs), .second, .val (.ref b10), .val (.ref b18), .val .null, .unset, .unset]) rfl ?_
        show Steps p.tables e below (T22.setTop (mkF m 110 #[.val (.long q1), .second, .val (.long q2), .second, .val (.long q3), .second, .val (.long q4), .second, .val (.int p5), .val (.int (p5 &&& (3 : Int32))), .val (.int kd), .val (.long bm), .second, .val (.long bs), .second, .val (.ref b10), .val (.ref b18), .val .null, .unset, .unset] [])) t
        refine XS.iconst X22.here hx rfl (hb hby at_110) ?_
        show Steps p.tables e below (T22.setTop (mkF m 111 #[.val (.long q1), .second, .val (.long q2), .second, .val (.long q3), .second, .val (.long q4), .second, .val (.int p5), .val (.int (p5 &&& (3 : Int32))), .val (.int kd), .val (.long bm), .second, .val (.long bs), .second, .val (.ref b10), .val (.ref b18), .val .null, .unset, .unset] [(.int (0 : Int32))])) t
        refine XS.istore X22.here hx rfl (hb hby at_111) rfl (l' := #[.val (.long q1), .second, .val (.long q2), .second, .val (.long q3), .second, .val (.long q4), .second, .val (.int p5), .val (.int (p5 &&& (3 : Int32))), .val (.int kd), .val (.long bm), .second, .val (.long bs), .second, .val (.ref b10), .val (.ref b18), .val .null, .val (.int (0 : Int32)), .unset]) rfl ?_
        show Steps p.tables e below (T22.setTop (mkF m 113 #[.val (.long q1), .second, .val (.long q2), .second, .val (.long q3), .second, .val (.long q4), .second, .val (.int p5), .val (.int (p5 &&& (3 : Int32))), .val (.int kd), .val (.long bm), .second, .val (.long bs), .second, .val (.ref b10), .val (.ref b18), .val .null, .val (.int (0 : Int32)), .unset] [])) t
        refine XS.goto X22.here hx rfl (pc0 := 113) (pc' := 141) rfl (hb hby at_113) (by decide) (by decide) ?_
        show Steps p.tables e below (T22.setTop (mkF m 141 #[.val (.long q1), .second, .val (.long q2), .second, .val (.long q3), .second, .val (.long q4), .second, .val (.int p5), .val (.int (p5 &&& (3 : Int32))), .val (.int kd), .val (.long bm), .second, .val (.long bs), .second, .val (.ref b10), .val (.ref b18), .val .null, .val (.int (0 : Int32)), .unset] [])) t
        refine XS.aload X22.here hx rfl (hb hby at_141) rfl rfl ?_
        show Steps p.tables e below (T22.setTop (mkF m 143 #[.val (.long q1), .second, .val (.long q2), .second, .val (.long q3), .second, .val (.long q4), .second, .val (.int p5), .val (.int (p5 &&& (3 : Int32))), .val (.int kd), .val (.long bm), .second, .val (.long bs), .second, .val (.ref b10), .val (.ref b18), .val .null, .val (.int (0 : Int32)), .unset] [(.ref b10)])) t
        refine XS.aload X22.here hx rfl (hb hby at_143) rfl rfl ?_
        exact k
      obtain ⟨cq42, kq42, q42a, q42b, q42c⟩ := isOf hZ rfl A10_22
      obtain ⟨_, _, ⟨T42, L42, k42, n42⟩, -, X42, ⟨Lc42, hQ42, l42, y42, z42⟩, st42⟩ := X22.virtualBack hx (y := (⟨"com/example/tidy_expiry/tidyexpiry/keyspace/StreamId", "equals", "(Ljava/lang/Object;)Z"⟩ : MethodName)) (z := (⟨"com/example/tidy_expiry/tidyexpiry/keyspace/StreamId", "equals", "(Ljava/lang/Object;)Z"⟩ : MethodName)) hown (mvT hZ (hw _ (List.mem_of_getElem? (i := 13) rfl))) (mvT hZ (hw _ (List.mem_of_getElem? (i := 14) rfl))) (notFace_of_selects (args := #[]) (mvT hZ (hw _ (List.mem_of_getElem? (i := 16) rfl)))) (mvT hZ (hw _ (List.mem_of_getElem? (i := 16) rfl))) (mvT hZ (hw _ (List.mem_of_getElem? (i := 15) rfl))) (by decide) (backOf (W := 0) (rm4n l Z a0 hw [] b10 T22.heap n0 Z_23) hZ (hw _ (List.mem_of_getElem? (i := 17) rfl)) (hw _ (List.mem_of_getElem? (i := 2) rfl)) (by decide) (by decide)) q42a q42c (g := (mkF m 145 #[.val (.long q1), .second, .val (.long q2), .second, .val (.long q3), .second, .val (.long q4), .second, .val (.int p5), .val (.int (p5 &&& (3 : Int32))), .val (.int kd), .val (.long bm), .second, .val (.long bs), .second, .val (.ref b10), .val (.ref b18), .val .null, .val (.int (0 : Int32)), .unset] [.null, (.ref b10)])) rfl (by rw [hml]; rfl) (Steps.refl _) (argsL := [.null]) (rest := []) (lenOf pd__Ljava_lang_Object__Z rfl) rfl (by show 2 * 0 + _ ≤ _; exact Nat.le_of_eq rfl) (hb hby at_145) (fun _ _ => ⟨rfl, rfl, (by decide : 2 + 0 ≤ _), (by decide : 4 + 0 ≤ _)⟩)
      dsimp only [Pt.U, Pt.locs, Pt.cells, Pt.slots] at X42 l42 y42 z42 st42 hQ42
      subst l42 y42 z42
      obtain ⟨rfl, N42q, e42⟩ := hQ42
      have N42 := Fr.app N22 N42q
      have P43 : ∀ t, Steps p.tables e below (T42.setTop (mkF m 148 #[.val (.long q1), .second, .val (.long q2), .second, .val (.long q3), .second, .val (.long q4), .second, .val (.int p5), .val (.int (p5 &&& (3 : Int32))), .val (.int kd), .val (.long bm), .second, .val (.long bs), .second, .val (.ref b10), .val (.ref b18), .val .null, .val (.int (0 : Int32)), .unset] [(.int (0 : Int32))])) t → Steps p.tables e below (s₁.setTop (mkF m 0 #[.val (.long q1), .second, .val (.long q2), .second, .val (.long q3), .second, .val (.long q4), .second, .val (.int p5), .unset, .unset, .unset, .unset, .unset, .unset, .unset, .unset, .unset, .unset, .unset] [])) t := fun t k => P41 t (st42.trans k)
      have P44 : ∀ t, Steps p.tables e below (T42.setTop (mkF m 183 #[.val (.long q1), .second, .val (.long q2), .second, .val (.long q3), .second, .val (.long q4), .second, .val (.int p5), .val (.int (p5 &&& (3 : Int32))), .val (.int kd), .val (.long bm), .second, .val (.long bs), .second, .val (.ref b10), .val (.ref b18), .val .null, .val (.int (0 : Int32)), .val (.int (0 : Int32))] [(.int (1 : Int32))])) t → Steps p.tables e below (s₁.setTop (mkF m 0 #[.val (.long q1), .second, .val (.long q2), .second, .val (.long q3), .second, .val (.long q4), .second, .val (.int p5), .unset, .unset, .unset, .unset, .unset, .unset, .unset, .unset, .unset, .unset, .unset] [])) t := fun t k => by
        refine P43 t ?_
        show Steps p.tables e below (T42.setTop (mkF m 148 #[.val (.long q1), .second, .val (.long q2), .second, .val (.long q3), .second, .val (.long q4), .second, .val (.int p5), .val (.int (p5 &&& (3 : Int32))), .val (.int kd), .val (.long bm), .second, .val (.long bs), .second, .val (.ref b10), .val (.ref b18), .val .null, .val (.int (0 : Int32)), .unset] [(.int (0 : Int32))])) t
        refine XS.istore X42.here hx rfl (hb hby at_148) rfl (l' := #[.val (.long q1), .second, .val (.long q2), .second, .val (.long q3), .second, .val (.long q4), .second, .val (.int p5), .val (.int (p5 &&& (3 : Int32))), .val (.int kd), .val (.long bm), .second, .val (.long bs), .second, .val (.ref b10), .val (.ref b18), .val .null, .val (.int (0 : Int32)), .val (.int (0 : Int32))]) rfl ?_
        show Steps p.tables e below (T42.setTop (mkF m 150 #[.val (.long q1), .second, .val (.long q2), .second, .val (.long q3), .second, .val (.long q4), .second, .val (.int p5), .val (.int (p5 &&& (3 : Int32))), .val (.int kd), .val (.long bm), .second, .val (.long bs), .second, .val (.ref b10), .val (.ref b18), .val .null, .val (.int (0 : Int32)), .val (.int (0 : Int32))] [])) t
        refine XS.iload X42.here hx rfl (hb hby at_150) rfl ?_
        show Steps p.tables e below (T42.setTop (mkF m 152 #[.val (.long q1), .second, .val (.long q2), .second, .val (.long q3), .second, .val (.long q4), .second, .val (.int p5), .val (.int (p5 &&& (3 : Int32))), .val (.int kd), .val (.long bm), .second, .val (.long bs), .second, .val (.ref b10), .val (.ref b18), .val .null, .val (.int (0 : Int32)), .val (.int (0 : Int32))] [(.int (0 : Int32))])) t
        refine XS.iload X42.here hx rfl (hb hby at_152) rfl ?_
        show Steps p.tables e below (T42.setTop (mkF m 154 #[.val (.long q1), .second, .val (.long q2), .second, .val (.long q3), .second, .val (.long q4), .second, .val (.int p5), .val (.int (p5 &&& (3 : Int32))), .val (.int kd), .val (.long bm), .second, .val (.long bs), .second, .val (.ref b10), .val (.ref b18), .val .null, .val (.int (0 : Int32)), .val (.int (0 : Int32))] [(.int (0 : Int32)), (.int (0 : Int32))])) t
        refine XS.icmpYes X42.here hx rfl (pc0 := 154) (pc' := 159) rfl (hb hby at_154) rfl (teq rfl).1 (by decide) (by decide) ?_
        show Steps p.tables e below (T42.setTop (mkF m 159 #[.val (.long q1), .second, .val (.long q2), .second, .val (.long q3), .second, .val (.long q4), .second, .val (.int p5), .val (.int (p5 &&& (3 : Int32))), .val (.int kd), .val (.long bm), .second, .val (.long bs), .second, .val (.ref b10), .val (.ref b18), .val .null, .val (.int (0 : Int32)), .val (.int (0 : Int32))] [])) t
        refine XS.iload X42.here hx rfl (hb hby at_159) rfl ?_
        show Steps p.tables e below (T42.setTop (mkF m 161 #[.val (.long q1), .second, .val (.long q2), .second, .val (.long q3), .second, .val (.long q4), .second, .val (.int p5), .val (.int (p5 &&& (3 : Int32))), .val (.int kd), .val (.long bm), .second, .val (.long bs), .second, .val (.ref b10), .val (.ref b18), .val .null, .val (.int (0 : Int32)), .val (.int (0 : Int32))] [(.int kd)])) t
        refine XS.ifYes X42.here hx rfl (pc0 := 161) (pc' := 182) rfl (hb hby at_161) rfl ((if0 _ _).trans (feq hc26).2) (by decide) (by decide) ?_
        show Steps p.tables e below (T42.setTop (mkF m 182 #[.val (.long q1), .second, .val (.long q2), .second, .val (.long q3), .second, .val (.long q4), .second, .val (.int p5), .val (.int (p5 &&& (3 : Int32))), .val (.int kd), .val (.long bm), .second, .val (.long bs), .second, .val (.ref b10), .val (.ref b18), .val .null, .val (.int (0 : Int32)), .val (.int (0 : Int32))] [])) t
        refine XS.iconst X42.here hx rfl (hb hby at_182) ?_
        exact k
      obtain ⟨fs, hr, hrun, hended, hW, hsame⟩ := X42.leave (v := some (.int (1 : Int32))) (fun h => by rw [Bd.returns] at h; cases h)
      refine ⟨_, _, pre0 _ (P44 _ ?_), hrun, hended, _, _, rfl, ?_, ⟨_, rfl⟩, hW, hsame.mono (by decide) (by decide)⟩
      · exact retN X42 hx (t := .boolean) Bd.returns (by simp) (hb hby at_183) hr
      · show Q0 Z q1 q2 q3 q4 p5 wC cC h0 n0 _ T42.heap _
        rw [e42]
        exact ⟨rfl, N42⟩
    · have P45 : ∀ t, Steps p.tables e below (T22.setTop (mkF m 119 #[.val (.long q1), .second, .val (.long q2), .second, .val (.long q3), .second, .val (.long q4), .second, .val (.int p5), .val (.int (p5 &&& (3 : Int32))), .val (.int kd), .val (.long bm), .second, .val (.long bs), .second, .val (.ref b10), .val (.ref b18), .unset, .unset, .unset] [(.int (2 : Int32)), (.int kd)])) t → Steps p.tables e below (s₁.setTop (mkF m 0 #[.val (.long q1), .second, .val (.long q2), .second, .val (.long q3), .second, .val (.long q4), .second, .val (.int p5), .unset, .unset, .unset, .unset, .unset, .unset, .unset, .unset, .unset, .unset, .unset] [])) t := fun t k => by
        refine P39 t ?_
        show Steps p.tables e below (T22.setTop (mkF m 104 #[.val (.long q1), .second, .val (.long q2), .second, .val (.long q3), .second, .val (.long q4), .second, .val (.int p5), .val (.int (p5 &&& (3 : Int32))), .val (.int kd), .val (.long bm), .second, .val (.long bs), .second, .val (.ref b10), .val (.ref b18), .unset, .unset, .unset] [(.int (1 : Int32)), (.int kd)])) t
        refine XS.icmpYes X22.here hx rfl (pc0 := 104) (pc' := 116) rfl (hb hby at_104) rfl (feq hc40).2 (by decide) (by decide) ?_
        show Steps p.tables e below (T22.setTop (mkF m 116 #[.val (.long q1), .second, .val (.long q2), .second, .val (.long q3), .second, .val (.long q4), .second, .val (.int p5), .val (.int (p5 &&& (3 : Int32))), .val (.int kd), .val (.long bm), .second, .val (.long bs), .second, .val (.ref b10), .val (.ref b18), .unset, .unset, .unset] [])) t
        refine XS.iload X22.here hx rfl (hb hby at_116) rfl ?_
        show Steps p.tables e below (T22.setTop (mkF m 118 #[.val (.long q1), .second, .val (.long q2), .second, .val (.long q3), .second, .val (.long q4), .second, .val (.int p5), .val (.int (p5 &&& (3 : Int32))), .val (.int kd), .val (.long bm), .second, .val (.long bs), .second, .val (.ref b10), .val (.ref b18), .unset, .unset, .unset] [(.int kd)])) t
        refine XS.iconst X22.here hx rfl (hb hby at_118) ?_
        exact k
      by_cases hc46 : kd = (2 : Int32)
      · have P47 : ∀ t, Steps p.tables e below (T22.setTop (mkF m 123 #[.val (.long q1), .second, .val (.long q2), .second, .val (.long q3), .second, .val (.long q4), .second, .val (.int p5), .val (.int (p5 &&& (3 : Int32))), .val (.int kd), .val (.long bm), .second, .val (.long bs), .second, .val (.ref b10), .val (.ref b18), .unset, .unset, .unset] [(.long q1)])) t → Steps p.tables e below (s₁.setTop (mkF m 0 #[.val (.long q1), .second, .val (.long q2), .second, .val (.long q3), .second, .val (.long q4), .second, .val (.int p5), .unset, .unset, .unset, .unset, .unset, .unset, .unset, .unset, .unset, .unset, .unset] [])) t := fun t k => by
          refine P45 t ?_
          show Steps p.tables e below (T22.setTop (mkF m 119 #[.val (.long q1), .second, .val (.long q2), .second, .val (.long q3), .second, .val (.long q4), .second, .val (.int p5), .val (.int (p5 &&& (3 : Int32))), .val (.int kd), .val (.long bm), .second, .val (.long bs), .second, .val (.ref b10), .val (.ref b18), .unset, .unset, .unset] [(.int (2 : Int32)), (.int kd)])) t
          refine XS.icmpNo X22.here hx rfl (hb hby at_119) rfl (teq hc46).2 ?_
          show Steps p.tables e below (T22.setTop (mkF m 122 #[.val (.long q1), .second, .val (.long q2), .second, .val (.long q3), .second, .val (.long q4), .second, .val (.int p5), .val (.int (p5 &&& (3 : Int32))), .val (.int kd), .val (.long bm), .second, .val (.long bs), .second, .val (.ref b10), .val (.ref b18), .unset, .unset, .unset] [])) t
          refine XS.lloadN X22.here hx rfl (hb hby at_122) rfl ?_
          exact k
        obtain ⟨_, _, ⟨T48, L48, k48, n48⟩, -, X48, ⟨Lc48, hQ48, l48, y48, z48⟩, st48⟩ := Jvm.LawKit.callS X22 hx (y := (⟨"java/lang/Long", "valueOf", "(J)Ljava/lang/Long;"⟩ : MethodName)) hown (mvT hZ (hw _ (List.mem_of_getElem? (i := 20) rfl))) (mvT hZ (hw _ (List.mem_of_getElem? (i := 21) rfl))) (mvT hZ (hw _ (List.mem_of_getElem? (i := 22) rfl))) (mvT hZ (hw _ (List.mem_of_getElem? (i := 23) rfl))) (by decide) (backOf (W := 0) (rm_vo l Z a0 hw [] q1 wC cC T22.heap n0 Z_23 OL_22 S_cache BX) hZ (hw _ (List.mem_of_getElem? (i := 23) rfl)) (hw _ (List.mem_of_getElem? (i := 22) rfl)) (by decide) (by decide)) (g := (mkF m 123 #[.val (.long q1), .second, .val (.long q2), .second, .val (.long q3), .second, .val (.long q4), .second, .val (.int p5), .val (.int (p5 &&& (3 : Int32))), .val (.int kd), .val (.long bm), .second, .val (.long bs), .second, .val (.ref b10), .val (.ref b18), .unset, .unset, .unset] [(.long q1)])) rfl (by rw [hml]; rfl) (argsL := [(.long q1)]) (rest := []) (lenOf pd__J_Ljava_lang_Long_ rfl) rfl (by show 2 * 0 + _ ≤ _; exact Nat.le_of_eq rfl) (hb hby at_123) (fun _ _ => ⟨rfl, rfl, (by decide : 2 + 1 ≤ _), (by decide : 4 + 1 ≤ _)⟩)
        dsimp only [Pt.U, Pt.locs, Pt.cells, Pt.slots] at X48 l48 y48 z48 st48 hQ48
        subst l48 y48 z48
        obtain ⟨bi48, rfl, N48q, K48, E48x⟩ := hQ48
        have OL_48 := OL_22.keep K48 all0
        have A10_48 := A10_22.keep K48
        have F14x_48 := F14x_22.keep K48 nin0
        have G14x_48 := G14x_22.keep K48 nin0
        have A18_48 := A18_22.keep K48
        have F22x_48 := F22x.keep K48 nin0
        have G22x_48 := G22x.keep K48 nin0
        have Z_49 : n0 ≤ T48.heap.size := Nat.le_trans Z_23 K48.1
        have N48 := Fr.app N22 N48q
        have P50 : ∀ t, Steps p.tables e below (T48.setTop (mkF m 126 #[.val (.long q1), .second, .val (.long q2), .second, .val (.long q3), .second, .val (.long q4), .second, .val (.int p5), .val (.int (p5 &&& (3 : Int32))), .val (.int kd), .val (.long bm), .second, .val (.long bs), .second, .val (.ref b10), .val (.ref b18), .unset, .unset, .unset] [(.ref bi48)])) t → Steps p.tables e below (s₁.setTop (mkF m 0 #[.val (.long q1), .second, .val (.long q2), .second, .val (.long q3), .second, .val (.long q4), .second, .val (.int p5), .unset, .unset, .unset, .unset, .unset, .unset, .unset, .unset, .unset, .unset, .unset] [])) t := fun t k => P47 t (st48 _ k)
        have P51 : ∀ t, Steps p.tables e below (T48.setTop (mkF m 145 #[.val (.long q1), .second, .val (.long q2), .second, .val (.long q3), .second, .val (.long q4), .second, .val (.int p5), .val (.int (p5 &&& (3 : Int32))), .val (.int kd), .val (.long bm), .second, .val (.long bs), .second, .val (.ref b10), .val (.ref b18), .val (.ref bi48), .val (.int (0 : Int32)), .unset] [(.ref bi48), (.ref b10)])) t → Steps p.tables e below (s₁.setTop (mkF m 0 #[.val (.long q1), .second, .val (.long q2), .second, .val (.long q3), .second, .val (.long q4), .second, .val (.int p5), .unset, .unset, .unset, .unset, .unset, .unset, .unset, .unset, .unset, .unset, .unset] [])) t := fun t k => by
          refine P50 t ?_
          show Steps p.tables e below (T48.setTop (mkF m 126 #[.val (.long q1), .second, .val (.long q2), .second, .val (.long q3), .second, .val (.long q4), .second, .val (.int p5), .val (.int (p5 &&& (3 : Int32))), .val (.int kd), .val (.long bm), .second, .val (.long bs), .second, .val (.ref b10), .val (.ref b18), .unset, .unset, .unset] [(.ref bi48)])) t
          refine XS.astore X48.here hx rfl (hb hby at_126) rfl rfl (l' := #[.val (.long q1), .second, .val (.long q2), .second, .val (.long q3), .second, .val (.long q4), .second, .val (.int p5), .val (.int (p5 &&& (3 : Int32))), .val (.int kd), .val (.long bm), .second, .val (.long bs), .second, .val (.ref b10), .val (.ref b18), .val (.ref bi48), .unset, .unset]) rfl ?_
          show Steps p.tables e below (T48.setTop (mkF m 128 #[.val (.long q1), .second, .val (.long q2), .second, .val (.long q3), .second, .val (.long q4), .second, .val (.int p5), .val (.int (p5 &&& (3 : Int32))), .val (.int kd), .val (.long bm), .second, .val (.long bs), .second, .val (.ref b10), .val (.ref b18), .val (.ref bi48), .unset, .unset] [])) t
          refine XS.iconst X48.here hx rfl (hb hby at_128) ?_
          show Steps p.tables e below (T48.setTop (mkF m 129 #[.val (.long q1), .second, .val (.long q2), .second, .val (.long q3), .second, .val (.long q4), .second, .val (.int p5), .val (.int (p5 &&& (3 : Int32))), .val (.int kd), .val (.long bm), .second, .val (.long bs), .second, .val (.ref b10), .val (.ref b18), .val (.ref bi48), .unset, .unset] [(.int (0 : Int32))])) t
          refine XS.istore X48.here hx rfl (hb hby at_129) rfl (l' := #[.val (.long q1), .second, .val (.long q2), .second, .val (.long q3), .second, .val (.long q4), .second, .val (.int p5), .val (.int (p5 &&& (3 : Int32))), .val (.int kd), .val (.long bm), .second, .val (.long bs), .second, .val (.ref b10), .val (.ref b18), .val (.ref bi48), .val (.int (0 : Int32)), .unset]) rfl ?_
          show Steps p.tables e below (T48.setTop (mkF m 131 #[.val (.long q1), .second, .val (.long q2), .second, .val (.long q3), .second, .val (.long q4), .second, .val (.int p5), .val (.int (p5 &&& (3 : Int32))), .val (.int kd), .val (.long bm), .second, .val (.long bs), .second, .val (.ref b10), .val (.ref b18), .val (.ref bi48), .val (.int (0 : Int32)), .unset] [])) t
          refine XS.goto X48.here hx rfl (pc0 := 131) (pc' := 141) rfl (hb hby at_131) (by decide) (by decide) ?_
          show Steps p.tables e below (T48.setTop (mkF m 141 #[.val (.long q1), .second, .val (.long q2), .second, .val (.long q3), .second, .val (.long q4), .second, .val (.int p5), .val (.int (p5 &&& (3 : Int32))), .val (.int kd), .val (.long bm), .second, .val (.long bs), .second, .val (.ref b10), .val (.ref b18), .val (.ref bi48), .val (.int (0 : Int32)), .unset] [])) t
          refine XS.aload X48.here hx rfl (hb hby at_141) rfl rfl ?_
          show Steps p.tables e below (T48.setTop (mkF m 143 #[.val (.long q1), .second, .val (.long q2), .second, .val (.long q3), .second, .val (.long q4), .second, .val (.int p5), .val (.int (p5 &&& (3 : Int32))), .val (.int kd), .val (.long bm), .second, .val (.long bs), .second, .val (.ref b10), .val (.ref b18), .val (.ref bi48), .val (.int (0 : Int32)), .unset] [(.ref b10)])) t
          refine XS.aload X48.here hx rfl (hb hby at_143) rfl rfl ?_
          exact k
        obtain ⟨cq52, kq52, q52a, q52b, q52c⟩ := isOf hZ rfl A10_48
        obtain ⟨_, _, ⟨T52, L52, k52, n52⟩, -, X52, ⟨Lc52, hQ52, l52, y52, z52⟩, st52⟩ := X48.virtualBack hx (y := (⟨"com/example/tidy_expiry/tidyexpiry/keyspace/StreamId", "equals", "(Ljava/lang/Object;)Z"⟩ : MethodName)) (z := (⟨"com/example/tidy_expiry/tidyexpiry/keyspace/StreamId", "equals", "(Ljava/lang/Object;)Z"⟩ : MethodName)) hown (mvT hZ (hw _ (List.mem_of_getElem? (i := 13) rfl))) (mvT hZ (hw _ (List.mem_of_getElem? (i := 14) rfl))) (notFace_of_selects (args := #[]) (mvT hZ (hw _ (List.mem_of_getElem? (i := 16) rfl)))) (mvT hZ (hw _ (List.mem_of_getElem? (i := 16) rfl))) (mvT hZ (hw _ (List.mem_of_getElem? (i := 15) rfl))) (by decide) (backOf (W := 0) (rm4i l Z a0 hw [] b10 bi48 T48.heap n0 Z_49 E48x) hZ (hw _ (List.mem_of_getElem? (i := 17) rfl)) (hw _ (List.mem_of_getElem? (i := 2) rfl)) (by decide) (by decide)) q52a q52c (g := (mkF m 145 #[.val (.long q1), .second, .val (.long q2), .second, .val (.long q3), .second, .val (.long q4), .second, .val (.int p5), .val (.int (p5 &&& (3 : Int32))), .val (.int kd), .val (.long bm), .second, .val (.long bs), .second, .val (.ref b10), .val (.ref b18), .val (.ref bi48), .val (.int (0 : Int32)), .unset] [(.ref bi48), (.ref b10)])) rfl (by rw [hml]; rfl) (Steps.refl _) (argsL := [(.ref bi48)]) (rest := []) (lenOf pd__Ljava_lang_Object__Z rfl) rfl (by show 2 * 0 + _ ≤ _; exact Nat.le_of_eq rfl) (hb hby at_145) (fun _ _ => ⟨rfl, rfl, (by decide : 3 + 0 ≤ _), (by decide : 5 + 0 ≤ _)⟩)
        dsimp only [Pt.U, Pt.locs, Pt.cells, Pt.slots] at X52 l52 y52 z52 st52 hQ52
        subst l52 y52 z52
        obtain ⟨rfl, N52q, e52⟩ := hQ52
        have N52 := Fr.app N48 N52q
        have P53 : ∀ t, Steps p.tables e below (T52.setTop (mkF m 148 #[.val (.long q1), .second, .val (.long q2), .second, .val (.long q3), .second, .val (.long q4), .second, .val (.int p5), .val (.int (p5 &&& (3 : Int32))), .val (.int kd), .val (.long bm), .second, .val (.long bs), .second, .val (.ref b10), .val (.ref b18), .val (.ref bi48), .val (.int (0 : Int32)), .unset] [(.int (0 : Int32))])) t → Steps p.tables e below (s₁.setTop (mkF m 0 #[.val (.long q1), .second, .val (.long q2), .second, .val (.long q3), .second, .val (.long q4), .second, .val (.int p5), .unset, .unset, .unset, .unset, .unset, .unset, .unset, .unset, .unset, .unset, .unset] [])) t := fun t k => P51 t (st52.trans k)
        have P54 : ∀ t, Steps p.tables e below (T52.setTop (mkF m 183 #[.val (.long q1), .second, .val (.long q2), .second, .val (.long q3), .second, .val (.long q4), .second, .val (.int p5), .val (.int (p5 &&& (3 : Int32))), .val (.int kd), .val (.long bm), .second, .val (.long bs), .second, .val (.ref b10), .val (.ref b18), .val (.ref bi48), .val (.int (0 : Int32)), .val (.int (0 : Int32))] [(.int (1 : Int32))])) t → Steps p.tables e below (s₁.setTop (mkF m 0 #[.val (.long q1), .second, .val (.long q2), .second, .val (.long q3), .second, .val (.long q4), .second, .val (.int p5), .unset, .unset, .unset, .unset, .unset, .unset, .unset, .unset, .unset, .unset, .unset] [])) t := fun t k => by
          refine P53 t ?_
          show Steps p.tables e below (T52.setTop (mkF m 148 #[.val (.long q1), .second, .val (.long q2), .second, .val (.long q3), .second, .val (.long q4), .second, .val (.int p5), .val (.int (p5 &&& (3 : Int32))), .val (.int kd), .val (.long bm), .second, .val (.long bs), .second, .val (.ref b10), .val (.ref b18), .val (.ref bi48), .val (.int (0 : Int32)), .unset] [(.int (0 : Int32))])) t
          refine XS.istore X52.here hx rfl (hb hby at_148) rfl (l' := #[.val (.long q1), .second, .val (.long q2), .second, .val (.long q3), .second, .val (.long q4), .second, .val (.int p5), .val (.int (p5 &&& (3 : Int32))), .val (.int kd), .val (.long bm), .second, .val (.long bs), .second, .val (.ref b10), .val (.ref b18), .val (.ref bi48), .val (.int (0 : Int32)), .val (.int (0 : Int32))]) rfl ?_
          show Steps p.tables e below (T52.setTop (mkF m 150 #[.val (.long q1), .second, .val (.long q2), .second, .val (.long q3), .second, .val (.long q4), .second, .val (.int p5), .val (.int (p5 &&& (3 : Int32))), .val (.int kd), .val (.long bm), .second, .val (.long bs), .second, .val (.ref b10), .val (.ref b18), .val (.ref bi48), .val (.int (0 : Int32)), .val (.int (0 : Int32))] [])) t
          refine XS.iload X52.here hx rfl (hb hby at_150) rfl ?_
          show Steps p.tables e below (T52.setTop (mkF m 152 #[.val (.long q1), .second, .val (.long q2), .second, .val (.long q3), .second, .val (.long q4), .second, .val (.int p5), .val (.int (p5 &&& (3 : Int32))), .val (.int kd), .val (.long bm), .second, .val (.long bs), .second, .val (.ref b10), .val (.ref b18), .val (.ref bi48), .val (.int (0 : Int32)), .val (.int (0 : Int32))] [(.int (0 : Int32))])) t
          refine XS.iload X52.here hx rfl (hb hby at_152) rfl ?_
          show Steps p.tables e below (T52.setTop (mkF m 154 #[.val (.long q1), .second, .val (.long q2), .second, .val (.long q3), .second, .val (.long q4), .second, .val (.int p5), .val (.int (p5 &&& (3 : Int32))), .val (.int kd), .val (.long bm), .second, .val (.long bs), .second, .val (.ref b10), .val (.ref b18), .val (.ref bi48), .val (.int (0 : Int32)), .val (.int (0 : Int32))] [(.int (0 : Int32)), (.int (0 : Int32))])) t
          refine XS.icmpYes X52.here hx rfl (pc0 := 154) (pc' := 159) rfl (hb hby at_154) rfl (teq rfl).1 (by decide) (by decide) ?_
          show Steps p.tables e below (T52.setTop (mkF m 159 #[.val (.long q1), .second, .val (.long q2), .second, .val (.long q3), .second, .val (.long q4), .second, .val (.int p5), .val (.int (p5 &&& (3 : Int32))), .val (.int kd), .val (.long bm), .second, .val (.long bs), .second, .val (.ref b10), .val (.ref b18), .val (.ref bi48), .val (.int (0 : Int32)), .val (.int (0 : Int32))] [])) t
          refine XS.iload X52.here hx rfl (hb hby at_159) rfl ?_
          show Steps p.tables e below (T52.setTop (mkF m 161 #[.val (.long q1), .second, .val (.long q2), .second, .val (.long q3), .second, .val (.long q4), .second, .val (.int p5), .val (.int (p5 &&& (3 : Int32))), .val (.int kd), .val (.long bm), .second, .val (.long bs), .second, .val (.ref b10), .val (.ref b18), .val (.ref bi48), .val (.int (0 : Int32)), .val (.int (0 : Int32))] [(.int kd)])) t
          refine XS.ifYes X52.here hx rfl (pc0 := 161) (pc' := 182) rfl (hb hby at_161) rfl ((if0 _ _).trans (feq hc26).2) (by decide) (by decide) ?_
          show Steps p.tables e below (T52.setTop (mkF m 182 #[.val (.long q1), .second, .val (.long q2), .second, .val (.long q3), .second, .val (.long q4), .second, .val (.int p5), .val (.int (p5 &&& (3 : Int32))), .val (.int kd), .val (.long bm), .second, .val (.long bs), .second, .val (.ref b10), .val (.ref b18), .val (.ref bi48), .val (.int (0 : Int32)), .val (.int (0 : Int32))] [])) t
          refine XS.iconst X52.here hx rfl (hb hby at_182) ?_
          exact k
        obtain ⟨fs, hr, hrun, hended, hW, hsame⟩ := X52.leave (v := some (.int (1 : Int32))) (fun h => by rw [Bd.returns] at h; cases h)
        refine ⟨_, _, pre0 _ (P54 _ ?_), hrun, hended, _, _, rfl, ?_, ⟨_, rfl⟩, hW, hsame.mono (by decide) (by decide)⟩
        · exact retN X52 hx (t := .boolean) Bd.returns (by simp) (hb hby at_183) hr
        · show Q0 Z q1 q2 q3 q4 p5 wC cC h0 n0 _ T52.heap _
          rw [e52]
          exact ⟨rfl, N52⟩
      · have P55 : ∀ t, Steps p.tables e below (T22.setTop (mkF m 145 #[.val (.long q1), .second, .val (.long q2), .second, .val (.long q3), .second, .val (.long q4), .second, .val (.int p5), .val (.int (p5 &&& (3 : Int32))), .val (.int kd), .val (.long bm), .second, .val (.long bs), .second, .val (.ref b10), .val (.ref b18), .val (.ref b10), .val (.int (1 : Int32)), .unset] [(.ref b10), (.ref b10)])) t → Steps p.tables e below (s₁.setTop (mkF m 0 #[.val (.long q1), .second, .val (.long q2), .second, .val (.long q3), .second, .val (.long q4), .second, .val (.int p5), .unset, .unset, .unset, .unset, .unset, .unset, .unset, .unset, .unset, .unset, .unset] [])) t := fun t k => by
          refine P45 t ?_
          show Steps p.tables e below (T22.setTop (mkF m 119 #[.val (.long q1), .second, .val (.long q2), .second, .val (.long q3), .second, .val (.long q4), .second, .val (.int p5), .val (.int (p5 &&& (3 : Int32))), .val (.int kd), .val (.long bm), .second, .val (.long bs), .second, .val (.ref b10), .val (.ref b18), .unset, .unset, .unset] [(.int (2 : Int32)), (.int kd)])) t
          refine XS.icmpYes X22.here hx rfl (pc0 := 119) (pc' := 134) rfl (hb hby at_119) rfl (feq hc46).2 (by decide) (by decide) ?_
          show Steps p.tables e below (T22.setTop (mkF m 134 #[.val (.long q1), .second, .val (.long q2), .second, .val (.long q3), .second, .val (.long q4), .second, .val (.int p5), .val (.int (p5 &&& (3 : Int32))), .val (.int kd), .val (.long bm), .second, .val (.long bs), .second, .val (.ref b10), .val (.ref b18), .unset, .unset, .unset] [])) t
          refine XS.aload X22.here hx rfl (hb hby at_134) rfl rfl ?_
          show Steps p.tables e below (T22.setTop (mkF m 136 #[.val (.long q1), .second, .val (.long q2), .second, .val (.long q3), .second, .val (.long q4), .second, .val (.int p5), .val (.int (p5 &&& (3 : Int32))), .val (.int kd), .val (.long bm), .second, .val (.long bs), .second, .val (.ref b10), .val (.ref b18), .unset, .unset, .unset] [(.ref b10)])) t
          refine XS.astore X22.here hx rfl (hb hby at_136) rfl rfl (l' := #[.val (.long q1), .second, .val (.long q2), .second, .val (.long q3), .second, .val (.long q4), .second, .val (.int p5), .val (.int (p5 &&& (3 : Int32))), .val (.int kd), .val (.long bm), .second, .val (.long bs), .second, .val (.ref b10), .val (.ref b18), .val (.ref b10), .unset, .unset]) rfl ?_
          show Steps p.tables e below (T22.setTop (mkF m 138 #[.val (.long q1), .second, .val (.long q2), .second, .val (.long q3), .second, .val (.long q4), .second, .val (.int p5), .val (.int (p5 &&& (3 : Int32))), .val (.int kd), .val (.long bm), .second, .val (.long bs), .second, .val (.ref b10), .val (.ref b18), .val (.ref b10), .unset, .unset] [])) t
          refine XS.iconst X22.here hx rfl (hb hby at_138) ?_
          show Steps p.tables e below (T22.setTop (mkF m 139 #[.val (.long q1), .second, .val (.long q2), .second, .val (.long q3), .second, .val (.long q4), .second, .val (.int p5), .val (.int (p5 &&& (3 : Int32))), .val (.int kd), .val (.long bm), .second, .val (.long bs), .second, .val (.ref b10), .val (.ref b18), .val (.ref b10), .unset, .unset] [(.int (1 : Int32))])) t
          refine XS.istore X22.here hx rfl (hb hby at_139) rfl (l' := #[.val (.long q1), .second, .val (.long q2), .second, .val (.long q3), .second, .val (.long q4), .second, .val (.int p5), .val (.int (p5 &&& (3 : Int32))), .val (.int kd), .val (.long bm), .second, .val (.long bs), .second, .val (.ref b10), .val (.ref b18), .val (.ref b10), .val (.int (1 : Int32)), .unset]) rfl ?_
          show Steps p.tables e below (T22.setTop (mkF m 141 #[.val (.long q1), .second, .val (.long q2), .second, .val (.long q3), .second, .val (.long q4), .second, .val (.int p5), .val (.int (p5 &&& (3 : Int32))), .val (.int kd), .val (.long bm), .second, .val (.long bs), .second, .val (.ref b10), .val (.ref b18), .val (.ref b10), .val (.int (1 : Int32)), .unset] [])) t
          refine XS.aload X22.here hx rfl (hb hby at_141) rfl rfl ?_
          show Steps p.tables e below (T22.setTop (mkF m 143 #[.val (.long q1), .second, .val (.long q2), .second, .val (.long q3), .second, .val (.long q4), .second, .val (.int p5), .val (.int (p5 &&& (3 : Int32))), .val (.int kd), .val (.long bm), .second, .val (.long bs), .second, .val (.ref b10), .val (.ref b18), .val (.ref b10), .val (.int (1 : Int32)), .unset] [(.ref b10)])) t
          refine XS.aload X22.here hx rfl (hb hby at_143) rfl rfl ?_
          exact k
        obtain ⟨cq56, kq56, q56a, q56b, q56c⟩ := isOf hZ rfl A10_22
        obtain ⟨_, _, ⟨T56, L56, k56, n56⟩, -, X56, ⟨Lc56, hQ56, l56, y56, z56⟩, st56⟩ := X22.virtualBack hx (y := (⟨"com/example/tidy_expiry/tidyexpiry/keyspace/StreamId", "equals", "(Ljava/lang/Object;)Z"⟩ : MethodName)) (z := (⟨"com/example/tidy_expiry/tidyexpiry/keyspace/StreamId", "equals", "(Ljava/lang/Object;)Z"⟩ : MethodName)) hown (mvT hZ (hw _ (List.mem_of_getElem? (i := 13) rfl))) (mvT hZ (hw _ (List.mem_of_getElem? (i := 14) rfl))) (notFace_of_selects (args := #[]) (mvT hZ (hw _ (List.mem_of_getElem? (i := 16) rfl)))) (mvT hZ (hw _ (List.mem_of_getElem? (i := 16) rfl))) (mvT hZ (hw _ (List.mem_of_getElem? (i := 15) rfl))) (by decide) (backOf (W := 0) (rm4h l Z a0 hw [] b10 b10 q1 q2 q1 q2 T22.heap n0 Z_23 F14x_22 G14x_22 F14x_22 G14x_22 A10_22) hZ (hw _ (List.mem_of_getElem? (i := 17) rfl)) (hw _ (List.mem_of_getElem? (i := 2) rfl)) (by decide) (by decide)) q56a q56c (g := (mkF m 145 #[.val (.long q1), .second, .val (.long q2), .second, .val (.long q3), .second, .val (.long q4), .second, .val (.int p5), .val (.int (p5 &&& (3 : Int32))), .val (.int kd), .val (.long bm), .second, .val (.long bs), .second, .val (.ref b10), .val (.ref b18), .val (.ref b10), .val (.int (1 : Int32)), .unset] [(.ref b10), (.ref b10)])) rfl (by rw [hml]; rfl) (Steps.refl _) (argsL := [(.ref b10)]) (rest := []) (lenOf pd__Ljava_lang_Object__Z rfl) rfl (by show 2 * 0 + _ ≤ _; exact Nat.le_of_eq rfl) (hb hby at_145) (fun _ _ => ⟨rfl, rfl, (by decide : 2 + 0 ≤ _), (by decide : 4 + 0 ≤ _)⟩)
        dsimp only [Pt.U, Pt.locs, Pt.cells, Pt.slots] at X56 l56 y56 z56 st56 hQ56
        subst l56 y56 z56
        obtain ⟨rfl, N56q, e56⟩ := hQ56
        have N56 := Fr.app N22 N56q
        have P57 : ∀ t, Steps p.tables e below (T56.setTop (mkF m 148 #[.val (.long q1), .second, .val (.long q2), .second, .val (.long q3), .second, .val (.long q4), .second, .val (.int p5), .val (.int (p5 &&& (3 : Int32))), .val (.int kd), .val (.long bm), .second, .val (.long bs), .second, .val (.ref b10), .val (.ref b18), .val (.ref b10), .val (.int (1 : Int32)), .unset] [(.int (own_eq q1 q2 q1 q2))])) t → Steps p.tables e below (s₁.setTop (mkF m 0 #[.val (.long q1), .second, .val (.long q2), .second, .val (.long q3), .second, .val (.long q4), .second, .val (.int p5), .unset, .unset, .unset, .unset, .unset, .unset, .unset, .unset, .unset, .unset, .unset] [])) t := fun t k => P55 t (st56.trans k)
        have P58 : ∀ t, Steps p.tables e below (T56.setTop (mkF m 183 #[.val (.long q1), .second, .val (.long q2), .second, .val (.long q3), .second, .val (.long q4), .second, .val (.int p5), .val (.int (p5 &&& (3 : Int32))), .val (.int kd), .val (.long bm), .second, .val (.long bs), .second, .val (.ref b10), .val (.ref b18), .val (.ref b10), .val (.int (1 : Int32)), .val (.int (own_eq q1 q2 q1 q2))] [(.int (1 : Int32))])) t → Steps p.tables e below (s₁.setTop (mkF m 0 #[.val (.long q1), .second, .val (.long q2), .second, .val (.long q3), .second, .val (.long q4), .second, .val (.int p5), .unset, .unset, .unset, .unset, .unset, .unset, .unset, .unset, .unset, .unset, .unset] [])) t := fun t k => by
          refine P57 t ?_
          show Steps p.tables e below (T56.setTop (mkF m 148 #[.val (.long q1), .second, .val (.long q2), .second, .val (.long q3), .second, .val (.long q4), .second, .val (.int p5), .val (.int (p5 &&& (3 : Int32))), .val (.int kd), .val (.long bm), .second, .val (.long bs), .second, .val (.ref b10), .val (.ref b18), .val (.ref b10), .val (.int (1 : Int32)), .unset] [(.int (own_eq q1 q2 q1 q2))])) t
          refine XS.istore X56.here hx rfl (hb hby at_148) rfl (l' := #[.val (.long q1), .second, .val (.long q2), .second, .val (.long q3), .second, .val (.long q4), .second, .val (.int p5), .val (.int (p5 &&& (3 : Int32))), .val (.int kd), .val (.long bm), .second, .val (.long bs), .second, .val (.ref b10), .val (.ref b18), .val (.ref b10), .val (.int (1 : Int32)), .val (.int (own_eq q1 q2 q1 q2))]) rfl ?_
          show Steps p.tables e below (T56.setTop (mkF m 150 #[.val (.long q1), .second, .val (.long q2), .second, .val (.long q3), .second, .val (.long q4), .second, .val (.int p5), .val (.int (p5 &&& (3 : Int32))), .val (.int kd), .val (.long bm), .second, .val (.long bs), .second, .val (.ref b10), .val (.ref b18), .val (.ref b10), .val (.int (1 : Int32)), .val (.int (own_eq q1 q2 q1 q2))] [])) t
          refine XS.iload X56.here hx rfl (hb hby at_150) rfl ?_
          show Steps p.tables e below (T56.setTop (mkF m 152 #[.val (.long q1), .second, .val (.long q2), .second, .val (.long q3), .second, .val (.long q4), .second, .val (.int p5), .val (.int (p5 &&& (3 : Int32))), .val (.int kd), .val (.long bm), .second, .val (.long bs), .second, .val (.ref b10), .val (.ref b18), .val (.ref b10), .val (.int (1 : Int32)), .val (.int (own_eq q1 q2 q1 q2))] [(.int (own_eq q1 q2 q1 q2))])) t
          refine XS.iload X56.here hx rfl (hb hby at_152) rfl ?_
          show Steps p.tables e below (T56.setTop (mkF m 154 #[.val (.long q1), .second, .val (.long q2), .second, .val (.long q3), .second, .val (.long q4), .second, .val (.int p5), .val (.int (p5 &&& (3 : Int32))), .val (.int kd), .val (.long bm), .second, .val (.long bs), .second, .val (.ref b10), .val (.ref b18), .val (.ref b10), .val (.int (1 : Int32)), .val (.int (own_eq q1 q2 q1 q2))] [(.int (1 : Int32)), (.int (own_eq q1 q2 q1 q2))])) t
          refine XS.icmpYes X56.here hx rfl (pc0 := 154) (pc' := 159) rfl (hb hby at_154) rfl (teq (own_eq_self q1 q2)).1 (by decide) (by decide) ?_
          show Steps p.tables e below (T56.setTop (mkF m 159 #[.val (.long q1), .second, .val (.long q2), .second, .val (.long q3), .second, .val (.long q4), .second, .val (.int p5), .val (.int (p5 &&& (3 : Int32))), .val (.int kd), .val (.long bm), .second, .val (.long bs), .second, .val (.ref b10), .val (.ref b18), .val (.ref b10), .val (.int (1 : Int32)), .val (.int (own_eq q1 q2 q1 q2))] [])) t
          refine XS.iload X56.here hx rfl (hb hby at_159) rfl ?_
          show Steps p.tables e below (T56.setTop (mkF m 161 #[.val (.long q1), .second, .val (.long q2), .second, .val (.long q3), .second, .val (.long q4), .second, .val (.int p5), .val (.int (p5 &&& (3 : Int32))), .val (.int kd), .val (.long bm), .second, .val (.long bs), .second, .val (.ref b10), .val (.ref b18), .val (.ref b10), .val (.int (1 : Int32)), .val (.int (own_eq q1 q2 q1 q2))] [(.int kd)])) t
          refine XS.ifYes X56.here hx rfl (pc0 := 161) (pc' := 182) rfl (hb hby at_161) rfl ((if0 _ _).trans (feq hc26).2) (by decide) (by decide) ?_
          show Steps p.tables e below (T56.setTop (mkF m 182 #[.val (.long q1), .second, .val (.long q2), .second, .val (.long q3), .second, .val (.long q4), .second, .val (.int p5), .val (.int (p5 &&& (3 : Int32))), .val (.int kd), .val (.long bm), .second, .val (.long bs), .second, .val (.ref b10), .val (.ref b18), .val (.ref b10), .val (.int (1 : Int32)), .val (.int (own_eq q1 q2 q1 q2))] [])) t
          refine XS.iconst X56.here hx rfl (hb hby at_182) ?_
          exact k
        obtain ⟨fs, hr, hrun, hended, hW, hsame⟩ := X56.leave (v := some (.int (1 : Int32))) (fun h => by rw [Bd.returns] at h; cases h)
        refine ⟨_, _, pre0 _ (P58 _ ?_), hrun, hended, _, _, rfl, ?_, ⟨_, rfl⟩, hW, hsame.mono (by decide) (by decide)⟩
        · exact retN X56 hx (t := .boolean) Bd.returns (by simp) (hb hby at_183) hr
        · show Q0 Z q1 q2 q3 q4 p5 wC cC h0 n0 _ T56.heap _
          rw [e56]
          exact ⟨rfl, N56⟩
set_option maxRecDepth 65536 in
set_option maxHeartbeats 40000000 in
theorem comes_1 {Post : Tables → Env → Array Value → State → Outcome → State → Prop} (hpost : ∀ tb e args s v u, (limb_1_1.after args s (.returned v) u = true ∧ limb_1_2.after args s (.returned v) u = true ∧ True) → FrameEnd s (.returned v) u (Jvm.fieldLocs frame_1_writes args s ++ Jvm.arrayLocs frame_1_arrays args s ++ Jvm.staticLocs frame_1_statics s) 16 128 → Post tb e args s (.returned v) u) :
    ArmFor flags0 classFile x code maxLocals ret World_1 tables_1 room_1 Calls_1 rest_1 Pre_1 Post := by
  intro l hfl _ _ p e ha hc hk s m args below hf hA hF happ hP
  obtain ⟨hcalls, hrest, hpre⟩ := hP
  obtain ⟨-, -, -, hnamed, -, -, -, hat⟩ := (Spec.applies_iff hf).mp happ
  obtain ⟨hg, hn⟩ := and_e (Cond.before_iff.mp (show (Jvm.Cond.and given_1 narrow_1).before args s = true from hpre))
  obtain ⟨gc, gr0⟩ := and_e hg
  obtain ⟨ga0, gr1⟩ := and_e gr0
  obtain ⟨ga1, gr2⟩ := and_e gr1
  obtain ⟨ga2, gr3⟩ := and_e gr2
  obtain ⟨ga3, gr4⟩ := and_e gr3
  have ga4 := gr4
  obtain ⟨w0, w1, w2, w3, w4, rfl⟩ : ∃ w0 w1 w2 w3 w4 : Value, args = #[w0, w1, w2, w3, w4] := by
    have hs : args.size = 5 := by simpa [Cond.value, given_1] using gc
    obtain ⟨L⟩ := args
    match L, hs with
    | [w0, w1, w2, w3, w4], _ => exact ⟨w0, w1, w2, w3, w4, rfl⟩
  have hw := fun d (hd : d ∈ tables_1) => atoms_spec (ws := Jvm.Cond.code x code maxLocals ret :: tables_1) hat d (List.mem_cons_of_mem _ hd)
  have hfit : Fit s := fun {y c} hc i hi => by
    obtain ⟨ha, rfl⟩ := Array.getElem?_eq_some_iff.mp hc
    have q := List.all_eq_true.mp ((Array.all_eq_true_iff_forall_mem.mp hF) _ (Array.getElem_mem ha)) i (List.mem_range.mpr hi)
    simpa [Array.getElem?_eq_getElem hi] using q
  obtain ⟨i0, ei0⟩ := isL_v ga0
  obtain rfl : w0 = (.long i0) := Option.some.inj ei0
  obtain ⟨i1, ei1⟩ := isL_v ga1
  obtain rfl : w1 = (.long i1) := Option.some.inj ei1
  obtain ⟨i2, ei2⟩ := isL_v ga2
  obtain rfl : w2 = (.long i2) := Option.some.inj ei2
  obtain ⟨i3, ei3⟩ := isL_v ga3
  obtain rfl : w3 = (.long i3) := Option.some.inj ei3
  obtain ⟨i4, ei4⟩ := is_v ga4
  obtain rfl : w4 = (.int i4) := Option.some.inj ei4
  obtain ⟨hsets, hown0⟩ := atoms_of _ (rest_1_c_eq ▸ (show rest_1_c.before _ s = true from hrest))
  obtain ⟨wC, evC⟩ := exa_v (Cond.before_iff.mp (hsets _ (List.mem_of_getElem? (i := 3) rfl)))
  have S_cache := Sta.start evC (Or.inr ⟨(hw _ (List.mem_of_getElem? (i := 45) rfl)), (hsets _ (List.mem_of_getElem? (i := 0) rfl))⟩)
  obtain ⟨cC, AC⟩ := Arr.start evC (Cond.before_iff.mp (hsets _ (List.mem_of_getElem? (i := 2) rfl)))
  have eL := eqv_i (Term.int_eval _) (Cond.before_iff.mp (hsets _ (List.mem_of_getElem? (i := 4) rfl)))
  have aAt := AC.fin (Vm.Alike.refl _)
  have hsz : cC.slots.size < 2 ^ 31 := own_len evC aAt eL
  have hzl : cC.slots.size.toInt32 = 256 := Value.int.inj (Option.some.inj ((len_f evC aAt hsz).symm.trans eL))
  have BX : Bxs s wC cC "java/lang/Long" "J" (256 : Int32) (fun j => .long (j - 128).toInt64) := Bxs.start (fun idx => evC) AC hsz hzl (by decide) (Cond.before_iff.mp (hsets _ (List.mem_of_getElem? (i := 5) rfl))) (fun X j hj h => eqv_l (i2l_at (Term.sub_int (idx_at hj) (Term.int_eval _))) h)
  obtain ⟨n, o, h1, h2, h3, _, L, rfl, ⟨rfl, N⟩, hq⟩ := rm0 l s _ hw tables_1 i0 i1 i2 i3 i4 wC cC s.heap s.heap.size (Nat.le_refl _) (Old.start s) S_cache BX p e ha hc hk s m _ below hf ((Spec.applies_iff_loose hf).mp happ).1 ⟨rfl, State.Warmed39.refl s, rfl⟩ trivial
  refine ⟨n, _, h1, h2, h3, hpost _ _ _ _ _ _ ⟨Cond.after_iff.mpr rfl, Cond.after_iff.mpr (eq_i res_at (Term.int_eval (1)) rfl), trivial⟩ ⟨hq.1, hq.2.1, (hq.2.2.sift fun y hy => Or.inr (N y hy)).mono (by decide) (by decide)⟩⟩
theorem main_1_1 : Claimed_1_1 := comes_1 fun _ _ _ _ _ _ h hF => ⟨h.1, hF⟩
theorem main_1_2 : Claimed_1_2 := comes_1 fun _ _ _ _ _ _ h hF => ⟨h.2.1, hF⟩
end Jvm.Pilot.@@N@@
namespace Jvm.Pilot.@@N@@
open Jvm Jvm.ClassFile Sem Op Lib Jvm.Free Jvm.Stand Jvm.Pilot.@@N@@.Jvm.D
/-! MADE BY PROGRAM (witnessworld.py) out of the Statement's table words and the real class files: 16 classes; the members and pool entries that the words name. The judged class is class 1, her method 1. -/
namespace start1
open Jvm.ClassFile
def u (s : String) : CpInfo := .utf8 (stringToUtf16 s)
/-- a pool by its gaps: so many unusable entries, then the entry; so many at the end -/
def gap : Nat → List CpInfo → List CpInfo
  | 0, r => r
  | n + 1, r => .unusable :: gap n r
def poolList (es : List (Nat × CpInfo)) (last : Nat) : List CpInfo := es.foldr (fun e r => gap e.1 (e.2 :: r)) (gap last [])
def pool (es : List (Nat × CpInfo)) (last : Nat) : Array CpInfo := ⟨poolList es last⟩
def fileOf (pool : Array CpInfo) (this : Nat) (attrs : Array Attribute := #[]) (ms : Array MethodInfo := #[]) (fl : Nat := 33) (sup : Nat := 0) (ifs : Array Nat := #[]) (fds : Array FieldInfo := #[]) : ClassFile where
  minorVersion := 0
  majorVersion := 65
  constantPool := pool
  accessFlags := fl
  thisClass := this
  superClass := sup
  interfaces := ifs
  fields := fds
  methods := ms
  attributes := attrs
def plain (name : String) (sup : Option ClassId) : Class where
  name := name
  kind := .ordinary
  loader := none
  accessFlags := 33
  super := sup
  interfaces := #[]
  cf := none
  fields := #[]
  methods := #[]
  instanceTypes := #[]
  staticTypes := #[]
  resolved := #[]
  callSites := []
  init := .initialized
  statics := none
  mirror := none

def pool0 : Array CpInfo := pool [(5, u "<init>"), (0, u "()V"), (1, .class_ 10), (1, u "java/lang/Object")] 113

def k0c0 : Code := { maxStack := 0, maxLocals := 1, code := object_method_1_code, exceptionTable := #[], attributes := #[] }
def k0m0 : Method := { name := "<init>", desc := "()V", sig := { parameters := [], returnType := none }, accessFlags := 1, code := some k0c0 }
/-- java/lang/Object -/
def k0 : Class := { plain "java/lang/Object" none with
  accessFlags := 33
  interfaces := #[]
  cf := some (fileOf pool0 8 #[] #[{ accessFlags := 1, nameIndex := 5, descriptorIndex := 6, attributes := #[] }] 33 0 #[] #[])
  fields := #[]
  methods := #[k0m0]
  instanceTypes := #[]
  staticTypes := #[]
  resolved := Array.replicate 124 none
  statics := none }

def pool1 : Array CpInfo := pool [(2, .class_ 4), (1, u "java/lang/Object"), (0, u "<init>"), (0, u "()V"), (0, .class_ 8), (0, u "com/example/tidy_expiry/tidyexpiry/keyspace/StreamId"), (0, .methodref 7 10), (0, .nameAndType 5 11), (0, u "(JJ)V"), (0, .methodref 13 14), (0, .class_ 15), (0, .nameAndType 16 17), (0, u "java/lang/Long"), (0, u "valueOf"), (0, u "(J)Ljava/lang/Long;"), (0, .methodref 7 19), (0, .nameAndType 20 21), (0, u "equals"), (0, u "(Ljava/lang/Object;)Z"), (0, .class_ 23), (0, u "com/example/tidy_expiry/tidyexpiry/keyspace/StreamIdEqualsPinLaw"), (2, u "law"), (0, u "(JJJJI)Z")] 3

def k1m0 : Method := { name := "<init>", desc := "()V", sig := { parameters := [], returnType := none }, accessFlags := 1, code := none }
def k1c1 : Code := { maxStack := 6, maxLocals := 20, code := code, exceptionTable := #[], attributes := #[] }
def k1m1 : Method := { name := "law", desc := "(JJJJI)Z", sig := { parameters := [.long, .long, .long, .long, .int], returnType := some .boolean }, accessFlags := 9, code := some k1c1 }
/-- com/example/tidy_expiry/tidyexpiry/keyspace/StreamIdEqualsPinLaw -/
def k1 : Class := { plain "com/example/tidy_expiry/tidyexpiry/keyspace/StreamIdEqualsPinLaw" (some 0) with
  accessFlags := 49
  interfaces := #[]
  cf := some (fileOf pool1 22 #[] #[{ accessFlags := 1, nameIndex := 5, descriptorIndex := 6, attributes := #[] }, { accessFlags := 9, nameIndex := 26, descriptorIndex := 27, attributes := #[] }] 49 2 #[] #[])
  fields := #[]
  methods := #[k1m0, k1m1]
  instanceTypes := #[]
  staticTypes := #[]
  resolved := Array.replicate 31 none
  statics := none }

def pool2 : Array CpInfo := pool [(1, .class_ 2), (0, u "java/lang/Comparable"), (0, .class_ 4), (0, u "java/lang/Object")] 7

/-- java/lang/Comparable -/
def k2 : Class := { plain "java/lang/Comparable" (some 0) with
  accessFlags := 1537
  interfaces := #[]
  cf := some (fileOf pool2 1 #[] #[] 1537 3 #[] #[])
  fields := #[]
  methods := #[]
  instanceTypes := #[]
  staticTypes := #[]
  resolved := Array.replicate 12 none
  statics := none }

def pool3 : Array CpInfo := pool [(1, .methodref 2 3), (0, .class_ 4), (0, .nameAndType 5 6), (0, u "java/lang/Object"), (0, u "<init>"), (0, u "()V"), (0, .fieldref 8 9), (0, .class_ 10), (0, .nameAndType 11 12), (0, u "com/example/tidy_expiry/tidyexpiry/keyspace/StreamId"), (0, u "millis"), (0, u "J"), (0, .fieldref 8 14), (0, .nameAndType 15 12), (0, u "sequence"), (14, u "(JJ)V"), (33, u "MIN"), (0, u "Lcom/example/tidy_expiry/tidyexpiry/keyspace/StreamId;"), (2, u "MAX"), (0, .class_ 70), (0, u "java/lang/Comparable"), (9, u "equals"), (0, u "(Ljava/lang/Object;)Z")] 25

def k3c0 : Code := { maxStack := 3, maxLocals := 5, code := prog_43_method_1_code, exceptionTable := #[], attributes := #[] }
def k3m0 : Method := { name := "<init>", desc := "(JJ)V", sig := { parameters := [.long, .long], returnType := none }, accessFlags := 1, code := some k3c0 }
def k3c1 : Code := { maxStack := 4, maxLocals := 3, code := prog_43_method_8_code, exceptionTable := #[], attributes := #[] }
def k3m1 : Method := { name := "equals", desc := "(Ljava/lang/Object;)Z", sig := { parameters := [(.object "java/lang/Object")], returnType := some .boolean }, accessFlags := 1, code := some k3c1 }
/-- com/example/tidy_expiry/tidyexpiry/keyspace/StreamId -/
def k3 : Class := { plain "com/example/tidy_expiry/tidyexpiry/keyspace/StreamId" (some 0) with
  accessFlags := 33
  interfaces := #[2]
  cf := some (fileOf pool3 8 #[] #[{ accessFlags := 1, nameIndex := 5, descriptorIndex := 30, attributes := #[] }, { accessFlags := 1, nameIndex := 80, descriptorIndex := 81, attributes := #[] }] 33 2 #[69] #[{ accessFlags := 25, nameIndex := 64, descriptorIndex := 65, attributes := #[] }, { accessFlags := 25, nameIndex := 68, descriptorIndex := 65, attributes := #[] }, { accessFlags := 18, nameIndex := 11, descriptorIndex := 12, attributes := #[] }, { accessFlags := 18, nameIndex := 15, descriptorIndex := 12, attributes := #[] }])
  fields := #[{ name := "MIN", type := (.object "com/example/tidy_expiry/tidyexpiry/keyspace/StreamId"), accessFlags := 25, slot := 0, constantValue := 0 }, { name := "MAX", type := (.object "com/example/tidy_expiry/tidyexpiry/keyspace/StreamId"), accessFlags := 25, slot := 1, constantValue := 0 }, { name := "millis", type := .long, accessFlags := 18, slot := 0, constantValue := 0 }, { name := "sequence", type := .long, accessFlags := 18, slot := 1, constantValue := 0 }]
  methods := #[k3m0, k3m1]
  instanceTypes := #[.long, .long]
  staticTypes := #[(.object "com/example/tidy_expiry/tidyexpiry/keyspace/StreamId"), (.object "com/example/tidy_expiry/tidyexpiry/keyspace/StreamId")]
  resolved := Array.replicate 107 none
  statics := none }

def pool4 : Array CpInfo := pool [(1, .class_ 2), (0, u "java/io/Serializable"), (0, .class_ 4), (0, u "java/lang/Object")] 2

/-- java/io/Serializable -/
def k4 : Class := { plain "java/io/Serializable" (some 0) with
  accessFlags := 1537
  interfaces := #[]
  cf := some (fileOf pool4 1 #[] #[] 1537 3 #[] #[])
  fields := #[]
  methods := #[]
  instanceTypes := #[]
  staticTypes := #[]
  resolved := Array.replicate 7 none
  statics := none }

def pool5 : Array CpInfo := pool [(1, .methodref 2 3), (0, .class_ 4), (0, .nameAndType 5 6), (0, u "java/lang/Object"), (0, u "<init>"), (0, u "()V"), (1, .class_ 10), (1, u "java/lang/Number"), (2, .class_ 14), (0, u "java/io/Serializable"), (0, u "serialVersionUID"), (0, u "J")] 20

def k5c0 : Code := { maxStack := 1, maxLocals := 1, code := jdk_18_method_1_code, exceptionTable := #[], attributes := #[] }
def k5m0 : Method := { name := "<init>", desc := "()V", sig := { parameters := [], returnType := none }, accessFlags := 1, code := some k5c0 }
/-- java/lang/Number -/
def k5 : Class := { plain "java/lang/Number" (some 0) with
  accessFlags := 1057
  interfaces := #[4]
  cf := some (fileOf pool5 8 #[] #[{ accessFlags := 1, nameIndex := 5, descriptorIndex := 6, attributes := #[] }] 1057 2 #[13] #[{ accessFlags := 26, nameIndex := 15, descriptorIndex := 16, attributes := #[] }])
  fields := #[{ name := "serialVersionUID", type := .long, accessFlags := 26, slot := 0, constantValue := 0 }]
  methods := #[k5m0]
  instanceTypes := #[]
  staticTypes := #[.long]
  resolved := Array.replicate 37 none
  statics := none }

def pool6 : Array CpInfo := pool [(1, .class_ 2), (0, u "java/lang/constant/Constable"), (0, .class_ 4), (0, u "java/lang/Object")] 6

/-- java/lang/constant/Constable -/
def k6 : Class := { plain "java/lang/constant/Constable" (some 0) with
  accessFlags := 1537
  interfaces := #[]
  cf := some (fileOf pool6 1 #[] #[] 1537 3 #[] #[])
  fields := #[]
  methods := #[]
  instanceTypes := #[]
  staticTypes := #[]
  resolved := Array.replicate 11 none
  statics := none }

def pool7 : Array CpInfo := pool [(1, .class_ 2), (0, u "java/lang/constant/ConstantDesc"), (0, .class_ 4), (0, u "java/lang/Object")] 32

/-- java/lang/constant/ConstantDesc -/
def k7 : Class := { plain "java/lang/constant/ConstantDesc" (some 0) with
  accessFlags := 1537
  interfaces := #[]
  cf := some (fileOf pool7 1 #[] #[] 1537 3 #[] #[])
  fields := #[]
  methods := #[]
  instanceTypes := #[]
  staticTypes := #[]
  resolved := Array.replicate 37 none
  statics := none }

def pool8 : Array CpInfo := pool [(1, .class_ 2), (0, u "java/lang/Long"), (55, .nameAndType 59 60), (0, u "<init>"), (0, u "()V"), (24, u "valueOf"), (143, u "(J)Ljava/lang/Long;"), (0, .long 18446744073709551488), (1, .long 127), (1, .fieldref 235 236), (0, .class_ 237), (0, .nameAndType 238 239), (0, u "java/lang/Long$LongCache"), (0, u "cache"), (0, u "[Ljava/lang/Long;"), (0, .methodref 1 241), (0, .nameAndType 59 242), (0, u "(J)V"), (27, .methodref 271 58), (0, .class_ 272), (0, u "java/lang/Number"), (0, .fieldref 1 274), (0, .nameAndType 275 276), (0, u "value"), (0, u "J"), (84, u "TYPE"), (0, u "Ljava/lang/Class;"), (0, .class_ 364), (0, u "java/lang/Comparable"), (0, .class_ 366), (0, u "java/lang/constant/Constable"), (0, .class_ 368), (0, u "java/lang/constant/ConstantDesc"), (0, u "MIN_VALUE"), (1, u "MAX_VALUE"), (4, u "SIZE"), (0, u "I"), (1, u "BYTES"), (1, u "serialVersionUID")] 142

def k8c0 : Code := { maxStack := 4, maxLocals := 3, code := jdk_35_method_24_code, exceptionTable := #[], attributes := #[] }
def k8m0 : Method := { name := "valueOf", desc := "(J)Ljava/lang/Long;", sig := { parameters := [.long], returnType := some (.object "java/lang/Long") }, accessFlags := 9, code := some k8c0 }
def k8c1 : Code := { maxStack := 3, maxLocals := 3, code := jdk_35_method_26_code, exceptionTable := #[], attributes := #[] }
def k8m1 : Method := { name := "<init>", desc := "(J)V", sig := { parameters := [.long], returnType := none }, accessFlags := 1, code := some k8c1 }
/-- java/lang/Long -/
def k8 : Class := { plain "java/lang/Long" (some 5) with
  accessFlags := 49
  interfaces := #[2, 6, 7]
  cf := some (fileOf pool8 1 #[.nestMembers #[235]] #[{ accessFlags := 9, nameIndex := 85, descriptorIndex := 229, attributes := #[] }, { accessFlags := 1, nameIndex := 59, descriptorIndex := 242, attributes := #[] }] 49 271 #[363, 365, 367] #[{ accessFlags := 25, nameIndex := 369, descriptorIndex := 276, attributes := #[] }, { accessFlags := 25, nameIndex := 371, descriptorIndex := 276, attributes := #[] }, { accessFlags := 25, nameIndex := 361, descriptorIndex := 362, attributes := #[] }, { accessFlags := 18, nameIndex := 275, descriptorIndex := 276, attributes := #[] }, { accessFlags := 25, nameIndex := 376, descriptorIndex := 377, attributes := #[] }, { accessFlags := 25, nameIndex := 379, descriptorIndex := 377, attributes := #[] }, { accessFlags := 26, nameIndex := 381, descriptorIndex := 276, attributes := #[] }])
  fields := #[{ name := "MIN_VALUE", type := .long, accessFlags := 25, slot := 0, constantValue := 0 }, { name := "MAX_VALUE", type := .long, accessFlags := 25, slot := 1, constantValue := 0 }, { name := "TYPE", type := (.object "java/lang/Class"), accessFlags := 25, slot := 2, constantValue := 0 }, { name := "value", type := .long, accessFlags := 18, slot := 0, constantValue := 0 }, { name := "SIZE", type := .int, accessFlags := 25, slot := 3, constantValue := 0 }, { name := "BYTES", type := .int, accessFlags := 25, slot := 4, constantValue := 0 }, { name := "serialVersionUID", type := .long, accessFlags := 26, slot := 5, constantValue := 0 }]
  methods := #[k8m0, k8m1]
  instanceTypes := #[.long]
  staticTypes := #[.long, .long, (.object "java/lang/Class"), .int, .int, .long]
  resolved := Array.replicate 524 none
  statics := none }

def pool9 : Array CpInfo := pool [(2, .class_ 4), (1, u "java/lang/Object"), (0, u "<init>"), (0, u "()V"), (0, .class_ 8), (0, u "java/lang/Long"), (7, .class_ 18), (1, u "java/lang/Long$LongCache"), (0, u "$assertionsDisabled"), (0, u "Z"), (8, u "archivedCache"), (0, u "[Ljava/lang/Long;"), (7, u "cache")] 24

def k9m0 : Method := { name := "<init>", desc := "()V", sig := { parameters := [], returnType := none }, accessFlags := 2, code := none }
/-- java/lang/Long$LongCache -/
def k9 : Class := { plain "java/lang/Long$LongCache" (some 0) with
  accessFlags := 48
  interfaces := #[]
  cf := some (fileOf pool9 16 #[.nestHost 7] #[{ accessFlags := 2, nameIndex := 5, descriptorIndex := 6, attributes := #[] }] 48 2 #[] #[{ accessFlags := 24, nameIndex := 38, descriptorIndex := 30, attributes := #[] }, { accessFlags := 8, nameIndex := 29, descriptorIndex := 30, attributes := #[] }, { accessFlags := 4120, nameIndex := 19, descriptorIndex := 20, attributes := #[] }])
  fields := #[{ name := "cache", type := (.array (.object "java/lang/Long")), accessFlags := 24, slot := 0, constantValue := 0 }, { name := "archivedCache", type := (.array (.object "java/lang/Long")), accessFlags := 8, slot := 1, constantValue := 0 }, { name := "$assertionsDisabled", type := .boolean, accessFlags := 4120, slot := 2, constantValue := 0 }]
  methods := #[k9m0]
  instanceTypes := #[]
  staticTypes := #[(.array (.object "java/lang/Long")), (.array (.object "java/lang/Long")), .boolean]
  resolved := Array.replicate 63 none
  statics := some 0 }

def pool10 : Array CpInfo := pool [(1, u "java/lang/Cloneable"), (0, .class_ 1), (0, u "java/lang/Object"), (0, .class_ 3)] 3

/-- java/lang/Cloneable -/
def k10 : Class := { plain "java/lang/Cloneable" (some 0) with
  accessFlags := 1537
  interfaces := #[]
  cf := some (fileOf pool10 2 #[] #[] 1537 4 #[] #[])
  fields := #[]
  methods := #[]
  instanceTypes := #[]
  staticTypes := #[]
  resolved := Array.replicate 8 none
  statics := none }

/-- the primitive byte -/
def k11 : Class := { plain "byte" none with kind := .primitive 'B', accessFlags := 0x411 }
/-- [B -/
def k12 : Class := { plain "[B" (some 0) with kind := .array 11 .byte, interfaces := #[10, 4], accessFlags := 1041 }

/-- the primitive int -/
def k13 : Class := { plain "int" none with kind := .primitive 'I', accessFlags := 0x411 }
/-- [I -/
def k14 : Class := { plain "[I" (some 0) with kind := .array 13 .int, interfaces := #[10, 4], accessFlags := 1041 }

/-- [Ljava/lang/Long; -/
def k15 : Class := { plain "[Ljava/lang/Long;" (some 0) with kind := .array 8 (.object "java/lang/Long"), interfaces := #[10, 4], accessFlags := 1041 }

def heap : Heap := #[{ cls := 9, slots := #[.ref 1, .null, .int 0], vm := .statics 9 },
  { cls := 15, slots := #[.ref 2, .ref 3, .ref 4, .ref 5, .ref 6, .ref 7, .ref 8, .ref 9, .ref 10, .ref 11, .ref 12, .ref 13, .ref 14, .ref 15, .ref 16, .ref 17, .ref 18, .ref 19, .ref 20, .ref 21, .ref 22, .ref 23, .ref 24, .ref 25, .ref 26, .ref 27, .ref 28, .ref 29, .ref 30, .ref 31, .ref 32, .ref 33, .ref 34, .ref 35, .ref 36, .ref 37, .ref 38, .ref 39, .ref 40, .ref 41, .ref 42, .ref 43, .ref 44, .ref 45, .ref 46, .ref 47, .ref 48, .ref 49, .ref 50, .ref 51, .ref 52, .ref 53, .ref 54, .ref 55, .ref 56, .ref 57, .ref 58, .ref 59, .ref 60, .ref 61, .ref 62, .ref 63, .ref 64, .ref 65, .ref 66, .ref 67, .ref 68, .ref 69, .ref 70, .ref 71, .ref 72, .ref 73, .ref 74, .ref 75, .ref 76, .ref 77, .ref 78, .ref 79, .ref 80, .ref 81, .ref 82, .ref 83, .ref 84, .ref 85, .ref 86, .ref 87, .ref 88, .ref 89, .ref 90, .ref 91, .ref 92, .ref 93, .ref 94, .ref 95, .ref 96, .ref 97, .ref 98, .ref 99, .ref 100, .ref 101, .ref 102, .ref 103, .ref 104, .ref 105, .ref 106, .ref 107, .ref 108, .ref 109, .ref 110, .ref 111, .ref 112, .ref 113, .ref 114, .ref 115, .ref 116, .ref 117, .ref 118, .ref 119, .ref 120, .ref 121, .ref 122, .ref 123, .ref 124, .ref 125, .ref 126, .ref 127, .ref 128, .ref 129, .ref 130, .ref 131, .ref 132, .ref 133, .ref 134, .ref 135, .ref 136, .ref 137, .ref 138, .ref 139, .ref 140, .ref 141, .ref 142, .ref 143, .ref 144, .ref 145, .ref 146, .ref 147, .ref 148, .ref 149, .ref 150, .ref 151, .ref 152, .ref 153, .ref 154, .ref 155, .ref 156, .ref 157, .ref 158, .ref 159, .ref 160, .ref 161, .ref 162, .ref 163, .ref 164, .ref 165, .ref 166, .ref 167, .ref 168, .ref 169, .ref 170, .ref 171, .ref 172, .ref 173, .ref 174, .ref 175, .ref 176, .ref 177, .ref 178, .ref 179, .ref 180, .ref 181, .ref 182, .ref 183, .ref 184, .ref 185, .ref 186, .ref 187, .ref 188, .ref 189, .ref 190, .ref 191, .ref 192, .ref 193, .ref 194, .ref 195, .ref 196, .ref 197, .ref 198, .ref 199, .ref 200, .ref 201, .ref 202, .ref 203, .ref 204, .ref 205, .ref 206, .ref 207, .ref 208, .ref 209, .ref 210, .ref 211, .ref 212, .ref 213, .ref 214, .ref 215, .ref 216, .ref 217, .ref 218, .ref 219, .ref 220, .ref 221, .ref 222, .ref 223, .ref 224, .ref 225, .ref 226, .ref 227, .ref 228, .ref 229, .ref 230, .ref 231, .ref 232, .ref 233, .ref 234, .ref 235, .ref 236, .ref 237, .ref 238, .ref 239, .ref 240, .ref 241, .ref 242, .ref 243, .ref 244, .ref 245, .ref 246, .ref 247, .ref 248, .ref 249, .ref 250, .ref 251, .ref 252, .ref 253, .ref 254, .ref 255, .ref 256, .ref 257], vm := .none },
  { cls := 8, slots := #[.long (-128)], vm := .none },
  { cls := 8, slots := #[.long (-127)], vm := .none },
  { cls := 8, slots := #[.long (-126)], vm := .none },
  { cls := 8, slots := #[.long (-125)], vm := .none },
  { cls := 8, slots := #[.long (-124)], vm := .none },
  { cls := 8, slots := #[.long (-123)], vm := .none },
  { cls := 8, slots := #[.long (-122)], vm := .none },
  { cls := 8, slots := #[.long (-121)], vm := .none },
  { cls := 8, slots := #[.long (-120)], vm := .none },
  { cls := 8, slots := #[.long (-119)], vm := .none },
  { cls := 8, slots := #[.long (-118)], vm := .none },
  { cls := 8, slots := #[.long (-117)], vm := .none },
  { cls := 8, slots := #[.long (-116)], vm := .none },
  { cls := 8, slots := #[.long (-115)], vm := .none },
  { cls := 8, slots := #[.long (-114)], vm := .none },
  { cls := 8, slots := #[.long (-113)], vm := .none },
  { cls := 8, slots := #[.long (-112)], vm := .none },
  { cls := 8, slots := #[.long (-111)], vm := .none },
  { cls := 8, slots := #[.long (-110)], vm := .none },
  { cls := 8, slots := #[.long (-109)], vm := .none },
  { cls := 8, slots := #[.long (-108)], vm := .none },
  { cls := 8, slots := #[.long (-107)], vm := .none },
  { cls := 8, slots := #[.long (-106)], vm := .none },
  { cls := 8, slots := #[.long (-105)], vm := .none },
  { cls := 8, slots := #[.long (-104)], vm := .none },
  { cls := 8, slots := #[.long (-103)], vm := .none },
  { cls := 8, slots := #[.long (-102)], vm := .none },
  { cls := 8, slots := #[.long (-101)], vm := .none },
  { cls := 8, slots := #[.long (-100)], vm := .none },
  { cls := 8, slots := #[.long (-99)], vm := .none },
  { cls := 8, slots := #[.long (-98)], vm := .none },
  { cls := 8, slots := #[.long (-97)], vm := .none },
  { cls := 8, slots := #[.long (-96)], vm := .none },
  { cls := 8, slots := #[.long (-95)], vm := .none },
  { cls := 8, slots := #[.long (-94)], vm := .none },
  { cls := 8, slots := #[.long (-93)], vm := .none },
  { cls := 8, slots := #[.long (-92)], vm := .none },
  { cls := 8, slots := #[.long (-91)], vm := .none },
  { cls := 8, slots := #[.long (-90)], vm := .none },
  { cls := 8, slots := #[.long (-89)], vm := .none },
  { cls := 8, slots := #[.long (-88)], vm := .none },
  { cls := 8, slots := #[.long (-87)], vm := .none },
  { cls := 8, slots := #[.long (-86)], vm := .none },
  { cls := 8, slots := #[.long (-85)], vm := .none },
  { cls := 8, slots := #[.long (-84)], vm := .none },
  { cls := 8, slots := #[.long (-83)], vm := .none },
  { cls := 8, slots := #[.long (-82)], vm := .none },
  { cls := 8, slots := #[.long (-81)], vm := .none },
  { cls := 8, slots := #[.long (-80)], vm := .none },
  { cls := 8, slots := #[.long (-79)], vm := .none },
  { cls := 8, slots := #[.long (-78)], vm := .none },
  { cls := 8, slots := #[.long (-77)], vm := .none },
  { cls := 8, slots := #[.long (-76)], vm := .none },
  { cls := 8, slots := #[.long (-75)], vm := .none },
  { cls := 8, slots := #[.long (-74)], vm := .none },
  { cls := 8, slots := #[.long (-73)], vm := .none },
  { cls := 8, slots := #[.long (-72)], vm := .none },
  { cls := 8, slots := #[.long (-71)], vm := .none },
  { cls := 8, slots := #[.long (-70)], vm := .none },
  { cls := 8, slots := #[.long (-69)], vm := .none },
  { cls := 8, slots := #[.long (-68)], vm := .none },
  { cls := 8, slots := #[.long (-67)], vm := .none },
  { cls := 8, slots := #[.long (-66)], vm := .none },
  { cls := 8, slots := #[.long (-65)], vm := .none },
  { cls := 8, slots := #[.long (-64)], vm := .none },
  { cls := 8, slots := #[.long (-63)], vm := .none },
  { cls := 8, slots := #[.long (-62)], vm := .none },
  { cls := 8, slots := #[.long (-61)], vm := .none },
  { cls := 8, slots := #[.long (-60)], vm := .none },
  { cls := 8, slots := #[.long (-59)], vm := .none },
  { cls := 8, slots := #[.long (-58)], vm := .none },
  { cls := 8, slots := #[.long (-57)], vm := .none },
  { cls := 8, slots := #[.long (-56)], vm := .none },
  { cls := 8, slots := #[.long (-55)], vm := .none },
  { cls := 8, slots := #[.long (-54)], vm := .none },
  { cls := 8, slots := #[.long (-53)], vm := .none },
  { cls := 8, slots := #[.long (-52)], vm := .none },
  { cls := 8, slots := #[.long (-51)], vm := .none },
  { cls := 8, slots := #[.long (-50)], vm := .none },
  { cls := 8, slots := #[.long (-49)], vm := .none },
  { cls := 8, slots := #[.long (-48)], vm := .none },
  { cls := 8, slots := #[.long (-47)], vm := .none },
  { cls := 8, slots := #[.long (-46)], vm := .none },
  { cls := 8, slots := #[.long (-45)], vm := .none },
  { cls := 8, slots := #[.long (-44)], vm := .none },
  { cls := 8, slots := #[.long (-43)], vm := .none },
  { cls := 8, slots := #[.long (-42)], vm := .none },
  { cls := 8, slots := #[.long (-41)], vm := .none },
  { cls := 8, slots := #[.long (-40)], vm := .none },
  { cls := 8, slots := #[.long (-39)], vm := .none },
  { cls := 8, slots := #[.long (-38)], vm := .none },
  { cls := 8, slots := #[.long (-37)], vm := .none },
  { cls := 8, slots := #[.long (-36)], vm := .none },
  { cls := 8, slots := #[.long (-35)], vm := .none },
  { cls := 8, slots := #[.long (-34)], vm := .none },
  { cls := 8, slots := #[.long (-33)], vm := .none },
  { cls := 8, slots := #[.long (-32)], vm := .none },
  { cls := 8, slots := #[.long (-31)], vm := .none },
  { cls := 8, slots := #[.long (-30)], vm := .none },
  { cls := 8, slots := #[.long (-29)], vm := .none },
  { cls := 8, slots := #[.long (-28)], vm := .none },
  { cls := 8, slots := #[.long (-27)], vm := .none },
  { cls := 8, slots := #[.long (-26)], vm := .none },
  { cls := 8, slots := #[.long (-25)], vm := .none },
  { cls := 8, slots := #[.long (-24)], vm := .none },
  { cls := 8, slots := #[.long (-23)], vm := .none },
  { cls := 8, slots := #[.long (-22)], vm := .none },
  { cls := 8, slots := #[.long (-21)], vm := .none },
  { cls := 8, slots := #[.long (-20)], vm := .none },
  { cls := 8, slots := #[.long (-19)], vm := .none },
  { cls := 8, slots := #[.long (-18)], vm := .none },
  { cls := 8, slots := #[.long (-17)], vm := .none },
  { cls := 8, slots := #[.long (-16)], vm := .none },
  { cls := 8, slots := #[.long (-15)], vm := .none },
  { cls := 8, slots := #[.long (-14)], vm := .none },
  { cls := 8, slots := #[.long (-13)], vm := .none },
  { cls := 8, slots := #[.long (-12)], vm := .none },
  { cls := 8, slots := #[.long (-11)], vm := .none },
  { cls := 8, slots := #[.long (-10)], vm := .none },
  { cls := 8, slots := #[.long (-9)], vm := .none },
  { cls := 8, slots := #[.long (-8)], vm := .none },
  { cls := 8, slots := #[.long (-7)], vm := .none },
  { cls := 8, slots := #[.long (-6)], vm := .none },
  { cls := 8, slots := #[.long (-5)], vm := .none },
  { cls := 8, slots := #[.long (-4)], vm := .none },
  { cls := 8, slots := #[.long (-3)], vm := .none },
  { cls := 8, slots := #[.long (-2)], vm := .none },
  { cls := 8, slots := #[.long (-1)], vm := .none },
  { cls := 8, slots := #[.long 0], vm := .none },
  { cls := 8, slots := #[.long 1], vm := .none },
  { cls := 8, slots := #[.long 2], vm := .none },
  { cls := 8, slots := #[.long 3], vm := .none },
  { cls := 8, slots := #[.long 4], vm := .none },
  { cls := 8, slots := #[.long 5], vm := .none },
  { cls := 8, slots := #[.long 6], vm := .none },
  { cls := 8, slots := #[.long 7], vm := .none },
  { cls := 8, slots := #[.long 8], vm := .none },
  { cls := 8, slots := #[.long 9], vm := .none },
  { cls := 8, slots := #[.long 10], vm := .none },
  { cls := 8, slots := #[.long 11], vm := .none },
  { cls := 8, slots := #[.long 12], vm := .none },
  { cls := 8, slots := #[.long 13], vm := .none },
  { cls := 8, slots := #[.long 14], vm := .none },
  { cls := 8, slots := #[.long 15], vm := .none },
  { cls := 8, slots := #[.long 16], vm := .none },
  { cls := 8, slots := #[.long 17], vm := .none },
  { cls := 8, slots := #[.long 18], vm := .none },
  { cls := 8, slots := #[.long 19], vm := .none },
  { cls := 8, slots := #[.long 20], vm := .none },
  { cls := 8, slots := #[.long 21], vm := .none },
  { cls := 8, slots := #[.long 22], vm := .none },
  { cls := 8, slots := #[.long 23], vm := .none },
  { cls := 8, slots := #[.long 24], vm := .none },
  { cls := 8, slots := #[.long 25], vm := .none },
  { cls := 8, slots := #[.long 26], vm := .none },
  { cls := 8, slots := #[.long 27], vm := .none },
  { cls := 8, slots := #[.long 28], vm := .none },
  { cls := 8, slots := #[.long 29], vm := .none },
  { cls := 8, slots := #[.long 30], vm := .none },
  { cls := 8, slots := #[.long 31], vm := .none },
  { cls := 8, slots := #[.long 32], vm := .none },
  { cls := 8, slots := #[.long 33], vm := .none },
  { cls := 8, slots := #[.long 34], vm := .none },
  { cls := 8, slots := #[.long 35], vm := .none },
  { cls := 8, slots := #[.long 36], vm := .none },
  { cls := 8, slots := #[.long 37], vm := .none },
  { cls := 8, slots := #[.long 38], vm := .none },
  { cls := 8, slots := #[.long 39], vm := .none },
  { cls := 8, slots := #[.long 40], vm := .none },
  { cls := 8, slots := #[.long 41], vm := .none },
  { cls := 8, slots := #[.long 42], vm := .none },
  { cls := 8, slots := #[.long 43], vm := .none },
  { cls := 8, slots := #[.long 44], vm := .none },
  { cls := 8, slots := #[.long 45], vm := .none },
  { cls := 8, slots := #[.long 46], vm := .none },
  { cls := 8, slots := #[.long 47], vm := .none },
  { cls := 8, slots := #[.long 48], vm := .none },
  { cls := 8, slots := #[.long 49], vm := .none },
  { cls := 8, slots := #[.long 50], vm := .none },
  { cls := 8, slots := #[.long 51], vm := .none },
  { cls := 8, slots := #[.long 52], vm := .none },
  { cls := 8, slots := #[.long 53], vm := .none },
  { cls := 8, slots := #[.long 54], vm := .none },
  { cls := 8, slots := #[.long 55], vm := .none },
  { cls := 8, slots := #[.long 56], vm := .none },
  { cls := 8, slots := #[.long 57], vm := .none },
  { cls := 8, slots := #[.long 58], vm := .none },
  { cls := 8, slots := #[.long 59], vm := .none },
  { cls := 8, slots := #[.long 60], vm := .none },
  { cls := 8, slots := #[.long 61], vm := .none },
  { cls := 8, slots := #[.long 62], vm := .none },
  { cls := 8, slots := #[.long 63], vm := .none },
  { cls := 8, slots := #[.long 64], vm := .none },
  { cls := 8, slots := #[.long 65], vm := .none },
  { cls := 8, slots := #[.long 66], vm := .none },
  { cls := 8, slots := #[.long 67], vm := .none },
  { cls := 8, slots := #[.long 68], vm := .none },
  { cls := 8, slots := #[.long 69], vm := .none },
  { cls := 8, slots := #[.long 70], vm := .none },
  { cls := 8, slots := #[.long 71], vm := .none },
  { cls := 8, slots := #[.long 72], vm := .none },
  { cls := 8, slots := #[.long 73], vm := .none },
  { cls := 8, slots := #[.long 74], vm := .none },
  { cls := 8, slots := #[.long 75], vm := .none },
  { cls := 8, slots := #[.long 76], vm := .none },
  { cls := 8, slots := #[.long 77], vm := .none },
  { cls := 8, slots := #[.long 78], vm := .none },
  { cls := 8, slots := #[.long 79], vm := .none },
  { cls := 8, slots := #[.long 80], vm := .none },
  { cls := 8, slots := #[.long 81], vm := .none },
  { cls := 8, slots := #[.long 82], vm := .none },
  { cls := 8, slots := #[.long 83], vm := .none },
  { cls := 8, slots := #[.long 84], vm := .none },
  { cls := 8, slots := #[.long 85], vm := .none },
  { cls := 8, slots := #[.long 86], vm := .none },
  { cls := 8, slots := #[.long 87], vm := .none },
  { cls := 8, slots := #[.long 88], vm := .none },
  { cls := 8, slots := #[.long 89], vm := .none },
  { cls := 8, slots := #[.long 90], vm := .none },
  { cls := 8, slots := #[.long 91], vm := .none },
  { cls := 8, slots := #[.long 92], vm := .none },
  { cls := 8, slots := #[.long 93], vm := .none },
  { cls := 8, slots := #[.long 94], vm := .none },
  { cls := 8, slots := #[.long 95], vm := .none },
  { cls := 8, slots := #[.long 96], vm := .none },
  { cls := 8, slots := #[.long 97], vm := .none },
  { cls := 8, slots := #[.long 98], vm := .none },
  { cls := 8, slots := #[.long 99], vm := .none },
  { cls := 8, slots := #[.long 100], vm := .none },
  { cls := 8, slots := #[.long 101], vm := .none },
  { cls := 8, slots := #[.long 102], vm := .none },
  { cls := 8, slots := #[.long 103], vm := .none },
  { cls := 8, slots := #[.long 104], vm := .none },
  { cls := 8, slots := #[.long 105], vm := .none },
  { cls := 8, slots := #[.long 106], vm := .none },
  { cls := 8, slots := #[.long 107], vm := .none },
  { cls := 8, slots := #[.long 108], vm := .none },
  { cls := 8, slots := #[.long 109], vm := .none },
  { cls := 8, slots := #[.long 110], vm := .none },
  { cls := 8, slots := #[.long 111], vm := .none },
  { cls := 8, slots := #[.long 112], vm := .none },
  { cls := 8, slots := #[.long 113], vm := .none },
  { cls := 8, slots := #[.long 114], vm := .none },
  { cls := 8, slots := #[.long 115], vm := .none },
  { cls := 8, slots := #[.long 116], vm := .none },
  { cls := 8, slots := #[.long 117], vm := .none },
  { cls := 8, slots := #[.long 118], vm := .none },
  { cls := 8, slots := #[.long 119], vm := .none },
  { cls := 8, slots := #[.long 120], vm := .none },
  { cls := 8, slots := #[.long 121], vm := .none },
  { cls := 8, slots := #[.long 122], vm := .none },
  { cls := 8, slots := #[.long 123], vm := .none },
  { cls := 8, slots := #[.long 124], vm := .none },
  { cls := 8, slots := #[.long 125], vm := .none },
  { cls := 8, slots := #[.long 126], vm := .none },
  { cls := 8, slots := #[.long 127], vm := .none }]
def classes : Array Class := #[k0, k1, k2, k3, k4, k5, k6, k7, k8, k9, k10, k11, k12, k13, k14, k15]
def interned : List (Array UInt16 × Addr) := []
def slotsUsed : Nat := 515
def theMethod : MethodId := ⟨1, 1⟩
def args0 : Array Value := #[.long 3, .long 4, .long 5, .long 6, .int 7]
def aboutOver (below : List Frame) : State where
  vm := { classes := classes, interned := interned.toArray }
  heap := heap
  slotsUsed := slotsUsed
  threads := #[{ frames := .invoking theMethod args0 :: below }]
def below0 : List Frame := [.native { method := ⟨0, 0⟩, args := #[] }]
def about1 : State := aboutOver below0
def p0 : Program := .bare "" "" ""
def e0 : Env := launch0.env 0 0 0
theorem w_frames : about1.frames = Frame.invoking theMethod args0 :: below0 := rfl
set_option maxRecDepth 65536 in
theorem w_args : argsFit about1.vm theMethod args0 = true := by decide +kernel
set_option maxRecDepth 65536 in
theorem w_heap : heapFits about1 = true := by decide +kernel
set_option maxRecDepth 65536 in
theorem w_runnable : about1.curStatus? = some .runnable := by decide +kernel
set_option maxRecDepth 65536 in
theorem w_alone : about1.alone = true := by decide +kernel
set_option maxRecDepth 65536 in
theorem w_named : about1.methodNamed? x = some theMethod := by decide +kernel
set_option maxRecDepth 65536 in
theorem w_hears : about1.hears theMethod below0 = true := by decide +kernel
set_option maxRecDepth 65536 in
theorem w_ripe : about1.ripe theMethod args0 below0 = true := by decide +kernel
theorem w_running : about1.status = .running := rfl
set_option maxRecDepth 65536 in
theorem w_room : about1.hasRoom e0.platform room_1 = true :=
  launch0.hasRoom_least _ room_1 (by decide +kernel) (by decide +kernel) (by decide +kernel) (by decide +kernel) (by decide +kernel) (by decide +kernel)
theorem allAtoms_all (ts : List Jvm.Cond) (a : Array Jvm.Value) (st : Jvm.State) : (allAtoms ts).before a st = ts.all (fun c => c.before a st) := by
  induction ts with
  | nil => rfl
  | cons c t ih =>
    show (Jvm.Cond.and c (allAtoms t)).before a st = _
    rw [Jvm.Cond.before_and, ih, List.all_cons]
def words1 : List Jvm.Cond := Jvm.Cond.code x code maxLocals ret :: tables_1
/-- a 'code' word, met by the world's own term for the bytes: nothing is compared byte by byte -/
theorem code_word {y : MethodName} {bytes : ByteArray} {mx : Nat} {rt : Option FieldType} {a : Array Value} {s : State} {m : MethodId} {meth : Method} {c : Code} (h1 : s.methodNamed? y = some m) (h2 : s.vm.method? m = some meth) (h3 : meth.code = some c) (h4 : c.code = bytes)
    (h5 : (c.maxLocals == mx && c.exceptionTable.isEmpty && decide (c.maxStack ≤ mostOperands) && decide (meth.sig.returnType = rt) && !meth.locks && decide (parseMethodDescriptor y.desc = some meth.sig)) = true) : (Jvm.Cond.code y bytes mx rt).before a s = true := by
  simp only [Bool.and_eq_true, beq_iff_eq, Bool.not_eq_true', decide_eq_true_eq] at h5
  obtain ⟨⟨⟨⟨⟨g1, g2⟩, g3⟩, g4⟩, g5⟩, g6⟩ := h5
  simp [Cond.before, Cond.holds, Cond.value, h1, h2, h3, h4, g1, g2, g3, g4, g5, g6]
def isCode : Jvm.Cond → Bool
  | .code _ _ _ _ => true
  | _ => false
theorem all_split {L : List Jvm.Cond} {P : Jvm.Cond → Bool} (h1 : L.all (fun c => isCode c || P c) = true) (h2 : ∀ c ∈ L.filter isCode, P c = true) : L.all P = true := by
  refine List.all_eq_true.mpr fun c hc => ?_
  have h := List.all_eq_true.mp h1 c hc
  rcases Bool.eq_false_or_eq_true (isCode c) with hi | hi
  · exact h2 c (List.mem_filter.mpr ⟨hc, hi⟩)
  · simpa [hi] using h
set_option maxRecDepth 65536 in
theorem w_c0 : (Jvm.Cond.code x code maxLocals ret).before args0 about1 = true := code_word (m := ⟨1, 1⟩) (meth := k1m1) (c := k1c1) (by decide +kernel) rfl rfl rfl (by decide +kernel)
set_option maxRecDepth 65536 in
theorem w_c1 : (Jvm.Cond.code ({ cls := "com/example/tidy_expiry/tidyexpiry/keyspace/StreamId", name := "<init>", desc := "(JJ)V" } : Jvm.MethodName) prog_43_method_1_code (5 : Nat) (Option.none : Option Jvm.ClassFile.FieldType)).before args0 about1 = true := code_word (m := ⟨3, 0⟩) (meth := k3m0) (c := k3c0) (by decide +kernel) rfl rfl rfl (by decide +kernel)
set_option maxRecDepth 65536 in
theorem w_c2 : (Jvm.Cond.code ({ cls := "java/lang/Object", name := "<init>", desc := "()V" } : Jvm.MethodName) object_method_1_code (1 : Nat) (Option.none : Option Jvm.ClassFile.FieldType)).before args0 about1 = true := code_word (m := ⟨0, 0⟩) (meth := k0m0) (c := k0c0) (by decide +kernel) rfl rfl rfl (by decide +kernel)
set_option maxRecDepth 65536 in
theorem w_c3 : (Jvm.Cond.code ({ cls := "com/example/tidy_expiry/tidyexpiry/keyspace/StreamId", name := "equals", desc := "(Ljava/lang/Object;)Z" } : Jvm.MethodName) prog_43_method_8_code (3 : Nat) (Option.some Jvm.ClassFile.FieldType.boolean)).before args0 about1 = true := code_word (m := ⟨3, 1⟩) (meth := k3m1) (c := k3c1) (by decide +kernel) rfl rfl rfl (by decide +kernel)
set_option maxRecDepth 65536 in
theorem w_c4 : (Jvm.Cond.code ({ cls := "java/lang/Long", name := "valueOf", desc := "(J)Ljava/lang/Long;" } : Jvm.MethodName) jdk_35_method_24_code (3 : Nat) (Option.some (Jvm.ClassFile.FieldType.object "java/lang/Long"))).before args0 about1 = true := code_word (m := ⟨8, 0⟩) (meth := k8m0) (c := k8c0) (by decide +kernel) rfl rfl rfl (by decide +kernel)
set_option maxRecDepth 65536 in
theorem w_c5 : (Jvm.Cond.code ({ cls := "java/lang/Long", name := "<init>", desc := "(J)V" } : Jvm.MethodName) jdk_35_method_26_code (3 : Nat) (Option.none : Option Jvm.ClassFile.FieldType)).before args0 about1 = true := code_word (m := ⟨8, 1⟩) (meth := k8m1) (c := k8c1) (by decide +kernel) rfl rfl rfl (by decide +kernel)
set_option maxRecDepth 65536 in
theorem w_c6 : (Jvm.Cond.code ({ cls := "java/lang/Number", name := "<init>", desc := "()V" } : Jvm.MethodName) jdk_18_method_1_code (1 : Nat) (Option.none : Option Jvm.ClassFile.FieldType)).before args0 about1 = true := code_word (m := ⟨5, 0⟩) (meth := k5m0) (c := k5c0) (by decide +kernel) rfl rfl rfl (by decide +kernel)
def codes1 : List Jvm.Cond := [Jvm.Cond.code x code maxLocals ret, Jvm.Cond.code ({ cls := "com/example/tidy_expiry/tidyexpiry/keyspace/StreamId", name := "<init>", desc := "(JJ)V" } : Jvm.MethodName) prog_43_method_1_code (5 : Nat) (Option.none : Option Jvm.ClassFile.FieldType), Jvm.Cond.code ({ cls := "java/lang/Object", name := "<init>", desc := "()V" } : Jvm.MethodName) object_method_1_code (1 : Nat) (Option.none : Option Jvm.ClassFile.FieldType), Jvm.Cond.code ({ cls := "com/example/tidy_expiry/tidyexpiry/keyspace/StreamId", name := "equals", desc := "(Ljava/lang/Object;)Z" } : Jvm.MethodName) prog_43_method_8_code (3 : Nat) (Option.some Jvm.ClassFile.FieldType.boolean), Jvm.Cond.code ({ cls := "java/lang/Long", name := "valueOf", desc := "(J)Ljava/lang/Long;" } : Jvm.MethodName) jdk_35_method_24_code (3 : Nat) (Option.some (Jvm.ClassFile.FieldType.object "java/lang/Long")), Jvm.Cond.code ({ cls := "java/lang/Long", name := "<init>", desc := "(J)V" } : Jvm.MethodName) jdk_35_method_26_code (3 : Nat) (Option.none : Option Jvm.ClassFile.FieldType), Jvm.Cond.code ({ cls := "java/lang/Number", name := "<init>", desc := "()V" } : Jvm.MethodName) jdk_18_method_1_code (1 : Nat) (Option.none : Option Jvm.ClassFile.FieldType)]
set_option maxRecDepth 65536 in
theorem codes_eq : words1.filter isCode = codes1 := rfl
theorem w_codes : ∀ c ∈ words1.filter isCode, c.before args0 about1 = true := by
  rw [codes_eq]
  intro c hc
  simp only [codes1, List.mem_cons, List.not_mem_nil, or_false] at hc
  rcases hc with rfl | rfl | rfl | rfl | rfl | rfl | rfl
  · exact w_c0
  · exact w_c1
  · exact w_c2
  · exact w_c3
  · exact w_c4
  · exact w_c5
  · exact w_c6
set_option maxRecDepth 65536 in
theorem w_t1 : (words1.take 24).all (fun c => isCode c || c.before args0 about1) = true := by decide +kernel
set_option maxRecDepth 65536 in
theorem w_t2 : (words1.drop 24).all (fun c => isCode c || c.before args0 about1) = true := by decide +kernel
theorem w_tables : (allAtoms (Jvm.Cond.code x code maxLocals ret :: tables_1)).before args0 about1 = true := by
  rw [allAtoms_all]
  show words1.all (fun c => c.before args0 about1) = true
  refine all_split ?_ w_codes
  rw [← List.take_append_drop 24 words1, List.all_append, w_t1, w_t2]
  rfl
set_option maxRecDepth 65536 in
theorem w_rest : rest_1_c.before args0 about1 = true := by decide +kernel
set_option maxRecDepth 65536 in
theorem w_case : (Jvm.Cond.and given_1 narrow_1).before args0 about1 = true := by decide +kernel
theorem w_applies : (headSpec (Jvm.Cond.code x code maxLocals ret :: tables_1) room_1).applies x e0.platform about1 = true :=
  (Spec.applies_iff w_frames).mpr ⟨w_running, w_runnable, w_alone, w_named, w_hears, w_ripe, w_room, w_tables⟩
theorem atStart : AtStart classFile x code maxLocals ret World_1 tables_1 room_1 Calls_1 rest_1 Pre_1 launch0 p0 e0 about1 theMethod args0 below0 :=
  ⟨lists_1, trivial, launch0.admits_env _ _ _, launch0.least_env, fairChoices_fair.cas, fairChoices_fair.clock, w_frames, w_args, w_heap, w_applies, trivial, w_rest, w_case⟩
end start1
theorem witness_1 : WitnessClaimed_1 := ⟨start1.p0, start1.e0, start1.about1, start1.theMethod, start1.args0, start1.below0, start1.atStart⟩
end Jvm.Pilot.@@N@@
