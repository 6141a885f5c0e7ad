import JvmDerived
import JvmDerived.Pilot.@@N@@Statement
import JvmDerived.Pilot.@@N@@Code
set_option linter.unusedVariables false
set_option linter.unusedSimpArgs false
namespace Jvm.RoadKit
open Sem ClassFile Op Lib Jvm.Stand Jvm.Free Jvm.LawKit
section New
variable {p : Program} {l : Launch} {e : Env} {R : Room} {s : State} {m : MethodId} {args : Array Value} {below : List Frame} {meth : Method} {c : Code} {T : State} {locs : List Loc} {cells slots : Nat}
theorem retI (X : Stand p l e R s m args below meth c T locs cells slots) (hx : p.tables.exec = Jvm.exec) {pc : Nat} {Ls : Array Slot} {z : Int32} {rest : List Value} (hret : meth.sig.returnType = some .int) (hd : decode c.code pc = .ok (.ireturn, 1)) {fs : List Frame}
    (hl : ∀ (f : JFrame) (acts : List Action), f.method = m → f.locked = none → f.entered = [] → (doReturn e (T.setTop f) acts (some (.int z))).1 = T.setFrames fs) : Steps p.tables e below (T.setTop (mkF m pc Ls (.int z :: rest))) (T.setFrames fs) := by
  have hm' : T.vm.method? m = some meth := X.method'
  have hn : narrow .int (.int z) = .int z := rfl
  show Steps p.tables e below (T.setTop { method := m, pc := pc, locals := Ls, stack := _ :: rest, locked := none }) _
  jvm_step X.here [X.here.top, hx, hd, hm', hret, hn]
  first | (intro acts; rw [hl _ acts rfl rfl rfl]) | rw [hl _ _ rfl rfl rfl]
  exact Steps.refl _
end New
end Jvm.RoadKit
namespace Jvm.Pilot.@@N@@
open Jvm Jvm.ClassFile Sem Op Lib Jvm.Free Jvm.Stand Jvm.LawKit Jvm.RoadKit Bundle Jvm.Pilot.@@N@@.Jvm.D
theorem own_len {args : Array Value} {s : State} {t : Jvm.Term} {a : Addr} {cl : Cell} {n : Int32} (ht : t.eval args s none [] s = some (.ref a)) (ha : s.arrayAt? a = some cl) (h : (Jvm.Term.length t).eval args s none [] s = some (.int n)) : cl.slots.size < 2 ^ 31 := by
  by_cases q : cl.slots.size < 2 ^ 31
  · exact q
  · simp [Term.eval, ht, ha, q] at h
def own_min (a b : Int32) : Int32 := if b < a then b else a
theorem ef_1 (m : MethodId) (x0 : Int32) (x1 : Int32) : entryFrame m #[(.int x0), (.int x1)] 2 = mkF m 0 #[.val (.int x0), .val (.int x1)] [] := by first | (simp [entryFrame, mkF, argsToLocals, Value.category]; done) | rfl
theorem d1_0 : decode jdk_29_method_69_code 0 = .ok (.iload_n 0, 1) := by decide +kernel
theorem d1_1 : decode jdk_29_method_69_code 1 = .ok (.iload_n 1, 1) := by decide +kernel
theorem d1_2 : decode jdk_29_method_69_code 2 = .ok (.if_icmp .gt 7, 3) := by decide +kernel
theorem d1_9 : decode jdk_29_method_69_code 9 = .ok (.iload_n 1, 1) := by decide +kernel
theorem d1_10 : decode jdk_29_method_69_code 10 = .ok (.ireturn, 1) := by decide +kernel
theorem d1_5 : decode jdk_29_method_69_code 5 = .ok (.iload_n 0, 1) := by decide +kernel
theorem d1_6 : decode jdk_29_method_69_code 6 = .ok (.goto 4, 3) := by decide +kernel
def Q1 (Z : State) (p1 p2 : Int32) (h0 : Heap) (n0 : Nat) (v : Option Value) (h : Heap) (L : List Loc) : Prop := v = some (.int (own_min p1 p2)) ∧ Fr n0 L ∧ h = h0
set_option maxRecDepth 65536 in
set_option maxHeartbeats 40000000 in
theorem rm1 (l : Launch) (Z : State) (a0 : Array Value) (hw : ∀ d ∈ tables_1, d.before a0 Z = true) (ws : List Jvm.Cond) (p1 p2 : Int32) (h0 : Heap) (n0 : Nat) (Z0 : n0 ≤ h0.size)  :
    MetFree l (⟨"java/lang/Math", "min", "(II)I"⟩ : MethodName) (head1 (Jvm.Cond.code (⟨"java/lang/Math", "min", "(II)I"⟩ : MethodName) jdk_29_method_69_code 2 (some .int) :: ws) ({ frames := 0, cells := 0, slots := 0, locals := 0 } : Room)) (fun a U => a = #[(.int p1), (.int p2)] ∧ Z.Warmed39 U.vm ∧ U.heap = h0) (fun _ _ _ _ _ => True) (fun _ U o U' => ∃ v L, o = .returned v ∧ Q1 Z p1 p2 h0 n0 v U'.heap L ∧ FrameEnd U o U' L ({ frames := 0, cells := 0, slots := 0, locals := 0 } : Room).cells ({ frames := 0, cells := 0, slots := 0, locals := 0 } : Room).slots) := by
  refine MetFree.of_bodySF (Jvm.Free.JP.mathPlain rfl (by decide +kernel)) hisR ?_
  intro p e s m args below meth c s₁ Bd hml0 hP hK
  obtain ⟨rfl, hZ, hh⟩ := hP
  have hx := Bd.exec
  have hby := Bd.bytes
  have hml : c.maxLocals = 2 := hml0
  have hown : s.vm.findClass "java/lang/Math" = some m.cls := findClass_of_methodNamed Bd.named
  have hnm := (name_of_methodNamed Bd.named Bd.method).1
  have X0 : Stand p l e ({ frames := 0, cells := 0, slots := 0, locals := 0 } : Room) s m #[(.int p1), (.int p2)] below meth c s₁ [] 0 0 := Stand.of_body Bd
  have e0 : s₁.heap = h0 := by rw [← hh, Bd.state]; rfl
  have N0 := Fr.nil n0
  have pre0 : ∀ t, Steps p.tables e below (s₁.setTop (mkF m 0 #[.val (.int p1), .val (.int p2)] [])) t → Steps p.tables e below (s₁.setTop (entryFrame m #[(.int p1), (.int p2)] 2)) t := fun t k => castTop (ef_1 m p1 p2) k
  have P1 : ∀ t, Steps p.tables e below (s₁.setTop (mkF m 2 #[.val (.int p1), .val (.int p2)] [(.int p2), (.int p1)])) t → Steps p.tables e below (s₁.setTop (mkF m 0 #[.val (.int p1), .val (.int p2)] [])) t := fun t k => by
    show Steps p.tables e below (s₁.setTop (mkF m 0 #[.val (.int p1), .val (.int p2)] [])) t
    refine XS.iloadN X0.here hx rfl (hb hby d1_0) rfl ?_
    show Steps p.tables e below (s₁.setTop (mkF m 1 #[.val (.int p1), .val (.int p2)] [(.int p1)])) t
    refine XS.iloadN X0.here hx rfl (hb hby d1_1) rfl ?_
    exact k
  by_cases hc2 : p2 < p1
  · have P3 : ∀ t, Steps p.tables e below (s₁.setTop (mkF m 10 #[.val (.int p1), .val (.int p2)] [(.int p2)])) t → Steps p.tables e below (s₁.setTop (mkF m 0 #[.val (.int p1), .val (.int p2)] [])) t := fun t k => by
      refine P1 t ?_
      show Steps p.tables e below (s₁.setTop (mkF m 2 #[.val (.int p1), .val (.int p2)] [(.int p2), (.int p1)])) t
      refine XS.icmpYes X0.here hx rfl (pc0 := 2) (pc' := 9) rfl (hb hby d1_2) rfl (tlt hc2).2.2.1 (by decide) (by decide) ?_
      show Steps p.tables e below (s₁.setTop (mkF m 9 #[.val (.int p1), .val (.int p2)] [])) t
      refine XS.iloadN X0.here hx rfl (hb hby d1_9) rfl ?_
      exact k
    obtain ⟨fs, hr, hrun, hended, hW, hsame⟩ := X0.leave (v := some (.int p2)) (fun h => by rw [Bd.returns] at h; cases h)
    refine ⟨_, _, pre0 _ (P3 _ ?_), hrun, hended, _, _, rfl, ?_, ⟨_, rfl⟩, hW, hsame.mono (by decide) (by decide)⟩
    · exact retI X0 hx Bd.returns (hb hby d1_10) hr
    · show Q1 Z p1 p2 h0 n0 _ s₁.heap _
      rw [e0]
      exact ⟨by rw [own_min, if_pos hc2], N0, rfl⟩
  · have P4 : ∀ t, Steps p.tables e below (s₁.setTop (mkF m 10 #[.val (.int p1), .val (.int p2)] [(.int p1)])) t → Steps p.tables e below (s₁.setTop (mkF m 0 #[.val (.int p1), .val (.int p2)] [])) t := fun t k => by
      refine P1 t ?_
      show Steps p.tables e below (s₁.setTop (mkF m 2 #[.val (.int p1), .val (.int p2)] [(.int p2), (.int p1)])) t
      refine XS.icmpNo X0.here hx rfl (hb hby d1_2) rfl (flt hc2).2.2.1 ?_
      show Steps p.tables e below (s₁.setTop (mkF m 5 #[.val (.int p1), .val (.int p2)] [])) t
      refine XS.iloadN X0.here hx rfl (hb hby d1_5) rfl ?_
      show Steps p.tables e below (s₁.setTop (mkF m 6 #[.val (.int p1), .val (.int p2)] [(.int p1)])) t
      refine XS.goto X0.here hx rfl (pc0 := 6) (pc' := 10) rfl (hb hby d1_6) (by decide) (by decide) ?_
      exact k
    obtain ⟨fs, hr, hrun, hended, hW, hsame⟩ := X0.leave (v := some (.int p1)) (fun h => by rw [Bd.returns] at h; cases h)
    refine ⟨_, _, pre0 _ (P4 _ ?_), hrun, hended, _, _, rfl, ?_, ⟨_, rfl⟩, hW, hsame.mono (by decide) (by decide)⟩
    · exact retI X0 hx Bd.returns (hb hby d1_10) hr
    · show Q1 Z p1 p2 h0 n0 _ s₁.heap _
      rw [e0]
      exact ⟨by rw [own_min, if_neg hc2], N0, rfl⟩
theorem pn_2 : plainName "com/example/vestline/vestline/text/TextFile" = true := by first | (simp [plainName, overriddenIn]; done) | decide +kernel
theorem ef_2 (m : MethodId) (x0 : Addr) (x1 : Int32) : entryFrame m #[(.ref x0), (.int x1)] 4 = mkF m 0 #[.val (.ref x0), .val (.int x1), .unset, .unset] [] := by first | (simp [entryFrame, mkF, argsToLocals, Value.category]; done) | rfl
theorem d2_0 : decode prog_115_method_10_code 0 = .ok (.iload_n 1, 1) := by decide +kernel
theorem d2_1 : decode prog_115_method_10_code 1 = .ok (.iconst 3, 1) := by decide +kernel
theorem d2_2 : decode prog_115_method_10_code 2 = .ok (.if_icmp .lt 7, 3) := by decide +kernel
theorem d2_5 : decode prog_115_method_10_code 5 = .ok (.iconst 1, 1) := by decide +kernel
theorem d2_6 : decode prog_115_method_10_code 6 = .ok (.goto 4, 3) := by decide +kernel
theorem d2_10 : decode prog_115_method_10_code 10 = .ok (.istore_n 2, 1) := by decide +kernel
theorem d2_11 : decode prog_115_method_10_code 11 = .ok (.iconst 0, 1) := by decide +kernel
theorem d2_12 : decode prog_115_method_10_code 12 = .ok (.istore_n 3, 1) := by decide +kernel
theorem d2_13 : decode prog_115_method_10_code 13 = .ok (.iload_n 2, 1) := by decide +kernel
theorem d2_14 : decode prog_115_method_10_code 14 = .ok (.ifCond .eq 31, 3) := by decide +kernel
theorem d2_17 : decode prog_115_method_10_code 17 = .ok (.iload_n 3, 1) := by decide +kernel
theorem d2_18 : decode prog_115_method_10_code 18 = .ok (.iconst 3, 1) := by decide +kernel
theorem d2_19 : decode prog_115_method_10_code 19 = .ok (.if_icmp .ge 26, 3) := by decide +kernel
theorem d2_22 : decode prog_115_method_10_code 22 = .ok (.aload_n 0, 1) := by decide +kernel
theorem d2_23 : decode prog_115_method_10_code 23 = .ok (.iload_n 3, 1) := by decide +kernel
theorem d2_24 : decode prog_115_method_10_code 24 = .ok (.baload, 1) := by decide +kernel
theorem d2_25 : decode prog_115_method_10_code 25 = .ok (.getstatic 148, 3) := by decide +kernel
theorem d2_28 : decode prog_115_method_10_code 28 = .ok (.iload_n 3, 1) := by decide +kernel
theorem d2_29 : decode prog_115_method_10_code 29 = .ok (.baload, 1) := by decide +kernel
theorem d2_30 : decode prog_115_method_10_code 30 = .ok (.if_icmp .ne 7, 3) := by decide +kernel
theorem d2_37 : decode prog_115_method_10_code 37 = .ok (.iconst 0, 1) := by decide +kernel
theorem d2_38 : decode prog_115_method_10_code 38 = .ok (.istore_n 2, 1) := by decide +kernel
theorem d2_39 : decode prog_115_method_10_code 39 = .ok (.iinc 3 1, 3) := by decide +kernel
theorem d2_42 : decode prog_115_method_10_code 42 = .ok (.goto (-29), 3) := by decide +kernel
theorem d2_45 : decode prog_115_method_10_code 45 = .ok (.iload_n 2, 1) := by decide +kernel
theorem d2_46 : decode prog_115_method_10_code 46 = .ok (.ireturn, 1) := by decide +kernel
def Q2_0 (Z : State) (a1 : Addr) (p2 : Int32) (wB : Addr) (ka kb : ClassId) (nn y0 y1 y2 y3 : Int32) (h0 : Heap) (n0 : Nat) (v : Option Value) (h : Heap) (L : List Loc) : Prop := v = some (.int (0 : Int32)) ∧ Fr n0 L ∧ h = h0
set_option maxRecDepth 65536 in
set_option maxHeartbeats 40000000 in
theorem rm2_0 (l : Launch) (Z : State) (a0 : Array Value) (hw : ∀ d ∈ tables_1, d.before a0 Z = true) (ws : List Jvm.Cond) (a1 : Addr) (p2 : Int32) (wB : Addr) (ka kb : ClassId) (nn y0 y1 y2 y3 : Int32) (h0 : Heap) (n0 : Nat) (Z0 : n0 ≤ h0.size) (S : Sta Z h0 "com/example/vestline/vestline/text/TextFile" "BYTE_ORDER_MARK_BYTES" "[B" (.ref wB)) (VA : Arv Z h0 a1 ka .byte nn [(.int y0), (.int y1), (.int y2), (.int y3)] (.int (0 : Int32))) (VB : Arv Z h0 wB kb .byte (3 : Int32) [(.int (-17 : Int32)), (.int (-69 : Int32)), (.int (-65 : Int32))] (.int (0 : Int32))) (hl : ¬ p2 < 3) (hn : (2 : Int32) < nn) (hy0 : ¬ y0 = -17) :
    MetFree l (⟨"com/example/vestline/vestline/text/TextFile", "startsWithByteOrderMark", "([BI)Z"⟩ : MethodName) (head1 (Jvm.Cond.code (⟨"com/example/vestline/vestline/text/TextFile", "startsWithByteOrderMark", "([BI)Z"⟩ : MethodName) prog_115_method_10_code 4 (some .boolean) :: ws) ({ frames := 0, cells := 0, slots := 0, locals := 0 } : Room)) (fun a U => a = #[(.ref a1), (.int p2)] ∧ Z.Warmed39 U.vm ∧ U.heap = h0) (fun _ _ _ _ _ => True) (fun _ U o U' => ∃ v L, o = .returned v ∧ Q2_0 Z a1 p2 wB ka kb nn y0 y1 y2 y3 h0 n0 v U'.heap L ∧ FrameEnd U o U' L ({ frames := 0, cells := 0, slots := 0, locals := 0 } : Room).cells ({ frames := 0, cells := 0, slots := 0, locals := 0 } : Room).slots) := by
  refine MetFree.of_bodySF (plainFor_of_name pn_2) hisR ?_
  intro p e s m args below meth c s₁ Bd hml0 hP hK
  obtain ⟨rfl, hZ, hh⟩ := hP
  have hx := Bd.exec
  have hby := Bd.bytes
  have hml : c.maxLocals = 4 := hml0
  have hown : s.vm.findClass "com/example/vestline/vestline/text/TextFile" = some m.cls := findClass_of_methodNamed Bd.named
  have hnm := (name_of_methodNamed Bd.named Bd.method).1
  have X0 : Stand p l e ({ frames := 0, cells := 0, slots := 0, locals := 0 } : Room) s m #[(.ref a1), (.int p2)] below meth c s₁ [] 0 0 := Stand.of_body Bd
  have e0 : s₁.heap = h0 := by rw [← hh, Bd.state]; rfl
  have N0 := Fr.nil n0
  have pre0 : ∀ t, Steps p.tables e below (s₁.setTop (mkF m 0 #[.val (.ref a1), .val (.int p2), .unset, .unset] [])) t → Steps p.tables e below (s₁.setTop (entryFrame m #[(.ref a1), (.int p2)] 4)) t := fun t k => castTop (ef_2 m a1 p2) k
  have hl0 : (0 : Int32) < nn := by rw [Int32.lt_iff_toInt_lt] at *; have : (2 : Int32).toInt = 2 := rfl; have : (0 : Int32).toInt = 0 := rfl; omega
  have hl1 : ((0 : Int32) + (1 : Int32)) < nn := by rw [Int32.lt_iff_toInt_lt] at *; have : (2 : Int32).toInt = 2 := rfl; have : ((0 : Int32) + (1 : Int32)).toInt = 1 := rfl; omega
  have hl2 : (((0 : Int32) + (1 : Int32)) + (1 : Int32)) < nn := by rw [Int32.lt_iff_toInt_lt] at *; have : (2 : Int32).toInt = 2 := rfl; have : (((0 : Int32) + (1 : Int32)) + (1 : Int32)).toInt = 2 := rfl; omega
  obtain ⟨cl1, Ar1, q1, S1_, N1_, H1_, G1_⟩ := id VA
  have hin1 : ¬ ((0 : Int32) < 0 ∨ cl1.slots.size ≤ ((0 : Int32)).toNatClampNeg) := inb_of S1_ ⟨by decide, hl0⟩
  have P2 : ∀ t, Steps p.tables e below (s₁.setTop (mkF m 25 #[.val (.ref a1), .val (.int p2), .val (.int (1 : Int32)), .val (.int (0 : Int32))] [(.int y0)])) t → Steps p.tables e below (s₁.setTop (mkF m 0 #[.val (.ref a1), .val (.int p2), .unset, .unset] [])) t := fun t k => by
    show Steps p.tables e below (s₁.setTop (mkF m 0 #[.val (.ref a1), .val (.int p2), .unset, .unset] [])) t
    refine XS.iloadN X0.here hx rfl (hb hby d2_0) rfl ?_
    show Steps p.tables e below (s₁.setTop (mkF m 1 #[.val (.ref a1), .val (.int p2), .unset, .unset] [(.int p2)])) t
    refine XS.iconst X0.here hx rfl (hb hby d2_1) ?_
    show Steps p.tables e below (s₁.setTop (mkF m 2 #[.val (.ref a1), .val (.int p2), .unset, .unset] [(.int (3 : Int32)), (.int p2)])) t
    refine XS.icmpNo X0.here hx rfl (hb hby d2_2) rfl (flt hl).1 ?_
    show Steps p.tables e below (s₁.setTop (mkF m 5 #[.val (.ref a1), .val (.int p2), .unset, .unset] [])) t
    refine XS.iconst X0.here hx rfl (hb hby d2_5) ?_
    show Steps p.tables e below (s₁.setTop (mkF m 6 #[.val (.ref a1), .val (.int p2), .unset, .unset] [(.int (1 : Int32))])) t
    refine XS.goto X0.here hx rfl (pc0 := 6) (pc' := 10) rfl (hb hby d2_6) (by decide) (by decide) ?_
    show Steps p.tables e below (s₁.setTop (mkF m 10 #[.val (.ref a1), .val (.int p2), .unset, .unset] [(.int (1 : Int32))])) t
    refine XS.istoreN X0.here hx rfl (hb hby d2_10) rfl (l' := #[.val (.ref a1), .val (.int p2), .val (.int (1 : Int32)), .unset]) rfl ?_
    show Steps p.tables e below (s₁.setTop (mkF m 11 #[.val (.ref a1), .val (.int p2), .val (.int (1 : Int32)), .unset] [])) t
    refine XS.iconst X0.here hx rfl (hb hby d2_11) ?_
    show Steps p.tables e below (s₁.setTop (mkF m 12 #[.val (.ref a1), .val (.int p2), .val (.int (1 : Int32)), .unset] [(.int (0 : Int32))])) t
    refine XS.istoreN X0.here hx rfl (hb hby d2_12) rfl (l' := #[.val (.ref a1), .val (.int p2), .val (.int (1 : Int32)), .val (.int (0 : Int32))]) rfl ?_
    show Steps p.tables e below (s₁.setTop (mkF m 13 #[.val (.ref a1), .val (.int p2), .val (.int (1 : Int32)), .val (.int (0 : Int32))] [])) t
    refine XS.iloadN X0.here hx rfl (hb hby d2_13) rfl ?_
    show Steps p.tables e below (s₁.setTop (mkF m 14 #[.val (.ref a1), .val (.int p2), .val (.int (1 : Int32)), .val (.int (0 : Int32))] [(.int (1 : Int32))])) t
    refine XS.ifNo X0.here hx rfl (hb hby d2_14) rfl ((if0 _ _).trans (feq (by decide)).1) ?_
    show Steps p.tables e below (s₁.setTop (mkF m 17 #[.val (.ref a1), .val (.int p2), .val (.int (1 : Int32)), .val (.int (0 : Int32))] [])) t
    refine XS.iloadN X0.here hx rfl (hb hby d2_17) rfl ?_
    show Steps p.tables e below (s₁.setTop (mkF m 18 #[.val (.ref a1), .val (.int p2), .val (.int (1 : Int32)), .val (.int (0 : Int32))] [(.int (0 : Int32))])) t
    refine XS.iconst X0.here hx rfl (hb hby d2_18) ?_
    show Steps p.tables e below (s₁.setTop (mkF m 19 #[.val (.ref a1), .val (.int p2), .val (.int (1 : Int32)), .val (.int (0 : Int32))] [(.int (3 : Int32)), (.int (0 : Int32))])) t
    refine XS.icmpNo X0.here hx rfl (hb hby d2_19) rfl (tlt (by decide)).2.1 ?_
    show Steps p.tables e below (s₁.setTop (mkF m 22 #[.val (.ref a1), .val (.int p2), .val (.int (1 : Int32)), .val (.int (0 : Int32))] [])) t
    refine XS.aloadN X0.here hx rfl (hb hby d2_22) rfl rfl ?_
    show Steps p.tables e below (s₁.setTop (mkF m 23 #[.val (.ref a1), .val (.int p2), .val (.int (1 : Int32)), .val (.int (0 : Int32))] [(.ref a1)])) t
    refine XS.iloadN X0.here hx rfl (hb hby d2_23) rfl ?_
    show Steps p.tables e below (s₁.setTop (mkF m 24 #[.val (.ref a1), .val (.int p2), .val (.int (1 : Int32)), .val (.int (0 : Int32))] [(.int (0 : Int32)), (.ref a1)])) t
    refine X0.baloadBytes hx (j := (0 : Int32)) (v := (.int y0)) (by rw [e0]; exact Ar1.1) (State.isArrayOf_alike hZ.alike Ar1.2.1) Ar1.2.2 hin1 (Has.at H1_ hin1 rfl) (g := (mkF m 24 #[.val (.ref a1), .val (.int p2), .val (.int (1 : Int32)), .val (.int (0 : Int32))] [(.int (0 : Int32)), (.ref a1)])) rfl rfl (hb hby d2_24) _ ?_
    exact k
  obtain ⟨T3, X3, e3, st3⟩ := getS2 X0 hx hZ hown (host := "") (Or.inl (hw _ (List.mem_of_getElem? (i := 9) rfl))) Via.refl e0 S (g := (mkF m 25 #[.val (.ref a1), .val (.int p2), .val (.int (1 : Int32)), .val (.int (0 : Int32))] [(.int y0)])) rfl (hb hby d2_25)
  have P4 : ∀ t, Steps p.tables e below (T3.setTop (mkF m 28 #[.val (.ref a1), .val (.int p2), .val (.int (1 : Int32)), .val (.int (0 : Int32))] [(.ref wB), (.int y0)])) t → Steps p.tables e below (s₁.setTop (mkF m 0 #[.val (.ref a1), .val (.int p2), .unset, .unset] [])) t := fun t k => P2 t (st3 _ k)
  obtain ⟨cl5, Ar5, q5, S5_, N5_, H5_, G5_⟩ := id VB
  have hin5 : ¬ ((0 : Int32) < 0 ∨ cl5.slots.size ≤ ((0 : Int32)).toNatClampNeg) := inb_of S5_ ⟨by decide, by decide⟩
  have P6 : ∀ t, Steps p.tables e below (T3.setTop (mkF m 46 #[.val (.ref a1), .val (.int p2), .val (.int (0 : Int32)), .val (.int ((0 : Int32) + (1 : Int32)))] [(.int (0 : Int32))])) t → Steps p.tables e below (s₁.setTop (mkF m 0 #[.val (.ref a1), .val (.int p2), .unset, .unset] [])) t := fun t k => by
    refine P4 t ?_
    show Steps p.tables e below (T3.setTop (mkF m 28 #[.val (.ref a1), .val (.int p2), .val (.int (1 : Int32)), .val (.int (0 : Int32))] [(.ref wB), (.int y0)])) t
    refine XS.iloadN X3.here hx rfl (hb hby d2_28) rfl ?_
    show Steps p.tables e below (T3.setTop (mkF m 29 #[.val (.ref a1), .val (.int p2), .val (.int (1 : Int32)), .val (.int (0 : Int32))] [(.int (0 : Int32)), (.ref wB), (.int y0)])) t
    refine X3.baloadBytes hx (j := (0 : Int32)) (v := (.int (-17 : Int32))) (by rw [e3]; exact Ar5.1) (State.isArrayOf_alike hZ.alike Ar5.2.1) Ar5.2.2 hin5 (Has.at H5_ hin5 rfl) (g := (mkF m 29 #[.val (.ref a1), .val (.int p2), .val (.int (1 : Int32)), .val (.int (0 : Int32))] [(.int (0 : Int32)), (.ref wB), (.int y0)])) rfl rfl (hb hby d2_29) _ ?_
    show Steps p.tables e below (T3.setTop (mkF m 30 #[.val (.ref a1), .val (.int p2), .val (.int (1 : Int32)), .val (.int (0 : Int32))] [(.int (-17 : Int32)), (.int y0)])) t
    refine XS.icmpYes X3.here hx rfl (pc0 := 30) (pc' := 37) rfl (hb hby d2_30) rfl (feq hy0).2 (by decide) (by decide) ?_
    show Steps p.tables e below (T3.setTop (mkF m 37 #[.val (.ref a1), .val (.int p2), .val (.int (1 : Int32)), .val (.int (0 : Int32))] [])) t
    refine XS.iconst X3.here hx rfl (hb hby d2_37) ?_
    show Steps p.tables e below (T3.setTop (mkF m 38 #[.val (.ref a1), .val (.int p2), .val (.int (1 : Int32)), .val (.int (0 : Int32))] [(.int (0 : Int32))])) t
    refine XS.istoreN X3.here hx rfl (hb hby d2_38) rfl (l' := #[.val (.ref a1), .val (.int p2), .val (.int (0 : Int32)), .val (.int (0 : Int32))]) rfl ?_
    show Steps p.tables e below (T3.setTop (mkF m 39 #[.val (.ref a1), .val (.int p2), .val (.int (0 : Int32)), .val (.int (0 : Int32))] [])) t
    refine XS.iinc X3.here hx rfl (hb hby d2_39) rfl (l' := #[.val (.ref a1), .val (.int p2), .val (.int (0 : Int32)), .val (.int ((0 : Int32) + (1 : Int32)))]) rfl ?_
    show Steps p.tables e below (T3.setTop (mkF m 42 #[.val (.ref a1), .val (.int p2), .val (.int (0 : Int32)), .val (.int ((0 : Int32) + (1 : Int32)))] [])) t
    refine XS.goto X3.here hx rfl (pc0 := 42) (pc' := 13) rfl (hb hby d2_42) (by decide) (by decide) ?_
    show Steps p.tables e below (T3.setTop (mkF m 13 #[.val (.ref a1), .val (.int p2), .val (.int (0 : Int32)), .val (.int ((0 : Int32) + (1 : Int32)))] [])) t
    refine XS.iloadN X3.here hx rfl (hb hby d2_13) rfl ?_
    show Steps p.tables e below (T3.setTop (mkF m 14 #[.val (.ref a1), .val (.int p2), .val (.int (0 : Int32)), .val (.int ((0 : Int32) + (1 : Int32)))] [(.int (0 : Int32))])) t
    refine XS.ifYes X3.here hx rfl (pc0 := 14) (pc' := 45) rfl (hb hby d2_14) rfl ((if0 _ _).trans (teq rfl).1) (by decide) (by decide) ?_
    show Steps p.tables e below (T3.setTop (mkF m 45 #[.val (.ref a1), .val (.int p2), .val (.int (0 : Int32)), .val (.int ((0 : Int32) + (1 : Int32)))] [])) t
    refine XS.iloadN X3.here hx rfl (hb hby d2_45) rfl ?_
    exact k
  obtain ⟨fs, hr, hrun, hended, hW, hsame⟩ := X3.leave (v := some (.int (0 : Int32))) (fun h => by rw [Bd.returns] at h; cases h)
  refine ⟨_, _, pre0 _ (P6 _ ?_), hrun, hended, _, _, rfl, ?_, ⟨_, rfl⟩, hW, hsame.mono (by decide) (by decide)⟩
  · exact retN X3 hx (t := .boolean) Bd.returns (by simp) (hb hby d2_46) hr
  · show Q2_0 Z a1 p2 wB ka kb nn y0 y1 y2 y3 h0 n0 _ T3.heap _
    rw [e3]
    exact ⟨rfl, N0, rfl⟩
theorem d2_33 : decode prog_115_method_10_code 33 = .ok (.iconst 1, 1) := by decide +kernel
theorem d2_34 : decode prog_115_method_10_code 34 = .ok (.goto 4, 3) := by decide +kernel
def Q2_1 (Z : State) (a1 : Addr) (p2 : Int32) (wB : Addr) (ka kb : ClassId) (nn y0 y1 y2 y3 : Int32) (h0 : Heap) (n0 : Nat) (v : Option Value) (h : Heap) (L : List Loc) : Prop := v = some (.int (0 : Int32)) ∧ Fr n0 L ∧ h = h0
set_option maxRecDepth 65536 in
set_option maxHeartbeats 40000000 in
theorem rm2_1 (l : Launch) (Z : State) (a0 : Array Value) (hw : ∀ d ∈ tables_1, d.before a0 Z = true) (ws : List Jvm.Cond) (a1 : Addr) (p2 : Int32) (wB : Addr) (ka kb : ClassId) (nn y0 y1 y2 y3 : Int32) (h0 : Heap) (n0 : Nat) (Z0 : n0 ≤ h0.size) (S : Sta Z h0 "com/example/vestline/vestline/text/TextFile" "BYTE_ORDER_MARK_BYTES" "[B" (.ref wB)) (VA : Arv Z h0 a1 ka .byte nn [(.int y0), (.int y1), (.int y2), (.int y3)] (.int (0 : Int32))) (VB : Arv Z h0 wB kb .byte (3 : Int32) [(.int (-17 : Int32)), (.int (-69 : Int32)), (.int (-65 : Int32))] (.int (0 : Int32))) (hl : ¬ p2 < 3) (hn : (2 : Int32) < nn) (hy0 : y0 = -17)  (hy1 : ¬ y1 = -69) :
    MetFree l (⟨"com/example/vestline/vestline/text/TextFile", "startsWithByteOrderMark", "([BI)Z"⟩ : MethodName) (head1 (Jvm.Cond.code (⟨"com/example/vestline/vestline/text/TextFile", "startsWithByteOrderMark", "([BI)Z"⟩ : MethodName) prog_115_method_10_code 4 (some .boolean) :: ws) ({ frames := 0, cells := 0, slots := 0, locals := 0 } : Room)) (fun a U => a = #[(.ref a1), (.int p2)] ∧ Z.Warmed39 U.vm ∧ U.heap = h0) (fun _ _ _ _ _ => True) (fun _ U o U' => ∃ v L, o = .returned v ∧ Q2_1 Z a1 p2 wB ka kb nn y0 y1 y2 y3 h0 n0 v U'.heap L ∧ FrameEnd U o U' L ({ frames := 0, cells := 0, slots := 0, locals := 0 } : Room).cells ({ frames := 0, cells := 0, slots := 0, locals := 0 } : Room).slots) := by
  refine MetFree.of_bodySF (plainFor_of_name pn_2) hisR ?_
  intro p e s m args below meth c s₁ Bd hml0 hP hK
  obtain ⟨rfl, hZ, hh⟩ := hP
  have hx := Bd.exec
  have hby := Bd.bytes
  have hml : c.maxLocals = 4 := hml0
  have hown : s.vm.findClass "com/example/vestline/vestline/text/TextFile" = some m.cls := findClass_of_methodNamed Bd.named
  have hnm := (name_of_methodNamed Bd.named Bd.method).1
  have X0 : Stand p l e ({ frames := 0, cells := 0, slots := 0, locals := 0 } : Room) s m #[(.ref a1), (.int p2)] below meth c s₁ [] 0 0 := Stand.of_body Bd
  have e0 : s₁.heap = h0 := by rw [← hh, Bd.state]; rfl
  have N0 := Fr.nil n0
  have pre0 : ∀ t, Steps p.tables e below (s₁.setTop (mkF m 0 #[.val (.ref a1), .val (.int p2), .unset, .unset] [])) t → Steps p.tables e below (s₁.setTop (entryFrame m #[(.ref a1), (.int p2)] 4)) t := fun t k => castTop (ef_2 m a1 p2) k
  have hl0 : (0 : Int32) < nn := by rw [Int32.lt_iff_toInt_lt] at *; have : (2 : Int32).toInt = 2 := rfl; have : (0 : Int32).toInt = 0 := rfl; omega
  have hl1 : ((0 : Int32) + (1 : Int32)) < nn := by rw [Int32.lt_iff_toInt_lt] at *; have : (2 : Int32).toInt = 2 := rfl; have : ((0 : Int32) + (1 : Int32)).toInt = 1 := rfl; omega
  have hl2 : (((0 : Int32) + (1 : Int32)) + (1 : Int32)) < nn := by rw [Int32.lt_iff_toInt_lt] at *; have : (2 : Int32).toInt = 2 := rfl; have : (((0 : Int32) + (1 : Int32)) + (1 : Int32)).toInt = 2 := rfl; omega
  obtain ⟨cl1, Ar1, q1, S1_, N1_, H1_, G1_⟩ := id VA
  have hin1 : ¬ ((0 : Int32) < 0 ∨ cl1.slots.size ≤ ((0 : Int32)).toNatClampNeg) := inb_of S1_ ⟨by decide, hl0⟩
  have P2 : ∀ t, Steps p.tables e below (s₁.setTop (mkF m 25 #[.val (.ref a1), .val (.int p2), .val (.int (1 : Int32)), .val (.int (0 : Int32))] [(.int y0)])) t → Steps p.tables e below (s₁.setTop (mkF m 0 #[.val (.ref a1), .val (.int p2), .unset, .unset] [])) t := fun t k => by
    show Steps p.tables e below (s₁.setTop (mkF m 0 #[.val (.ref a1), .val (.int p2), .unset, .unset] [])) t
    refine XS.iloadN X0.here hx rfl (hb hby d2_0) rfl ?_
    show Steps p.tables e below (s₁.setTop (mkF m 1 #[.val (.ref a1), .val (.int p2), .unset, .unset] [(.int p2)])) t
    refine XS.iconst X0.here hx rfl (hb hby d2_1) ?_
    show Steps p.tables e below (s₁.setTop (mkF m 2 #[.val (.ref a1), .val (.int p2), .unset, .unset] [(.int (3 : Int32)), (.int p2)])) t
    refine XS.icmpNo X0.here hx rfl (hb hby d2_2) rfl (flt hl).1 ?_
    show Steps p.tables e below (s₁.setTop (mkF m 5 #[.val (.ref a1), .val (.int p2), .unset, .unset] [])) t
    refine XS.iconst X0.here hx rfl (hb hby d2_5) ?_
    show Steps p.tables e below (s₁.setTop (mkF m 6 #[.val (.ref a1), .val (.int p2), .unset, .unset] [(.int (1 : Int32))])) t
    refine XS.goto X0.here hx rfl (pc0 := 6) (pc' := 10) rfl (hb hby d2_6) (by decide) (by decide) ?_
    show Steps p.tables e below (s₁.setTop (mkF m 10 #[.val (.ref a1), .val (.int p2), .unset, .unset] [(.int (1 : Int32))])) t
    refine XS.istoreN X0.here hx rfl (hb hby d2_10) rfl (l' := #[.val (.ref a1), .val (.int p2), .val (.int (1 : Int32)), .unset]) rfl ?_
    show Steps p.tables e below (s₁.setTop (mkF m 11 #[.val (.ref a1), .val (.int p2), .val (.int (1 : Int32)), .unset] [])) t
    refine XS.iconst X0.here hx rfl (hb hby d2_11) ?_
    show Steps p.tables e below (s₁.setTop (mkF m 12 #[.val (.ref a1), .val (.int p2), .val (.int (1 : Int32)), .unset] [(.int (0 : Int32))])) t
    refine XS.istoreN X0.here hx rfl (hb hby d2_12) rfl (l' := #[.val (.ref a1), .val (.int p2), .val (.int (1 : Int32)), .val (.int (0 : Int32))]) rfl ?_
    show Steps p.tables e below (s₁.setTop (mkF m 13 #[.val (.ref a1), .val (.int p2), .val (.int (1 : Int32)), .val (.int (0 : Int32))] [])) t
    refine XS.iloadN X0.here hx rfl (hb hby d2_13) rfl ?_
    show Steps p.tables e below (s₁.setTop (mkF m 14 #[.val (.ref a1), .val (.int p2), .val (.int (1 : Int32)), .val (.int (0 : Int32))] [(.int (1 : Int32))])) t
    refine XS.ifNo X0.here hx rfl (hb hby d2_14) rfl ((if0 _ _).trans (feq (by decide)).1) ?_
    show Steps p.tables e below (s₁.setTop (mkF m 17 #[.val (.ref a1), .val (.int p2), .val (.int (1 : Int32)), .val (.int (0 : Int32))] [])) t
    refine XS.iloadN X0.here hx rfl (hb hby d2_17) rfl ?_
    show Steps p.tables e below (s₁.setTop (mkF m 18 #[.val (.ref a1), .val (.int p2), .val (.int (1 : Int32)), .val (.int (0 : Int32))] [(.int (0 : Int32))])) t
    refine XS.iconst X0.here hx rfl (hb hby d2_18) ?_
    show Steps p.tables e below (s₁.setTop (mkF m 19 #[.val (.ref a1), .val (.int p2), .val (.int (1 : Int32)), .val (.int (0 : Int32))] [(.int (3 : Int32)), (.int (0 : Int32))])) t
    refine XS.icmpNo X0.here hx rfl (hb hby d2_19) rfl (tlt (by decide)).2.1 ?_
    show Steps p.tables e below (s₁.setTop (mkF m 22 #[.val (.ref a1), .val (.int p2), .val (.int (1 : Int32)), .val (.int (0 : Int32))] [])) t
    refine XS.aloadN X0.here hx rfl (hb hby d2_22) rfl rfl ?_
    show Steps p.tables e below (s₁.setTop (mkF m 23 #[.val (.ref a1), .val (.int p2), .val (.int (1 : Int32)), .val (.int (0 : Int32))] [(.ref a1)])) t
    refine XS.iloadN X0.here hx rfl (hb hby d2_23) rfl ?_
    show Steps p.tables e below (s₁.setTop (mkF m 24 #[.val (.ref a1), .val (.int p2), .val (.int (1 : Int32)), .val (.int (0 : Int32))] [(.int (0 : Int32)), (.ref a1)])) t
    refine X0.baloadBytes hx (j := (0 : Int32)) (v := (.int y0)) (by rw [e0]; exact Ar1.1) (State.isArrayOf_alike hZ.alike Ar1.2.1) Ar1.2.2 hin1 (Has.at H1_ hin1 rfl) (g := (mkF m 24 #[.val (.ref a1), .val (.int p2), .val (.int (1 : Int32)), .val (.int (0 : Int32))] [(.int (0 : Int32)), (.ref a1)])) rfl rfl (hb hby d2_24) _ ?_
    exact k
  obtain ⟨T3, X3, e3, st3⟩ := getS2 X0 hx hZ hown (host := "") (Or.inl (hw _ (List.mem_of_getElem? (i := 9) rfl))) Via.refl e0 S (g := (mkF m 25 #[.val (.ref a1), .val (.int p2), .val (.int (1 : Int32)), .val (.int (0 : Int32))] [(.int y0)])) rfl (hb hby d2_25)
  have P4 : ∀ t, Steps p.tables e below (T3.setTop (mkF m 28 #[.val (.ref a1), .val (.int p2), .val (.int (1 : Int32)), .val (.int (0 : Int32))] [(.ref wB), (.int y0)])) t → Steps p.tables e below (s₁.setTop (mkF m 0 #[.val (.ref a1), .val (.int p2), .unset, .unset] [])) t := fun t k => P2 t (st3 _ k)
  obtain ⟨cl5, Ar5, q5, S5_, N5_, H5_, G5_⟩ := id VB
  have hin5 : ¬ ((0 : Int32) < 0 ∨ cl5.slots.size ≤ ((0 : Int32)).toNatClampNeg) := inb_of S5_ ⟨by decide, by decide⟩
  obtain ⟨cl6, Ar6, q6, S6_, N6_, H6_, G6_⟩ := id VA
  have hin6 : ¬ (((0 : Int32) + (1 : Int32)) < 0 ∨ cl6.slots.size ≤ (((0 : Int32) + (1 : Int32))).toNatClampNeg) := inb_of S6_ ⟨by decide, hl1⟩
  have P7 : ∀ t, Steps p.tables e below (T3.setTop (mkF m 25 #[.val (.ref a1), .val (.int p2), .val (.int (1 : Int32)), .val (.int ((0 : Int32) + (1 : Int32)))] [(.int y1)])) t → Steps p.tables e below (s₁.setTop (mkF m 0 #[.val (.ref a1), .val (.int p2), .unset, .unset] [])) t := fun t k => by
    refine P4 t ?_
    show Steps p.tables e below (T3.setTop (mkF m 28 #[.val (.ref a1), .val (.int p2), .val (.int (1 : Int32)), .val (.int (0 : Int32))] [(.ref wB), (.int y0)])) t
    refine XS.iloadN X3.here hx rfl (hb hby d2_28) rfl ?_
    show Steps p.tables e below (T3.setTop (mkF m 29 #[.val (.ref a1), .val (.int p2), .val (.int (1 : Int32)), .val (.int (0 : Int32))] [(.int (0 : Int32)), (.ref wB), (.int y0)])) t
    refine X3.baloadBytes hx (j := (0 : Int32)) (v := (.int (-17 : Int32))) (by rw [e3]; exact Ar5.1) (State.isArrayOf_alike hZ.alike Ar5.2.1) Ar5.2.2 hin5 (Has.at H5_ hin5 rfl) (g := (mkF m 29 #[.val (.ref a1), .val (.int p2), .val (.int (1 : Int32)), .val (.int (0 : Int32))] [(.int (0 : Int32)), (.ref wB), (.int y0)])) rfl rfl (hb hby d2_29) _ ?_
    show Steps p.tables e below (T3.setTop (mkF m 30 #[.val (.ref a1), .val (.int p2), .val (.int (1 : Int32)), .val (.int (0 : Int32))] [(.int (-17 : Int32)), (.int y0)])) t
    refine XS.icmpNo X3.here hx rfl (hb hby d2_30) rfl (teq hy0).2 ?_
    show Steps p.tables e below (T3.setTop (mkF m 33 #[.val (.ref a1), .val (.int p2), .val (.int (1 : Int32)), .val (.int (0 : Int32))] [])) t
    refine XS.iconst X3.here hx rfl (hb hby d2_33) ?_
    show Steps p.tables e below (T3.setTop (mkF m 34 #[.val (.ref a1), .val (.int p2), .val (.int (1 : Int32)), .val (.int (0 : Int32))] [(.int (1 : Int32))])) t
    refine XS.goto X3.here hx rfl (pc0 := 34) (pc' := 38) rfl (hb hby d2_34) (by decide) (by decide) ?_
    show Steps p.tables e below (T3.setTop (mkF m 38 #[.val (.ref a1), .val (.int p2), .val (.int (1 : Int32)), .val (.int (0 : Int32))] [(.int (1 : Int32))])) t
    refine XS.istoreN X3.here hx rfl (hb hby d2_38) rfl (l' := #[.val (.ref a1), .val (.int p2), .val (.int (1 : Int32)), .val (.int (0 : Int32))]) rfl ?_
    show Steps p.tables e below (T3.setTop (mkF m 39 #[.val (.ref a1), .val (.int p2), .val (.int (1 : Int32)), .val (.int (0 : Int32))] [])) t
    refine XS.iinc X3.here hx rfl (hb hby d2_39) rfl (l' := #[.val (.ref a1), .val (.int p2), .val (.int (1 : Int32)), .val (.int ((0 : Int32) + (1 : Int32)))]) rfl ?_
    show Steps p.tables e below (T3.setTop (mkF m 42 #[.val (.ref a1), .val (.int p2), .val (.int (1 : Int32)), .val (.int ((0 : Int32) + (1 : Int32)))] [])) t
    refine XS.goto X3.here hx rfl (pc0 := 42) (pc' := 13) rfl (hb hby d2_42) (by decide) (by decide) ?_
    show Steps p.tables e below (T3.setTop (mkF m 13 #[.val (.ref a1), .val (.int p2), .val (.int (1 : Int32)), .val (.int ((0 : Int32) + (1 : Int32)))] [])) t
    refine XS.iloadN X3.here hx rfl (hb hby d2_13) rfl ?_
    show Steps p.tables e below (T3.setTop (mkF m 14 #[.val (.ref a1), .val (.int p2), .val (.int (1 : Int32)), .val (.int ((0 : Int32) + (1 : Int32)))] [(.int (1 : Int32))])) t
    refine XS.ifNo X3.here hx rfl (hb hby d2_14) rfl ((if0 _ _).trans (feq (by decide)).1) ?_
    show Steps p.tables e below (T3.setTop (mkF m 17 #[.val (.ref a1), .val (.int p2), .val (.int (1 : Int32)), .val (.int ((0 : Int32) + (1 : Int32)))] [])) t
    refine XS.iloadN X3.here hx rfl (hb hby d2_17) rfl ?_
    show Steps p.tables e below (T3.setTop (mkF m 18 #[.val (.ref a1), .val (.int p2), .val (.int (1 : Int32)), .val (.int ((0 : Int32) + (1 : Int32)))] [(.int ((0 : Int32) + (1 : Int32)))])) t
    refine XS.iconst X3.here hx rfl (hb hby d2_18) ?_
    show Steps p.tables e below (T3.setTop (mkF m 19 #[.val (.ref a1), .val (.int p2), .val (.int (1 : Int32)), .val (.int ((0 : Int32) + (1 : Int32)))] [(.int (3 : Int32)), (.int ((0 : Int32) + (1 : Int32)))])) t
    refine XS.icmpNo X3.here hx rfl (hb hby d2_19) rfl (tlt (by decide)).2.1 ?_
    show Steps p.tables e below (T3.setTop (mkF m 22 #[.val (.ref a1), .val (.int p2), .val (.int (1 : Int32)), .val (.int ((0 : Int32) + (1 : Int32)))] [])) t
    refine XS.aloadN X3.here hx rfl (hb hby d2_22) rfl rfl ?_
    show Steps p.tables e below (T3.setTop (mkF m 23 #[.val (.ref a1), .val (.int p2), .val (.int (1 : Int32)), .val (.int ((0 : Int32) + (1 : Int32)))] [(.ref a1)])) t
    refine XS.iloadN X3.here hx rfl (hb hby d2_23) rfl ?_
    show Steps p.tables e below (T3.setTop (mkF m 24 #[.val (.ref a1), .val (.int p2), .val (.int (1 : Int32)), .val (.int ((0 : Int32) + (1 : Int32)))] [(.int ((0 : Int32) + (1 : Int32))), (.ref a1)])) t
    refine X3.baloadBytes hx (j := ((0 : Int32) + (1 : Int32))) (v := (.int y1)) (by rw [e3]; exact Ar6.1) (State.isArrayOf_alike hZ.alike Ar6.2.1) Ar6.2.2 hin6 (Has.at H6_ hin6 rfl) (g := (mkF m 24 #[.val (.ref a1), .val (.int p2), .val (.int (1 : Int32)), .val (.int ((0 : Int32) + (1 : Int32)))] [(.int ((0 : Int32) + (1 : Int32))), (.ref a1)])) rfl rfl (hb hby d2_24) _ ?_
    exact k
  obtain ⟨T8, X8, e8, st8⟩ := getS2 X3 hx hZ hown (host := "") (Or.inl (hw _ (List.mem_of_getElem? (i := 9) rfl))) Via.refl e3 S (g := (mkF m 25 #[.val (.ref a1), .val (.int p2), .val (.int (1 : Int32)), .val (.int ((0 : Int32) + (1 : Int32)))] [(.int y1)])) rfl (hb hby d2_25)
  have P9 : ∀ t, Steps p.tables e below (T8.setTop (mkF m 28 #[.val (.ref a1), .val (.int p2), .val (.int (1 : Int32)), .val (.int ((0 : Int32) + (1 : Int32)))] [(.ref wB), (.int y1)])) t → Steps p.tables e below (s₁.setTop (mkF m 0 #[.val (.ref a1), .val (.int p2), .unset, .unset] [])) t := fun t k => P7 t (st8 _ k)
  obtain ⟨cl10, Ar10, q10, S10_, N10_, H10_, G10_⟩ := id VB
  have hin10 : ¬ (((0 : Int32) + (1 : Int32)) < 0 ∨ cl10.slots.size ≤ (((0 : Int32) + (1 : Int32))).toNatClampNeg) := inb_of S10_ ⟨by decide, by decide⟩
  have P11 : ∀ t, Steps p.tables e below (T8.setTop (mkF m 46 #[.val (.ref a1), .val (.int p2), .val (.int (0 : Int32)), .val (.int (((0 : Int32) + (1 : Int32)) + (1 : Int32)))] [(.int (0 : Int32))])) t → Steps p.tables e below (s₁.setTop (mkF m 0 #[.val (.ref a1), .val (.int p2), .unset, .unset] [])) t := fun t k => by
    refine P9 t ?_
    show Steps p.tables e below (T8.setTop (mkF m 28 #[.val (.ref a1), .val (.int p2), .val (.int (1 : Int32)), .val (.int ((0 : Int32) + (1 : Int32)))] [(.ref wB), (.int y1)])) t
    refine XS.iloadN X8.here hx rfl (hb hby d2_28) rfl ?_
    show Steps p.tables e below (T8.setTop (mkF m 29 #[.val (.ref a1), .val (.int p2), .val (.int (1 : Int32)), .val (.int ((0 : Int32) + (1 : Int32)))] [(.int ((0 : Int32) + (1 : Int32))), (.ref wB), (.int y1)])) t
    refine X8.baloadBytes hx (j := ((0 : Int32) + (1 : Int32))) (v := (.int (-69 : Int32))) (by rw [e8]; exact Ar10.1) (State.isArrayOf_alike hZ.alike Ar10.2.1) Ar10.2.2 hin10 (Has.at H10_ hin10 rfl) (g := (mkF m 29 #[.val (.ref a1), .val (.int p2), .val (.int (1 : Int32)), .val (.int ((0 : Int32) + (1 : Int32)))] [(.int ((0 : Int32) + (1 : Int32))), (.ref wB), (.int y1)])) rfl rfl (hb hby d2_29) _ ?_
    show Steps p.tables e below (T8.setTop (mkF m 30 #[.val (.ref a1), .val (.int p2), .val (.int (1 : Int32)), .val (.int ((0 : Int32) + (1 : Int32)))] [(.int (-69 : Int32)), (.int y1)])) t
    refine XS.icmpYes X8.here hx rfl (pc0 := 30) (pc' := 37) rfl (hb hby d2_30) rfl (feq hy1).2 (by decide) (by decide) ?_
    show Steps p.tables e below (T8.setTop (mkF m 37 #[.val (.ref a1), .val (.int p2), .val (.int (1 : Int32)), .val (.int ((0 : Int32) + (1 : Int32)))] [])) t
    refine XS.iconst X8.here hx rfl (hb hby d2_37) ?_
    show Steps p.tables e below (T8.setTop (mkF m 38 #[.val (.ref a1), .val (.int p2), .val (.int (1 : Int32)), .val (.int ((0 : Int32) + (1 : Int32)))] [(.int (0 : Int32))])) t
    refine XS.istoreN X8.here hx rfl (hb hby d2_38) rfl (l' := #[.val (.ref a1), .val (.int p2), .val (.int (0 : Int32)), .val (.int ((0 : Int32) + (1 : Int32)))]) rfl ?_
    show Steps p.tables e below (T8.setTop (mkF m 39 #[.val (.ref a1), .val (.int p2), .val (.int (0 : Int32)), .val (.int ((0 : Int32) + (1 : Int32)))] [])) t
    refine XS.iinc X8.here hx rfl (hb hby d2_39) rfl (l' := #[.val (.ref a1), .val (.int p2), .val (.int (0 : Int32)), .val (.int (((0 : Int32) + (1 : Int32)) + (1 : Int32)))]) rfl ?_
    show Steps p.tables e below (T8.setTop (mkF m 42 #[.val (.ref a1), .val (.int p2), .val (.int (0 : Int32)), .val (.int (((0 : Int32) + (1 : Int32)) + (1 : Int32)))] [])) t
    refine XS.goto X8.here hx rfl (pc0 := 42) (pc' := 13) rfl (hb hby d2_42) (by decide) (by decide) ?_
    show Steps p.tables e below (T8.setTop (mkF m 13 #[.val (.ref a1), .val (.int p2), .val (.int (0 : Int32)), .val (.int (((0 : Int32) + (1 : Int32)) + (1 : Int32)))] [])) t
    refine XS.iloadN X8.here hx rfl (hb hby d2_13) rfl ?_
    show Steps p.tables e below (T8.setTop (mkF m 14 #[.val (.ref a1), .val (.int p2), .val (.int (0 : Int32)), .val (.int (((0 : Int32) + (1 : Int32)) + (1 : Int32)))] [(.int (0 : Int32))])) t
    refine XS.ifYes X8.here hx rfl (pc0 := 14) (pc' := 45) rfl (hb hby d2_14) rfl ((if0 _ _).trans (teq rfl).1) (by decide) (by decide) ?_
    show Steps p.tables e below (T8.setTop (mkF m 45 #[.val (.ref a1), .val (.int p2), .val (.int (0 : Int32)), .val (.int (((0 : Int32) + (1 : Int32)) + (1 : Int32)))] [])) t
    refine XS.iloadN X8.here hx rfl (hb hby d2_45) rfl ?_
    exact k
  obtain ⟨fs, hr, hrun, hended, hW, hsame⟩ := X8.leave (v := some (.int (0 : Int32))) (fun h => by rw [Bd.returns] at h; cases h)
  refine ⟨_, _, pre0 _ (P11 _ ?_), hrun, hended, _, _, rfl, ?_, ⟨_, rfl⟩, hW, hsame.mono (by decide) (by decide)⟩
  · exact retN X8 hx (t := .boolean) Bd.returns (by simp) (hb hby d2_46) hr
  · show Q2_1 Z a1 p2 wB ka kb nn y0 y1 y2 y3 h0 n0 _ T8.heap _
    rw [e8]
    exact ⟨rfl, N0, rfl⟩
def Q2_2 (Z : State) (a1 : Addr) (p2 : Int32) (wB : Addr) (ka kb : ClassId) (nn y0 y1 y2 y3 : Int32) (h0 : Heap) (n0 : Nat) (v : Option Value) (h : Heap) (L : List Loc) : Prop := v = some (.int (0 : Int32)) ∧ Fr n0 L ∧ h = h0
set_option maxRecDepth 65536 in
set_option maxHeartbeats 40000000 in
theorem rm2_2 (l : Launch) (Z : State) (a0 : Array Value) (hw : ∀ d ∈ tables_1, d.before a0 Z = true) (ws : List Jvm.Cond) (a1 : Addr) (p2 : Int32) (wB : Addr) (ka kb : ClassId) (nn y0 y1 y2 y3 : Int32) (h0 : Heap) (n0 : Nat) (Z0 : n0 ≤ h0.size) (S : Sta Z h0 "com/example/vestline/vestline/text/TextFile" "BYTE_ORDER_MARK_BYTES" "[B" (.ref wB)) (VA : Arv Z h0 a1 ka .byte nn [(.int y0), (.int y1), (.int y2), (.int y3)] (.int (0 : Int32))) (VB : Arv Z h0 wB kb .byte (3 : Int32) [(.int (-17 : Int32)), (.int (-69 : Int32)), (.int (-65 : Int32))] (.int (0 : Int32))) (hl : ¬ p2 < 3) (hn : (2 : Int32) < nn) (hy0 : y0 = -17)  (hy1 : y1 = -69)  (hy2 : ¬ y2 = -65) :
    MetFree l (⟨"com/example/vestline/vestline/text/TextFile", "startsWithByteOrderMark", "([BI)Z"⟩ : MethodName) (head1 (Jvm.Cond.code (⟨"com/example/vestline/vestline/text/TextFile", "startsWithByteOrderMark", "([BI)Z"⟩ : MethodName) prog_115_method_10_code 4 (some .boolean) :: ws) ({ frames := 0, cells := 0, slots := 0, locals := 0 } : Room)) (fun a U => a = #[(.ref a1), (.int p2)] ∧ Z.Warmed39 U.vm ∧ U.heap = h0) (fun _ _ _ _ _ => True) (fun _ U o U' => ∃ v L, o = .returned v ∧ Q2_2 Z a1 p2 wB ka kb nn y0 y1 y2 y3 h0 n0 v U'.heap L ∧ FrameEnd U o U' L ({ frames := 0, cells := 0, slots := 0, locals := 0 } : Room).cells ({ frames := 0, cells := 0, slots := 0, locals := 0 } : Room).slots) := by
  refine MetFree.of_bodySF (plainFor_of_name pn_2) hisR ?_
  intro p e s m args below meth c s₁ Bd hml0 hP hK
  obtain ⟨rfl, hZ, hh⟩ := hP
  have hx := Bd.exec
  have hby := Bd.bytes
  have hml : c.maxLocals = 4 := hml0
  have hown : s.vm.findClass "com/example/vestline/vestline/text/TextFile" = some m.cls := findClass_of_methodNamed Bd.named
  have hnm := (name_of_methodNamed Bd.named Bd.method).1
  have X0 : Stand p l e ({ frames := 0, cells := 0, slots := 0, locals := 0 } : Room) s m #[(.ref a1), (.int p2)] below meth c s₁ [] 0 0 := Stand.of_body Bd
  have e0 : s₁.heap = h0 := by rw [← hh, Bd.state]; rfl
  have N0 := Fr.nil n0
  have pre0 : ∀ t, Steps p.tables e below (s₁.setTop (mkF m 0 #[.val (.ref a1), .val (.int p2), .unset, .unset] [])) t → Steps p.tables e below (s₁.setTop (entryFrame m #[(.ref a1), (.int p2)] 4)) t := fun t k => castTop (ef_2 m a1 p2) k
  have hl0 : (0 : Int32) < nn := by rw [Int32.lt_iff_toInt_lt] at *; have : (2 : Int32).toInt = 2 := rfl; have : (0 : Int32).toInt = 0 := rfl; omega
  have hl1 : ((0 : Int32) + (1 : Int32)) < nn := by rw [Int32.lt_iff_toInt_lt] at *; have : (2 : Int32).toInt = 2 := rfl; have : ((0 : Int32) + (1 : Int32)).toInt = 1 := rfl; omega
  have hl2 : (((0 : Int32) + (1 : Int32)) + (1 : Int32)) < nn := by rw [Int32.lt_iff_toInt_lt] at *; have : (2 : Int32).toInt = 2 := rfl; have : (((0 : Int32) + (1 : Int32)) + (1 : Int32)).toInt = 2 := rfl; omega
  obtain ⟨cl1, Ar1, q1, S1_, N1_, H1_, G1_⟩ := id VA
  have hin1 : ¬ ((0 : Int32) < 0 ∨ cl1.slots.size ≤ ((0 : Int32)).toNatClampNeg) := inb_of S1_ ⟨by decide, hl0⟩
  have P2 : ∀ t, Steps p.tables e below (s₁.setTop (mkF m 25 #[.val (.ref a1), .val (.int p2), .val (.int (1 : Int32)), .val (.int (0 : Int32))] [(.int y0)])) t → Steps p.tables e below (s₁.setTop (mkF m 0 #[.val (.ref a1), .val (.int p2), .unset, .unset] [])) t := fun t k => by
    show Steps p.tables e below (s₁.setTop (mkF m 0 #[.val (.ref a1), .val (.int p2), .unset, .unset] [])) t
    refine XS.iloadN X0.here hx rfl (hb hby d2_0) rfl ?_
    show Steps p.tables e below (s₁.setTop (mkF m 1 #[.val (.ref a1), .val (.int p2), .unset, .unset] [(.int p2)])) t
    refine XS.iconst X0.here hx rfl (hb hby d2_1) ?_
    show Steps p.tables e below (s₁.setTop (mkF m 2 #[.val (.ref a1), .val (.int p2), .unset, .unset] [(.int (3 : Int32)), (.int p2)])) t
    refine XS.icmpNo X0.here hx rfl (hb hby d2_2) rfl (flt hl).1 ?_
    show Steps p.tables e below (s₁.setTop (mkF m 5 #[.val (.ref a1), .val (.int p2), .unset, .unset] [])) t
    refine XS.iconst X0.here hx rfl (hb hby d2_5) ?_
    show Steps p.tables e below (s₁.setTop (mkF m 6 #[.val (.ref a1), .val (.int p2), .unset, .unset] [(.int (1 : Int32))])) t
    refine XS.goto X0.here hx rfl (pc0 := 6) (pc' := 10) rfl (hb hby d2_6) (by decide) (by decide) ?_
    show Steps p.tables e below (s₁.setTop (mkF m 10 #[.val (.ref a1), .val (.int p2), .unset, .unset] [(.int (1 : Int32))])) t
    refine XS.istoreN X0.here hx rfl (hb hby d2_10) rfl (l' := #[.val (.ref a1), .val (.int p2), .val (.int (1 : Int32)), .unset]) rfl ?_
    show Steps p.tables e below (s₁.setTop (mkF m 11 #[.val (.ref a1), .val (.int p2), .val (.int (1 : Int32)), .unset] [])) t
    refine XS.iconst X0.here hx rfl (hb hby d2_11) ?_
    show Steps p.tables e below (s₁.setTop (mkF m 12 #[.val (.ref a1), .val (.int p2), .val (.int (1 : Int32)), .unset] [(.int (0 : Int32))])) t
    refine XS.istoreN X0.here hx rfl (hb hby d2_12) rfl (l' := #[.val (.ref a1), .val (.int p2), .val (.int (1 : Int32)), .val (.int (0 : Int32))]) rfl ?_
    show Steps p.tables e below (s₁.setTop (mkF m 13 #[.val (.ref a1), .val (.int p2), .val (.int (1 : Int32)), .val (.int (0 : Int32))] [])) t
    refine XS.iloadN X0.here hx rfl (hb hby d2_13) rfl ?_
    show Steps p.tables e below (s₁.setTop (mkF m 14 #[.val (.ref a1), .val (.int p2), .val (.int (1 : Int32)), .val (.int (0 : Int32))] [(.int (1 : Int32))])) t
    refine XS.ifNo X0.here hx rfl (hb hby d2_14) rfl ((if0 _ _).trans (feq (by decide)).1) ?_
    show Steps p.tables e below (s₁.setTop (mkF m 17 #[.val (.ref a1), .val (.int p2), .val (.int (1 : Int32)), .val (.int (0 : Int32))] [])) t
    refine XS.iloadN X0.here hx rfl (hb hby d2_17) rfl ?_
    show Steps p.tables e below (s₁.setTop (mkF m 18 #[.val (.ref a1), .val (.int p2), .val (.int (1 : Int32)), .val (.int (0 : Int32))] [(.int (0 : Int32))])) t
    refine XS.iconst X0.here hx rfl (hb hby d2_18) ?_
    show Steps p.tables e below (s₁.setTop (mkF m 19 #[.val (.ref a1), .val (.int p2), .val (.int (1 : Int32)), .val (.int (0 : Int32))] [(.int (3 : Int32)), (.int (0 : Int32))])) t
    refine XS.icmpNo X0.here hx rfl (hb hby d2_19) rfl (tlt (by decide)).2.1 ?_
    show Steps p.tables e below (s₁.setTop (mkF m 22 #[.val (.ref a1), .val (.int p2), .val (.int (1 : Int32)), .val (.int (0 : Int32))] [])) t
    refine XS.aloadN X0.here hx rfl (hb hby d2_22) rfl rfl ?_
    show Steps p.tables e below (s₁.setTop (mkF m 23 #[.val (.ref a1), .val (.int p2), .val (.int (1 : Int32)), .val (.int (0 : Int32))] [(.ref a1)])) t
    refine XS.iloadN X0.here hx rfl (hb hby d2_23) rfl ?_
    show Steps p.tables e below (s₁.setTop (mkF m 24 #[.val (.ref a1), .val (.int p2), .val (.int (1 : Int32)), .val (.int (0 : Int32))] [(.int (0 : Int32)), (.ref a1)])) t
    refine X0.baloadBytes hx (j := (0 : Int32)) (v := (.int y0)) (by rw [e0]; exact Ar1.1) (State.isArrayOf_alike hZ.alike Ar1.2.1) Ar1.2.2 hin1 (Has.at H1_ hin1 rfl) (g := (mkF m 24 #[.val (.ref a1), .val (.int p2), .val (.int (1 : Int32)), .val (.int (0 : Int32))] [(.int (0 : Int32)), (.ref a1)])) rfl rfl (hb hby d2_24) _ ?_
    exact k
  obtain ⟨T3, X3, e3, st3⟩ := getS2 X0 hx hZ hown (host := "") (Or.inl (hw _ (List.mem_of_getElem? (i := 9) rfl))) Via.refl e0 S (g := (mkF m 25 #[.val (.ref a1), .val (.int p2), .val (.int (1 : Int32)), .val (.int (0 : Int32))] [(.int y0)])) rfl (hb hby d2_25)
  have P4 : ∀ t, Steps p.tables e below (T3.setTop (mkF m 28 #[.val (.ref a1), .val (.int p2), .val (.int (1 : Int32)), .val (.int (0 : Int32))] [(.ref wB), (.int y0)])) t → Steps p.tables e below (s₁.setTop (mkF m 0 #[.val (.ref a1), .val (.int p2), .unset, .unset] [])) t := fun t k => P2 t (st3 _ k)
  obtain ⟨cl5, Ar5, q5, S5_, N5_, H5_, G5_⟩ := id VB
  have hin5 : ¬ ((0 : Int32) < 0 ∨ cl5.slots.size ≤ ((0 : Int32)).toNatClampNeg) := inb_of S5_ ⟨by decide, by decide⟩
  obtain ⟨cl6, Ar6, q6, S6_, N6_, H6_, G6_⟩ := id VA
  have hin6 : ¬ (((0 : Int32) + (1 : Int32)) < 0 ∨ cl6.slots.size ≤ (((0 : Int32) + (1 : Int32))).toNatClampNeg) := inb_of S6_ ⟨by decide, hl1⟩
  have P7 : ∀ t, Steps p.tables e below (T3.setTop (mkF m 25 #[.val (.ref a1), .val (.int p2), .val (.int (1 : Int32)), .val (.int ((0 : Int32) + (1 : Int32)))] [(.int y1)])) t → Steps p.tables e below (s₁.setTop (mkF m 0 #[.val (.ref a1), .val (.int p2), .unset, .unset] [])) t := fun t k => by
    refine P4 t ?_
    show Steps p.tables e below (T3.setTop (mkF m 28 #[.val (.ref a1), .val (.int p2), .val (.int (1 : Int32)), .val (.int (0 : Int32))] [(.ref wB), (.int y0)])) t
    refine XS.iloadN X3.here hx rfl (hb hby d2_28) rfl ?_
    show Steps p.tables e below (T3.setTop (mkF m 29 #[.val (.ref a1), .val (.int p2), .val (.int (1 : Int32)), .val (.int (0 : Int32))] [(.int (0 : Int32)), (.ref wB), (.int y0)])) t
    refine X3.baloadBytes hx (j := (0 : Int32)) (v := (.int (-17 : Int32))) (by rw [e3]; exact Ar5.1) (State.isArrayOf_alike hZ.alike Ar5.2.1) Ar5.2.2 hin5 (Has.at H5_ hin5 rfl) (g := (mkF m 29 #[.val (.ref a1), .val (.int p2), .val (.int (1 : Int32)), .val (.int (0 : Int32))] [(.int (0 : Int32)), (.ref wB), (.int y0)])) rfl rfl (hb hby d2_29) _ ?_
    show Steps p.tables e below (T3.setTop (mkF m 30 #[.val (.ref a1), .val (.int p2), .val (.int (1 : Int32)), .val (.int (0 : Int32))] [(.int (-17 : Int32)), (.int y0)])) t
    refine XS.icmpNo X3.here hx rfl (hb hby d2_30) rfl (teq hy0).2 ?_
    show Steps p.tables e below (T3.setTop (mkF m 33 #[.val (.ref a1), .val (.int p2), .val (.int (1 : Int32)), .val (.int (0 : Int32))] [])) t
    refine XS.iconst X3.here hx rfl (hb hby d2_33) ?_
    show Steps p.tables e below (T3.setTop (mkF m 34 #[.val (.ref a1), .val (.int p2), .val (.int (1 : Int32)), .val (.int (0 : Int32))] [(.int (1 : Int32))])) t
    refine XS.goto X3.here hx rfl (pc0 := 34) (pc' := 38) rfl (hb hby d2_34) (by decide) (by decide) ?_
    show Steps p.tables e below (T3.setTop (mkF m 38 #[.val (.ref a1), .val (.int p2), .val (.int (1 : Int32)), .val (.int (0 : Int32))] [(.int (1 : Int32))])) t
    refine XS.istoreN X3.here hx rfl (hb hby d2_38) rfl (l' := #[.val (.ref a1), .val (.int p2), .val (.int (1 : Int32)), .val (.int (0 : Int32))]) rfl ?_
    show Steps p.tables e below (T3.setTop (mkF m 39 #[.val (.ref a1), .val (.int p2), .val (.int (1 : Int32)), .val (.int (0 : Int32))] [])) t
    refine XS.iinc X3.here hx rfl (hb hby d2_39) rfl (l' := #[.val (.ref a1), .val (.int p2), .val (.int (1 : Int32)), .val (.int ((0 : Int32) + (1 : Int32)))]) rfl ?_
    show Steps p.tables e below (T3.setTop (mkF m 42 #[.val (.ref a1), .val (.int p2), .val (.int (1 : Int32)), .val (.int ((0 : Int32) + (1 : Int32)))] [])) t
    refine XS.goto X3.here hx rfl (pc0 := 42) (pc' := 13) rfl (hb hby d2_42) (by decide) (by decide) ?_
    show Steps p.tables e below (T3.setTop (mkF m 13 #[.val (.ref a1), .val (.int p2), .val (.int (1 : Int32)), .val (.int ((0 : Int32) + (1 : Int32)))] [])) t
    refine XS.iloadN X3.here hx rfl (hb hby d2_13) rfl ?_
    show Steps p.tables e below (T3.setTop (mkF m 14 #[.val (.ref a1), .val (.int p2), .val (.int (1 : Int32)), .val (.int ((0 : Int32) + (1 : Int32)))] [(.int (1 : Int32))])) t
    refine XS.ifNo X3.here hx rfl (hb hby d2_14) rfl ((if0 _ _).trans (feq (by decide)).1) ?_
    show Steps p.tables e below (T3.setTop (mkF m 17 #[.val (.ref a1), .val (.int p2), .val (.int (1 : Int32)), .val (.int ((0 : Int32) + (1 : Int32)))] [])) t
    refine XS.iloadN X3.here hx rfl (hb hby d2_17) rfl ?_
    show Steps p.tables e below (T3.setTop (mkF m 18 #[.val (.ref a1), .val (.int p2), .val (.int (1 : Int32)), .val (.int ((0 : Int32) + (1 : Int32)))] [(.int ((0 : Int32) + (1 : Int32)))])) t
    refine XS.iconst X3.here hx rfl (hb hby d2_18) ?_
    show Steps p.tables e below (T3.setTop (mkF m 19 #[.val (.ref a1), .val (.int p2), .val (.int (1 : Int32)), .val (.int ((0 : Int32) + (1 : Int32)))] [(.int (3 : Int32)), (.int ((0 : Int32) + (1 : Int32)))])) t
    refine XS.icmpNo X3.here hx rfl (hb hby d2_19) rfl (tlt (by decide)).2.1 ?_
    show Steps p.tables e below (T3.setTop (mkF m 22 #[.val (.ref a1), .val (.int p2), .val (.int (1 : Int32)), .val (.int ((0 : Int32) + (1 : Int32)))] [])) t
    refine XS.aloadN X3.here hx rfl (hb hby d2_22) rfl rfl ?_
    show Steps p.tables e below (T3.setTop (mkF m 23 #[.val (.ref a1), .val (.int p2), .val (.int (1 : Int32)), .val (.int ((0 : Int32) + (1 : Int32)))] [(.ref a1)])) t
    refine XS.iloadN X3.here hx rfl (hb hby d2_23) rfl ?_
    show Steps p.tables e below (T3.setTop (mkF m 24 #[.val (.ref a1), .val (.int p2), .val (.int (1 : Int32)), .val (.int ((0 : Int32) + (1 : Int32)))] [(.int ((0 : Int32) + (1 : Int32))), (.ref a1)])) t
    refine X3.baloadBytes hx (j := ((0 : Int32) + (1 : Int32))) (v := (.int y1)) (by rw [e3]; exact Ar6.1) (State.isArrayOf_alike hZ.alike Ar6.2.1) Ar6.2.2 hin6 (Has.at H6_ hin6 rfl) (g := (mkF m 24 #[.val (.ref a1), .val (.int p2), .val (.int (1 : Int32)), .val (.int ((0 : Int32) + (1 : Int32)))] [(.int ((0 : Int32) + (1 : Int32))), (.ref a1)])) rfl rfl (hb hby d2_24) _ ?_
    exact k
  obtain ⟨T8, X8, e8, st8⟩ := getS2 X3 hx hZ hown (host := "") (Or.inl (hw _ (List.mem_of_getElem? (i := 9) rfl))) Via.refl e3 S (g := (mkF m 25 #[.val (.ref a1), .val (.int p2), .val (.int (1 : Int32)), .val (.int ((0 : Int32) + (1 : Int32)))] [(.int y1)])) rfl (hb hby d2_25)
  have P9 : ∀ t, Steps p.tables e below (T8.setTop (mkF m 28 #[.val (.ref a1), .val (.int p2), .val (.int (1 : Int32)), .val (.int ((0 : Int32) + (1 : Int32)))] [(.ref wB), (.int y1)])) t → Steps p.tables e below (s₁.setTop (mkF m 0 #[.val (.ref a1), .val (.int p2), .unset, .unset] [])) t := fun t k => P7 t (st8 _ k)
  obtain ⟨cl10, Ar10, q10, S10_, N10_, H10_, G10_⟩ := id VB
  have hin10 : ¬ (((0 : Int32) + (1 : Int32)) < 0 ∨ cl10.slots.size ≤ (((0 : Int32) + (1 : Int32))).toNatClampNeg) := inb_of S10_ ⟨by decide, by decide⟩
  obtain ⟨cl11, Ar11, q11, S11_, N11_, H11_, G11_⟩ := id VA
  have hin11 : ¬ ((((0 : Int32) + (1 : Int32)) + (1 : Int32)) < 0 ∨ cl11.slots.size ≤ ((((0 : Int32) + (1 : Int32)) + (1 : Int32))).toNatClampNeg) := inb_of S11_ ⟨by decide, hl2⟩
  have P12 : ∀ t, Steps p.tables e below (T8.setTop (mkF m 25 #[.val (.ref a1), .val (.int p2), .val (.int (1 : Int32)), .val (.int (((0 : Int32) + (1 : Int32)) + (1 : Int32)))] [(.int y2)])) t → Steps p.tables e below (s₁.setTop (mkF m 0 #[.val (.ref a1), .val (.int p2), .unset, .unset] [])) t := fun t k => by
    refine P9 t ?_
    show Steps p.tables e below (T8.setTop (mkF m 28 #[.val (.ref a1), .val (.int p2), .val (.int (1 : Int32)), .val (.int ((0 : Int32) + (1 : Int32)))] [(.ref wB), (.int y1)])) t
    refine XS.iloadN X8.here hx rfl (hb hby d2_28) rfl ?_
    show Steps p.tables e below (T8.setTop (mkF m 29 #[.val (.ref a1), .val (.int p2), .val (.int (1 : Int32)), .val (.int ((0 : Int32) + (1 : Int32)))] [(.int ((0 : Int32) + (1 : Int32))), (.ref wB), (.int y1)])) t
    refine X8.baloadBytes hx (j := ((0 : Int32) + (1 : Int32))) (v := (.int (-69 : Int32))) (by rw [e8]; exact Ar10.1) (State.isArrayOf_alike hZ.alike Ar10.2.1) Ar10.2.2 hin10 (Has.at H10_ hin10 rfl) (g := (mkF m 29 #[.val (.ref a1), .val (.int p2), .val (.int (1 : Int32)), .val (.int ((0 : Int32) + (1 : Int32)))] [(.int ((0 : Int32) + (1 : Int32))), (.ref wB), (.int y1)])) rfl rfl (hb hby d2_29) _ ?_
    show Steps p.tables e below (T8.setTop (mkF m 30 #[.val (.ref a1), .val (.int p2), .val (.int (1 : Int32)), .val (.int ((0 : Int32) + (1 : Int32)))] [(.int (-69 : Int32)), (.int y1)])) t
    refine XS.icmpNo X8.here hx rfl (hb hby d2_30) rfl (teq hy1).2 ?_
    show Steps p.tables e below (T8.setTop (mkF m 33 #[.val (.ref a1), .val (.int p2), .val (.int (1 : Int32)), .val (.int ((0 : Int32) + (1 : Int32)))] [])) t
    refine XS.iconst X8.here hx rfl (hb hby d2_33) ?_
    show Steps p.tables e below (T8.setTop (mkF m 34 #[.val (.ref a1), .val (.int p2), .val (.int (1 : Int32)), .val (.int ((0 : Int32) + (1 : Int32)))] [(.int (1 : Int32))])) t
    refine XS.goto X8.here hx rfl (pc0 := 34) (pc' := 38) rfl (hb hby d2_34) (by decide) (by decide) ?_
    show Steps p.tables e below (T8.setTop (mkF m 38 #[.val (.ref a1), .val (.int p2), .val (.int (1 : Int32)), .val (.int ((0 : Int32) + (1 : Int32)))] [(.int (1 : Int32))])) t
    refine XS.istoreN X8.here hx rfl (hb hby d2_38) rfl (l' := #[.val (.ref a1), .val (.int p2), .val (.int (1 : Int32)), .val (.int ((0 : Int32) + (1 : Int32)))]) rfl ?_
    show Steps p.tables e below (T8.setTop (mkF m 39 #[.val (.ref a1), .val (.int p2), .val (.int (1 : Int32)), .val (.int ((0 : Int32) + (1 : Int32)))] [])) t
    refine XS.iinc X8.here hx rfl (hb hby d2_39) rfl (l' := #[.val (.ref a1), .val (.int p2), .val (.int (1 : Int32)), .val (.int (((0 : Int32) + (1 : Int32)) + (1 : Int32)))]) rfl ?_
    show Steps p.tables e below (T8.setTop (mkF m 42 #[.val (.ref a1), .val (.int p2), .val (.int (1 : Int32)), .val (.int (((0 : Int32) + (1 : Int32)) + (1 : Int32)))] [])) t
    refine XS.goto X8.here hx rfl (pc0 := 42) (pc' := 13) rfl (hb hby d2_42) (by decide) (by decide) ?_
    show Steps p.tables e below (T8.setTop (mkF m 13 #[.val (.ref a1), .val (.int p2), .val (.int (1 : Int32)), .val (.int (((0 : Int32) + (1 : Int32)) + (1 : Int32)))] [])) t
    refine XS.iloadN X8.here hx rfl (hb hby d2_13) rfl ?_
    show Steps p.tables e below (T8.setTop (mkF m 14 #[.val (.ref a1), .val (.int p2), .val (.int (1 : Int32)), .val (.int (((0 : Int32) + (1 : Int32)) + (1 : Int32)))] [(.int (1 : Int32))])) t
    refine XS.ifNo X8.here hx rfl (hb hby d2_14) rfl ((if0 _ _).trans (feq (by decide)).1) ?_
    show Steps p.tables e below (T8.setTop (mkF m 17 #[.val (.ref a1), .val (.int p2), .val (.int (1 : Int32)), .val (.int (((0 : Int32) + (1 : Int32)) + (1 : Int32)))] [])) t
    refine XS.iloadN X8.here hx rfl (hb hby d2_17) rfl ?_
    show Steps p.tables e below (T8.setTop (mkF m 18 #[.val (.ref a1), .val (.int p2), .val (.int (1 : Int32)), .val (.int (((0 : Int32) + (1 : Int32)) + (1 : Int32)))] [(.int (((0 : Int32) + (1 : Int32)) + (1 : Int32)))])) t
    refine XS.iconst X8.here hx rfl (hb hby d2_18) ?_
    show Steps p.tables e below (T8.setTop (mkF m 19 #[.val (.ref a1), .val (.int p2), .val (.int (1 : Int32)), .val (.int (((0 : Int32) + (1 : Int32)) + (1 : Int32)))] [(.int (3 : Int32)), (.int (((0 : Int32) + (1 : Int32)) + (1 : Int32)))])) t
    refine XS.icmpNo X8.here hx rfl (hb hby d2_19) rfl (tlt (by decide)).2.1 ?_
    show Steps p.tables e below (T8.setTop (mkF m 22 #[.val (.ref a1), .val (.int p2), .val (.int (1 : Int32)), .val (.int (((0 : Int32) + (1 : Int32)) + (1 : Int32)))] [])) t
    refine XS.aloadN X8.here hx rfl (hb hby d2_22) rfl rfl ?_
    show Steps p.tables e below (T8.setTop (mkF m 23 #[.val (.ref a1), .val (.int p2), .val (.int (1 : Int32)), .val (.int (((0 : Int32) + (1 : Int32)) + (1 : Int32)))] [(.ref a1)])) t
    refine XS.iloadN X8.here hx rfl (hb hby d2_23) rfl ?_
    show Steps p.tables e below (T8.setTop (mkF m 24 #[.val (.ref a1), .val (.int p2), .val (.int (1 : Int32)), .val (.int (((0 : Int32) + (1 : Int32)) + (1 : Int32)))] [(.int (((0 : Int32) + (1 : Int32)) + (1 : Int32))), (.ref a1)])) t
    refine X8.baloadBytes hx (j := (((0 : Int32) + (1 : Int32)) + (1 : Int32))) (v := (.int y2)) (by rw [e8]; exact Ar11.1) (State.isArrayOf_alike hZ.alike Ar11.2.1) Ar11.2.2 hin11 (Has.at H11_ hin11 rfl) (g := (mkF m 24 #[.val (.ref a1), .val (.int p2), .val (.int (1 : Int32)), .val (.int (((0 : Int32) + (1 : Int32)) + (1 : Int32)))] [(.int (((0 : Int32) + (1 : Int32)) + (1 : Int32))), (.ref a1)])) rfl rfl (hb hby d2_24) _ ?_
    exact k
  obtain ⟨T13, X13, e13, st13⟩ := getS2 X8 hx hZ hown (host := "") (Or.inl (hw _ (List.mem_of_getElem? (i := 9) rfl))) Via.refl e8 S (g := (mkF m 25 #[.val (.ref a1), .val (.int p2), .val (.int (1 : Int32)), .val (.int (((0 : Int32) + (1 : Int32)) + (1 : Int32)))] [(.int y2)])) rfl (hb hby d2_25)
  have P14 : ∀ t, Steps p.tables e below (T13.setTop (mkF m 28 #[.val (.ref a1), .val (.int p2), .val (.int (1 : Int32)), .val (.int (((0 : Int32) + (1 : Int32)) + (1 : Int32)))] [(.ref wB), (.int y2)])) t → Steps p.tables e below (s₁.setTop (mkF m 0 #[.val (.ref a1), .val (.int p2), .unset, .unset] [])) t := fun t k => P12 t (st13 _ k)
  obtain ⟨cl15, Ar15, q15, S15_, N15_, H15_, G15_⟩ := id VB
  have hin15 : ¬ ((((0 : Int32) + (1 : Int32)) + (1 : Int32)) < 0 ∨ cl15.slots.size ≤ ((((0 : Int32) + (1 : Int32)) + (1 : Int32))).toNatClampNeg) := inb_of S15_ ⟨by decide, by decide⟩
  have P16 : ∀ t, Steps p.tables e below (T13.setTop (mkF m 46 #[.val (.ref a1), .val (.int p2), .val (.int (0 : Int32)), .val (.int ((((0 : Int32) + (1 : Int32)) + (1 : Int32)) + (1 : Int32)))] [(.int (0 : Int32))])) t → Steps p.tables e below (s₁.setTop (mkF m 0 #[.val (.ref a1), .val (.int p2), .unset, .unset] [])) t := fun t k => by
    refine P14 t ?_
    show Steps p.tables e below (T13.setTop (mkF m 28 #[.val (.ref a1), .val (.int p2), .val (.int (1 : Int32)), .val (.int (((0 : Int32) + (1 : Int32)) + (1 : Int32)))] [(.ref wB), (.int y2)])) t
    refine XS.iloadN X13.here hx rfl (hb hby d2_28) rfl ?_
    show Steps p.tables e below (T13.setTop (mkF m 29 #[.val (.ref a1), .val (.int p2), .val (.int (1 : Int32)), .val (.int (((0 : Int32) + (1 : Int32)) + (1 : Int32)))] [(.int (((0 : Int32) + (1 : Int32)) + (1 : Int32))), (.ref wB), (.int y2)])) t
    refine X13.baloadBytes hx (j := (((0 : Int32) + (1 : Int32)) + (1 : Int32))) (v := (.int (-65 : Int32))) (by rw [e13]; exact Ar15.1) (State.isArrayOf_alike hZ.alike Ar15.2.1) Ar15.2.2 hin15 (Has.at H15_ hin15 rfl) (g := (mkF m 29 #[.val (.ref a1), .val (.int p2), .val (.int (1 : Int32)), .val (.int (((0 : Int32) + (1 : Int32)) + (1 : Int32)))] [(.int (((0 : Int32) + (1 : Int32)) + (1 : Int32))), (.ref wB), (.int y2)])) rfl rfl (hb hby d2_29) _ ?_
    show Steps p.tables e below (T13.setTop (mkF m 30 #[.val (.ref a1), .val (.int p2), .val (.int (1 : Int32)), .val (.int (((0 : Int32) + (1 : Int32)) + (1 : Int32)))] [(.int (-65 : Int32)), (.int y2)])) t
    refine XS.icmpYes X13.here hx rfl (pc0 := 30) (pc' := 37) rfl (hb hby d2_30) rfl (feq hy2).2 (by decide) (by decide) ?_
    show Steps p.tables e below (T13.setTop (mkF m 37 #[.val (.ref a1), .val (.int p2), .val (.int (1 : Int32)), .val (.int (((0 : Int32) + (1 : Int32)) + (1 : Int32)))] [])) t
    refine XS.iconst X13.here hx rfl (hb hby d2_37) ?_
    show Steps p.tables e below (T13.setTop (mkF m 38 #[.val (.ref a1), .val (.int p2), .val (.int (1 : Int32)), .val (.int (((0 : Int32) + (1 : Int32)) + (1 : Int32)))] [(.int (0 : Int32))])) t
    refine XS.istoreN X13.here hx rfl (hb hby d2_38) rfl (l' := #[.val (.ref a1), .val (.int p2), .val (.int (0 : Int32)), .val (.int (((0 : Int32) + (1 : Int32)) + (1 : Int32)))]) rfl ?_
    show Steps p.tables e below (T13.setTop (mkF m 39 #[.val (.ref a1), .val (.int p2), .val (.int (0 : Int32)), .val (.int (((0 : Int32) + (1 : Int32)) + (1 : Int32)))] [])) t
    refine XS.iinc X13.here hx rfl (hb hby d2_39) rfl (l' := #[.val (.ref a1), .val (.int p2), .val (.int (0 : Int32)), .val (.int ((((0 : Int32) + (1 : Int32)) + (1 : Int32)) + (1 : Int32)))]) rfl ?_
    show Steps p.tables e below (T13.setTop (mkF m 42 #[.val (.ref a1), .val (.int p2), .val (.int (0 : Int32)), .val (.int ((((0 : Int32) + (1 : Int32)) + (1 : Int32)) + (1 : Int32)))] [])) t
    refine XS.goto X13.here hx rfl (pc0 := 42) (pc' := 13) rfl (hb hby d2_42) (by decide) (by decide) ?_
    show Steps p.tables e below (T13.setTop (mkF m 13 #[.val (.ref a1), .val (.int p2), .val (.int (0 : Int32)), .val (.int ((((0 : Int32) + (1 : Int32)) + (1 : Int32)) + (1 : Int32)))] [])) t
    refine XS.iloadN X13.here hx rfl (hb hby d2_13) rfl ?_
    show Steps p.tables e below (T13.setTop (mkF m 14 #[.val (.ref a1), .val (.int p2), .val (.int (0 : Int32)), .val (.int ((((0 : Int32) + (1 : Int32)) + (1 : Int32)) + (1 : Int32)))] [(.int (0 : Int32))])) t
    refine XS.ifYes X13.here hx rfl (pc0 := 14) (pc' := 45) rfl (hb hby d2_14) rfl ((if0 _ _).trans (teq rfl).1) (by decide) (by decide) ?_
    show Steps p.tables e below (T13.setTop (mkF m 45 #[.val (.ref a1), .val (.int p2), .val (.int (0 : Int32)), .val (.int ((((0 : Int32) + (1 : Int32)) + (1 : Int32)) + (1 : Int32)))] [])) t
    refine XS.iloadN X13.here hx rfl (hb hby d2_45) rfl ?_
    exact k
  obtain ⟨fs, hr, hrun, hended, hW, hsame⟩ := X13.leave (v := some (.int (0 : Int32))) (fun h => by rw [Bd.returns] at h; cases h)
  refine ⟨_, _, pre0 _ (P16 _ ?_), hrun, hended, _, _, rfl, ?_, ⟨_, rfl⟩, hW, hsame.mono (by decide) (by decide)⟩
  · exact retN X13 hx (t := .boolean) Bd.returns (by simp) (hb hby d2_46) hr
  · show Q2_2 Z a1 p2 wB ka kb nn y0 y1 y2 y3 h0 n0 _ T13.heap _
    rw [e13]
    exact ⟨rfl, N0, rfl⟩
def Q2_3 (Z : State) (a1 : Addr) (p2 : Int32) (wB : Addr) (ka kb : ClassId) (nn y0 y1 y2 y3 : Int32) (h0 : Heap) (n0 : Nat) (v : Option Value) (h : Heap) (L : List Loc) : Prop := v = some (.int (1 : Int32)) ∧ Fr n0 L ∧ h = h0
set_option maxRecDepth 65536 in
set_option maxHeartbeats 40000000 in
theorem rm2_3 (l : Launch) (Z : State) (a0 : Array Value) (hw : ∀ d ∈ tables_1, d.before a0 Z = true) (ws : List Jvm.Cond) (a1 : Addr) (p2 : Int32) (wB : Addr) (ka kb : ClassId) (nn y0 y1 y2 y3 : Int32) (h0 : Heap) (n0 : Nat) (Z0 : n0 ≤ h0.size) (S : Sta Z h0 "com/example/vestline/vestline/text/TextFile" "BYTE_ORDER_MARK_BYTES" "[B" (.ref wB)) (VA : Arv Z h0 a1 ka .byte nn [(.int y0), (.int y1), (.int y2), (.int y3)] (.int (0 : Int32))) (VB : Arv Z h0 wB kb .byte (3 : Int32) [(.int (-17 : Int32)), (.int (-69 : Int32)), (.int (-65 : Int32))] (.int (0 : Int32))) (hl : ¬ p2 < 3) (hn : (2 : Int32) < nn) (hy0 : y0 = -17)  (hy1 : y1 = -69)  (hy2 : y2 = -65) :
    MetFree l (⟨"com/example/vestline/vestline/text/TextFile", "startsWithByteOrderMark", "([BI)Z"⟩ : MethodName) (head1 (Jvm.Cond.code (⟨"com/example/vestline/vestline/text/TextFile", "startsWithByteOrderMark", "([BI)Z"⟩ : MethodName) prog_115_method_10_code 4 (some .boolean) :: ws) ({ frames := 0, cells := 0, slots := 0, locals := 0 } : Room)) (fun a U => a = #[(.ref a1), (.int p2)] ∧ Z.Warmed39 U.vm ∧ U.heap = h0) (fun _ _ _ _ _ => True) (fun _ U o U' => ∃ v L, o = .returned v ∧ Q2_3 Z a1 p2 wB ka kb nn y0 y1 y2 y3 h0 n0 v U'.heap L ∧ FrameEnd U o U' L ({ frames := 0, cells := 0, slots := 0, locals := 0 } : Room).cells ({ frames := 0, cells := 0, slots := 0, locals := 0 } : Room).slots) := by
  refine MetFree.of_bodySF (plainFor_of_name pn_2) hisR ?_
  intro p e s m args below meth c s₁ Bd hml0 hP hK
  obtain ⟨rfl, hZ, hh⟩ := hP
  have hx := Bd.exec
  have hby := Bd.bytes
  have hml : c.maxLocals = 4 := hml0
  have hown : s.vm.findClass "com/example/vestline/vestline/text/TextFile" = some m.cls := findClass_of_methodNamed Bd.named
  have hnm := (name_of_methodNamed Bd.named Bd.method).1
  have X0 : Stand p l e ({ frames := 0, cells := 0, slots := 0, locals := 0 } : Room) s m #[(.ref a1), (.int p2)] below meth c s₁ [] 0 0 := Stand.of_body Bd
  have e0 : s₁.heap = h0 := by rw [← hh, Bd.state]; rfl
  have N0 := Fr.nil n0
  have pre0 : ∀ t, Steps p.tables e below (s₁.setTop (mkF m 0 #[.val (.ref a1), .val (.int p2), .unset, .unset] [])) t → Steps p.tables e below (s₁.setTop (entryFrame m #[(.ref a1), (.int p2)] 4)) t := fun t k => castTop (ef_2 m a1 p2) k
  have hl0 : (0 : Int32) < nn := by rw [Int32.lt_iff_toInt_lt] at *; have : (2 : Int32).toInt = 2 := rfl; have : (0 : Int32).toInt = 0 := rfl; omega
  have hl1 : ((0 : Int32) + (1 : Int32)) < nn := by rw [Int32.lt_iff_toInt_lt] at *; have : (2 : Int32).toInt = 2 := rfl; have : ((0 : Int32) + (1 : Int32)).toInt = 1 := rfl; omega
  have hl2 : (((0 : Int32) + (1 : Int32)) + (1 : Int32)) < nn := by rw [Int32.lt_iff_toInt_lt] at *; have : (2 : Int32).toInt = 2 := rfl; have : (((0 : Int32) + (1 : Int32)) + (1 : Int32)).toInt = 2 := rfl; omega
  obtain ⟨cl1, Ar1, q1, S1_, N1_, H1_, G1_⟩ := id VA
  have hin1 : ¬ ((0 : Int32) < 0 ∨ cl1.slots.size ≤ ((0 : Int32)).toNatClampNeg) := inb_of S1_ ⟨by decide, hl0⟩
  have P2 : ∀ t, Steps p.tables e below (s₁.setTop (mkF m 25 #[.val (.ref a1), .val (.int p2), .val (.int (1 : Int32)), .val (.int (0 : Int32))] [(.int y0)])) t → Steps p.tables e below (s₁.setTop (mkF m 0 #[.val (.ref a1), .val (.int p2), .unset, .unset] [])) t := fun t k => by
    show Steps p.tables e below (s₁.setTop (mkF m 0 #[.val (.ref a1), .val (.int p2), .unset, .unset] [])) t
    refine XS.iloadN X0.here hx rfl (hb hby d2_0) rfl ?_
    show Steps p.tables e below (s₁.setTop (mkF m 1 #[.val (.ref a1), .val (.int p2), .unset, .unset] [(.int p2)])) t
    refine XS.iconst X0.here hx rfl (hb hby d2_1) ?_
    show Steps p.tables e below (s₁.setTop (mkF m 2 #[.val (.ref a1), .val (.int p2), .unset, .unset] [(.int (3 : Int32)), (.int p2)])) t
    refine XS.icmpNo X0.here hx rfl (hb hby d2_2) rfl (flt hl).1 ?_
    show Steps p.tables e below (s₁.setTop (mkF m 5 #[.val (.ref a1), .val (.int p2), .unset, .unset] [])) t
    refine XS.iconst X0.here hx rfl (hb hby d2_5) ?_
    show Steps p.tables e below (s₁.setTop (mkF m 6 #[.val (.ref a1), .val (.int p2), .unset, .unset] [(.int (1 : Int32))])) t
    refine XS.goto X0.here hx rfl (pc0 := 6) (pc' := 10) rfl (hb hby d2_6) (by decide) (by decide) ?_
    show Steps p.tables e below (s₁.setTop (mkF m 10 #[.val (.ref a1), .val (.int p2), .unset, .unset] [(.int (1 : Int32))])) t
    refine XS.istoreN X0.here hx rfl (hb hby d2_10) rfl (l' := #[.val (.ref a1), .val (.int p2), .val (.int (1 : Int32)), .unset]) rfl ?_
    show Steps p.tables e below (s₁.setTop (mkF m 11 #[.val (.ref a1), .val (.int p2), .val (.int (1 : Int32)), .unset] [])) t
    refine XS.iconst X0.here hx rfl (hb hby d2_11) ?_
    show Steps p.tables e below (s₁.setTop (mkF m 12 #[.val (.ref a1), .val (.int p2), .val (.int (1 : Int32)), .unset] [(.int (0 : Int32))])) t
    refine XS.istoreN X0.here hx rfl (hb hby d2_12) rfl (l' := #[.val (.ref a1), .val (.int p2), .val (.int (1 : Int32)), .val (.int (0 : Int32))]) rfl ?_
    show Steps p.tables e below (s₁.setTop (mkF m 13 #[.val (.ref a1), .val (.int p2), .val (.int (1 : Int32)), .val (.int (0 : Int32))] [])) t
    refine XS.iloadN X0.here hx rfl (hb hby d2_13) rfl ?_
    show Steps p.tables e below (s₁.setTop (mkF m 14 #[.val (.ref a1), .val (.int p2), .val (.int (1 : Int32)), .val (.int (0 : Int32))] [(.int (1 : Int32))])) t
    refine XS.ifNo X0.here hx rfl (hb hby d2_14) rfl ((if0 _ _).trans (feq (by decide)).1) ?_
    show Steps p.tables e below (s₁.setTop (mkF m 17 #[.val (.ref a1), .val (.int p2), .val (.int (1 : Int32)), .val (.int (0 : Int32))] [])) t
    refine XS.iloadN X0.here hx rfl (hb hby d2_17) rfl ?_
    show Steps p.tables e below (s₁.setTop (mkF m 18 #[.val (.ref a1), .val (.int p2), .val (.int (1 : Int32)), .val (.int (0 : Int32))] [(.int (0 : Int32))])) t
    refine XS.iconst X0.here hx rfl (hb hby d2_18) ?_
    show Steps p.tables e below (s₁.setTop (mkF m 19 #[.val (.ref a1), .val (.int p2), .val (.int (1 : Int32)), .val (.int (0 : Int32))] [(.int (3 : Int32)), (.int (0 : Int32))])) t
    refine XS.icmpNo X0.here hx rfl (hb hby d2_19) rfl (tlt (by decide)).2.1 ?_
    show Steps p.tables e below (s₁.setTop (mkF m 22 #[.val (.ref a1), .val (.int p2), .val (.int (1 : Int32)), .val (.int (0 : Int32))] [])) t
    refine XS.aloadN X0.here hx rfl (hb hby d2_22) rfl rfl ?_
    show Steps p.tables e below (s₁.setTop (mkF m 23 #[.val (.ref a1), .val (.int p2), .val (.int (1 : Int32)), .val (.int (0 : Int32))] [(.ref a1)])) t
    refine XS.iloadN X0.here hx rfl (hb hby d2_23) rfl ?_
    show Steps p.tables e below (s₁.setTop (mkF m 24 #[.val (.ref a1), .val (.int p2), .val (.int (1 : Int32)), .val (.int (0 : Int32))] [(.int (0 : Int32)), (.ref a1)])) t
    refine X0.baloadBytes hx (j := (0 : Int32)) (v := (.int y0)) (by rw [e0]; exact Ar1.1) (State.isArrayOf_alike hZ.alike Ar1.2.1) Ar1.2.2 hin1 (Has.at H1_ hin1 rfl) (g := (mkF m 24 #[.val (.ref a1), .val (.int p2), .val (.int (1 : Int32)), .val (.int (0 : Int32))] [(.int (0 : Int32)), (.ref a1)])) rfl rfl (hb hby d2_24) _ ?_
    exact k
  obtain ⟨T3, X3, e3, st3⟩ := getS2 X0 hx hZ hown (host := "") (Or.inl (hw _ (List.mem_of_getElem? (i := 9) rfl))) Via.refl e0 S (g := (mkF m 25 #[.val (.ref a1), .val (.int p2), .val (.int (1 : Int32)), .val (.int (0 : Int32))] [(.int y0)])) rfl (hb hby d2_25)
  have P4 : ∀ t, Steps p.tables e below (T3.setTop (mkF m 28 #[.val (.ref a1), .val (.int p2), .val (.int (1 : Int32)), .val (.int (0 : Int32))] [(.ref wB), (.int y0)])) t → Steps p.tables e below (s₁.setTop (mkF m 0 #[.val (.ref a1), .val (.int p2), .unset, .unset] [])) t := fun t k => P2 t (st3 _ k)
  obtain ⟨cl5, Ar5, q5, S5_, N5_, H5_, G5_⟩ := id VB
  have hin5 : ¬ ((0 : Int32) < 0 ∨ cl5.slots.size ≤ ((0 : Int32)).toNatClampNeg) := inb_of S5_ ⟨by decide, by decide⟩
  obtain ⟨cl6, Ar6, q6, S6_, N6_, H6_, G6_⟩ := id VA
  have hin6 : ¬ (((0 : Int32) + (1 : Int32)) < 0 ∨ cl6.slots.size ≤ (((0 : Int32) + (1 : Int32))).toNatClampNeg) := inb_of S6_ ⟨by decide, hl1⟩
  have P7 : ∀ t, Steps p.tables e below (T3.setTop (mkF m 25 #[.val (.ref a1), .val (.int p2), .val (.int (1 : Int32)), .val (.int ((0 : Int32) + (1 : Int32)))] [(.int y1)])) t → Steps p.tables e below (s₁.setTop (mkF m 0 #[.val (.ref a1), .val (.int p2), .unset, .unset] [])) t := fun t k => by
    refine P4 t ?_
    show Steps p.tables e below (T3.setTop (mkF m 28 #[.val (.ref a1), .val (.int p2), .val (.int (1 : Int32)), .val (.int (0 : Int32))] [(.ref wB), (.int y0)])) t
    refine XS.iloadN X3.here hx rfl (hb hby d2_28) rfl ?_
    show Steps p.tables e below (T3.setTop (mkF m 29 #[.val (.ref a1), .val (.int p2), .val (.int (1 : Int32)), .val (.int (0 : Int32))] [(.int (0 : Int32)), (.ref wB), (.int y0)])) t
    refine X3.baloadBytes hx (j := (0 : Int32)) (v := (.int (-17 : Int32))) (by rw [e3]; exact Ar5.1) (State.isArrayOf_alike hZ.alike Ar5.2.1) Ar5.2.2 hin5 (Has.at H5_ hin5 rfl) (g := (mkF m 29 #[.val (.ref a1), .val (.int p2), .val (.int (1 : Int32)), .val (.int (0 : Int32))] [(.int (0 : Int32)), (.ref wB), (.int y0)])) rfl rfl (hb hby d2_29) _ ?_
    show Steps p.tables e below (T3.setTop (mkF m 30 #[.val (.ref a1), .val (.int p2), .val (.int (1 : Int32)), .val (.int (0 : Int32))] [(.int (-17 : Int32)), (.int y0)])) t
    refine XS.icmpNo X3.here hx rfl (hb hby d2_30) rfl (teq hy0).2 ?_
    show Steps p.tables e below (T3.setTop (mkF m 33 #[.val (.ref a1), .val (.int p2), .val (.int (1 : Int32)), .val (.int (0 : Int32))] [])) t
    refine XS.iconst X3.here hx rfl (hb hby d2_33) ?_
    show Steps p.tables e below (T3.setTop (mkF m 34 #[.val (.ref a1), .val (.int p2), .val (.int (1 : Int32)), .val (.int (0 : Int32))] [(.int (1 : Int32))])) t
    refine XS.goto X3.here hx rfl (pc0 := 34) (pc' := 38) rfl (hb hby d2_34) (by decide) (by decide) ?_
    show Steps p.tables e below (T3.setTop (mkF m 38 #[.val (.ref a1), .val (.int p2), .val (.int (1 : Int32)), .val (.int (0 : Int32))] [(.int (1 : Int32))])) t
    refine XS.istoreN X3.here hx rfl (hb hby d2_38) rfl (l' := #[.val (.ref a1), .val (.int p2), .val (.int (1 : Int32)), .val (.int (0 : Int32))]) rfl ?_
    show Steps p.tables e below (T3.setTop (mkF m 39 #[.val (.ref a1), .val (.int p2), .val (.int (1 : Int32)), .val (.int (0 : Int32))] [])) t
    refine XS.iinc X3.here hx rfl (hb hby d2_39) rfl (l' := #[.val (.ref a1), .val (.int p2), .val (.int (1 : Int32)), .val (.int ((0 : Int32) + (1 : Int32)))]) rfl ?_
    show Steps p.tables e below (T3.setTop (mkF m 42 #[.val (.ref a1), .val (.int p2), .val (.int (1 : Int32)), .val (.int ((0 : Int32) + (1 : Int32)))] [])) t
    refine XS.goto X3.here hx rfl (pc0 := 42) (pc' := 13) rfl (hb hby d2_42) (by decide) (by decide) ?_
    show Steps p.tables e below (T3.setTop (mkF m 13 #[.val (.ref a1), .val (.int p2), .val (.int (1 : Int32)), .val (.int ((0 : Int32) + (1 : Int32)))] [])) t
    refine XS.iloadN X3.here hx rfl (hb hby d2_13) rfl ?_
    show Steps p.tables e below (T3.setTop (mkF m 14 #[.val (.ref a1), .val (.int p2), .val (.int (1 : Int32)), .val (.int ((0 : Int32) + (1 : Int32)))] [(.int (1 : Int32))])) t
    refine XS.ifNo X3.here hx rfl (hb hby d2_14) rfl ((if0 _ _).trans (feq (by decide)).1) ?_
    show Steps p.tables e below (T3.setTop (mkF m 17 #[.val (.ref a1), .val (.int p2), .val (.int (1 : Int32)), .val (.int ((0 : Int32) + (1 : Int32)))] [])) t
    refine XS.iloadN X3.here hx rfl (hb hby d2_17) rfl ?_
    show Steps p.tables e below (T3.setTop (mkF m 18 #[.val (.ref a1), .val (.int p2), .val (.int (1 : Int32)), .val (.int ((0 : Int32) + (1 : Int32)))] [(.int ((0 : Int32) + (1 : Int32)))])) t
    refine XS.iconst X3.here hx rfl (hb hby d2_18) ?_
    show Steps p.tables e below (T3.setTop (mkF m 19 #[.val (.ref a1), .val (.int p2), .val (.int (1 : Int32)), .val (.int ((0 : Int32) + (1 : Int32)))] [(.int (3 : Int32)), (.int ((0 : Int32) + (1 : Int32)))])) t
    refine XS.icmpNo X3.here hx rfl (hb hby d2_19) rfl (tlt (by decide)).2.1 ?_
    show Steps p.tables e below (T3.setTop (mkF m 22 #[.val (.ref a1), .val (.int p2), .val (.int (1 : Int32)), .val (.int ((0 : Int32) + (1 : Int32)))] [])) t
    refine XS.aloadN X3.here hx rfl (hb hby d2_22) rfl rfl ?_
    show Steps p.tables e below (T3.setTop (mkF m 23 #[.val (.ref a1), .val (.int p2), .val (.int (1 : Int32)), .val (.int ((0 : Int32) + (1 : Int32)))] [(.ref a1)])) t
    refine XS.iloadN X3.here hx rfl (hb hby d2_23) rfl ?_
    show Steps p.tables e below (T3.setTop (mkF m 24 #[.val (.ref a1), .val (.int p2), .val (.int (1 : Int32)), .val (.int ((0 : Int32) + (1 : Int32)))] [(.int ((0 : Int32) + (1 : Int32))), (.ref a1)])) t
    refine X3.baloadBytes hx (j := ((0 : Int32) + (1 : Int32))) (v := (.int y1)) (by rw [e3]; exact Ar6.1) (State.isArrayOf_alike hZ.alike Ar6.2.1) Ar6.2.2 hin6 (Has.at H6_ hin6 rfl) (g := (mkF m 24 #[.val (.ref a1), .val (.int p2), .val (.int (1 : Int32)), .val (.int ((0 : Int32) + (1 : Int32)))] [(.int ((0 : Int32) + (1 : Int32))), (.ref a1)])) rfl rfl (hb hby d2_24) _ ?_
    exact k
  obtain ⟨T8, X8, e8, st8⟩ := getS2 X3 hx hZ hown (host := "") (Or.inl (hw _ (List.mem_of_getElem? (i := 9) rfl))) Via.refl e3 S (g := (mkF m 25 #[.val (.ref a1), .val (.int p2), .val (.int (1 : Int32)), .val (.int ((0 : Int32) + (1 : Int32)))] [(.int y1)])) rfl (hb hby d2_25)
  have P9 : ∀ t, Steps p.tables e below (T8.setTop (mkF m 28 #[.val (.ref a1), .val (.int p2), .val (.int (1 : Int32)), .val (.int ((0 : Int32) + (1 : Int32)))] [(.ref wB), (.int y1)])) t → Steps p.tables e below (s₁.setTop (mkF m 0 #[.val (.ref a1), .val (.int p2), .unset, .unset] [])) t := fun t k => P7 t (st8 _ k)
  obtain ⟨cl10, Ar10, q10, S10_, N10_, H10_, G10_⟩ := id VB
  have hin10 : ¬ (((0 : Int32) + (1 : Int32)) < 0 ∨ cl10.slots.size ≤ (((0 : Int32) + (1 : Int32))).toNatClampNeg) := inb_of S10_ ⟨by decide, by decide⟩
  obtain ⟨cl11, Ar11, q11, S11_, N11_, H11_, G11_⟩ := id VA
  have hin11 : ¬ ((((0 : Int32) + (1 : Int32)) + (1 : Int32)) < 0 ∨ cl11.slots.size ≤ ((((0 : Int32) + (1 : Int32)) + (1 : Int32))).toNatClampNeg) := inb_of S11_ ⟨by decide, hl2⟩
  have P12 : ∀ t, Steps p.tables e below (T8.setTop (mkF m 25 #[.val (.ref a1), .val (.int p2), .val (.int (1 : Int32)), .val (.int (((0 : Int32) + (1 : Int32)) + (1 : Int32)))] [(.int y2)])) t → Steps p.tables e below (s₁.setTop (mkF m 0 #[.val (.ref a1), .val (.int p2), .unset, .unset] [])) t := fun t k => by
    refine P9 t ?_
    show Steps p.tables e below (T8.setTop (mkF m 28 #[.val (.ref a1), .val (.int p2), .val (.int (1 : Int32)), .val (.int ((0 : Int32) + (1 : Int32)))] [(.ref wB), (.int y1)])) t
    refine XS.iloadN X8.here hx rfl (hb hby d2_28) rfl ?_
    show Steps p.tables e below (T8.setTop (mkF m 29 #[.val (.ref a1), .val (.int p2), .val (.int (1 : Int32)), .val (.int ((0 : Int32) + (1 : Int32)))] [(.int ((0 : Int32) + (1 : Int32))), (.ref wB), (.int y1)])) t
    refine X8.baloadBytes hx (j := ((0 : Int32) + (1 : Int32))) (v := (.int (-69 : Int32))) (by rw [e8]; exact Ar10.1) (State.isArrayOf_alike hZ.alike Ar10.2.1) Ar10.2.2 hin10 (Has.at H10_ hin10 rfl) (g := (mkF m 29 #[.val (.ref a1), .val (.int p2), .val (.int (1 : Int32)), .val (.int ((0 : Int32) + (1 : Int32)))] [(.int ((0 : Int32) + (1 : Int32))), (.ref wB), (.int y1)])) rfl rfl (hb hby d2_29) _ ?_
    show Steps p.tables e below (T8.setTop (mkF m 30 #[.val (.ref a1), .val (.int p2), .val (.int (1 : Int32)), .val (.int ((0 : Int32) + (1 : Int32)))] [(.int (-69 : Int32)), (.int y1)])) t
    refine XS.icmpNo X8.here hx rfl (hb hby d2_30) rfl (teq hy1).2 ?_
    show Steps p.tables e below (T8.setTop (mkF m 33 #[.val (.ref a1), .val (.int p2), .val (.int (1 : Int32)), .val (.int ((0 : Int32) + (1 : Int32)))] [])) t
    refine XS.iconst X8.here hx rfl (hb hby d2_33) ?_
    show Steps p.tables e below (T8.setTop (mkF m 34 #[.val (.ref a1), .val (.int p2), .val (.int (1 : Int32)), .val (.int ((0 : Int32) + (1 : Int32)))] [(.int (1 : Int32))])) t
    refine XS.goto X8.here hx rfl (pc0 := 34) (pc' := 38) rfl (hb hby d2_34) (by decide) (by decide) ?_
    show Steps p.tables e below (T8.setTop (mkF m 38 #[.val (.ref a1), .val (.int p2), .val (.int (1 : Int32)), .val (.int ((0 : Int32) + (1 : Int32)))] [(.int (1 : Int32))])) t
    refine XS.istoreN X8.here hx rfl (hb hby d2_38) rfl (l' := #[.val (.ref a1), .val (.int p2), .val (.int (1 : Int32)), .val (.int ((0 : Int32) + (1 : Int32)))]) rfl ?_
    show Steps p.tables e below (T8.setTop (mkF m 39 #[.val (.ref a1), .val (.int p2), .val (.int (1 : Int32)), .val (.int ((0 : Int32) + (1 : Int32)))] [])) t
    refine XS.iinc X8.here hx rfl (hb hby d2_39) rfl (l' := #[.val (.ref a1), .val (.int p2), .val (.int (1 : Int32)), .val (.int (((0 : Int32) + (1 : Int32)) + (1 : Int32)))]) rfl ?_
    show Steps p.tables e below (T8.setTop (mkF m 42 #[.val (.ref a1), .val (.int p2), .val (.int (1 : Int32)), .val (.int (((0 : Int32) + (1 : Int32)) + (1 : Int32)))] [])) t
    refine XS.goto X8.here hx rfl (pc0 := 42) (pc' := 13) rfl (hb hby d2_42) (by decide) (by decide) ?_
    show Steps p.tables e below (T8.setTop (mkF m 13 #[.val (.ref a1), .val (.int p2), .val (.int (1 : Int32)), .val (.int (((0 : Int32) + (1 : Int32)) + (1 : Int32)))] [])) t
    refine XS.iloadN X8.here hx rfl (hb hby d2_13) rfl ?_
    show Steps p.tables e below (T8.setTop (mkF m 14 #[.val (.ref a1), .val (.int p2), .val (.int (1 : Int32)), .val (.int (((0 : Int32) + (1 : Int32)) + (1 : Int32)))] [(.int (1 : Int32))])) t
    refine XS.ifNo X8.here hx rfl (hb hby d2_14) rfl ((if0 _ _).trans (feq (by decide)).1) ?_
    show Steps p.tables e below (T8.setTop (mkF m 17 #[.val (.ref a1), .val (.int p2), .val (.int (1 : Int32)), .val (.int (((0 : Int32) + (1 : Int32)) + (1 : Int32)))] [])) t
    refine XS.iloadN X8.here hx rfl (hb hby d2_17) rfl ?_
    show Steps p.tables e below (T8.setTop (mkF m 18 #[.val (.ref a1), .val (.int p2), .val (.int (1 : Int32)), .val (.int (((0 : Int32) + (1 : Int32)) + (1 : Int32)))] [(.int (((0 : Int32) + (1 : Int32)) + (1 : Int32)))])) t
    refine XS.iconst X8.here hx rfl (hb hby d2_18) ?_
    show Steps p.tables e below (T8.setTop (mkF m 19 #[.val (.ref a1), .val (.int p2), .val (.int (1 : Int32)), .val (.int (((0 : Int32) + (1 : Int32)) + (1 : Int32)))] [(.int (3 : Int32)), (.int (((0 : Int32) + (1 : Int32)) + (1 : Int32)))])) t
    refine XS.icmpNo X8.here hx rfl (hb hby d2_19) rfl (tlt (by decide)).2.1 ?_
    show Steps p.tables e below (T8.setTop (mkF m 22 #[.val (.ref a1), .val (.int p2), .val (.int (1 : Int32)), .val (.int (((0 : Int32) + (1 : Int32)) + (1 : Int32)))] [])) t
    refine XS.aloadN X8.here hx rfl (hb hby d2_22) rfl rfl ?_
    show Steps p.tables e below (T8.setTop (mkF m 23 #[.val (.ref a1), .val (.int p2), .val (.int (1 : Int32)), .val (.int (((0 : Int32) + (1 : Int32)) + (1 : Int32)))] [(.ref a1)])) t
    refine XS.iloadN X8.here hx rfl (hb hby d2_23) rfl ?_
    show Steps p.tables e below (T8.setTop (mkF m 24 #[.val (.ref a1), .val (.int p2), .val (.int (1 : Int32)), .val (.int (((0 : Int32) + (1 : Int32)) + (1 : Int32)))] [(.int (((0 : Int32) + (1 : Int32)) + (1 : Int32))), (.ref a1)])) t
    refine X8.baloadBytes hx (j := (((0 : Int32) + (1 : Int32)) + (1 : Int32))) (v := (.int y2)) (by rw [e8]; exact Ar11.1) (State.isArrayOf_alike hZ.alike Ar11.2.1) Ar11.2.2 hin11 (Has.at H11_ hin11 rfl) (g := (mkF m 24 #[.val (.ref a1), .val (.int p2), .val (.int (1 : Int32)), .val (.int (((0 : Int32) + (1 : Int32)) + (1 : Int32)))] [(.int (((0 : Int32) + (1 : Int32)) + (1 : Int32))), (.ref a1)])) rfl rfl (hb hby d2_24) _ ?_
    exact k
  obtain ⟨T13, X13, e13, st13⟩ := getS2 X8 hx hZ hown (host := "") (Or.inl (hw _ (List.mem_of_getElem? (i := 9) rfl))) Via.refl e8 S (g := (mkF m 25 #[.val (.ref a1), .val (.int p2), .val (.int (1 : Int32)), .val (.int (((0 : Int32) + (1 : Int32)) + (1 : Int32)))] [(.int y2)])) rfl (hb hby d2_25)
  have P14 : ∀ t, Steps p.tables e below (T13.setTop (mkF m 28 #[.val (.ref a1), .val (.int p2), .val (.int (1 : Int32)), .val (.int (((0 : Int32) + (1 : Int32)) + (1 : Int32)))] [(.ref wB), (.int y2)])) t → Steps p.tables e below (s₁.setTop (mkF m 0 #[.val (.ref a1), .val (.int p2), .unset, .unset] [])) t := fun t k => P12 t (st13 _ k)
  obtain ⟨cl15, Ar15, q15, S15_, N15_, H15_, G15_⟩ := id VB
  have hin15 : ¬ ((((0 : Int32) + (1 : Int32)) + (1 : Int32)) < 0 ∨ cl15.slots.size ≤ ((((0 : Int32) + (1 : Int32)) + (1 : Int32))).toNatClampNeg) := inb_of S15_ ⟨by decide, by decide⟩
  have P16 : ∀ t, Steps p.tables e below (T13.setTop (mkF m 46 #[.val (.ref a1), .val (.int p2), .val (.int (1 : Int32)), .val (.int ((((0 : Int32) + (1 : Int32)) + (1 : Int32)) + (1 : Int32)))] [(.int (1 : Int32))])) t → Steps p.tables e below (s₁.setTop (mkF m 0 #[.val (.ref a1), .val (.int p2), .unset, .unset] [])) t := fun t k => by
    refine P14 t ?_
    show Steps p.tables e below (T13.setTop (mkF m 28 #[.val (.ref a1), .val (.int p2), .val (.int (1 : Int32)), .val (.int (((0 : Int32) + (1 : Int32)) + (1 : Int32)))] [(.ref wB), (.int y2)])) t
    refine XS.iloadN X13.here hx rfl (hb hby d2_28) rfl ?_
    show Steps p.tables e below (T13.setTop (mkF m 29 #[.val (.ref a1), .val (.int p2), .val (.int (1 : Int32)), .val (.int (((0 : Int32) + (1 : Int32)) + (1 : Int32)))] [(.int (((0 : Int32) + (1 : Int32)) + (1 : Int32))), (.ref wB), (.int y2)])) t
    refine X13.baloadBytes hx (j := (((0 : Int32) + (1 : Int32)) + (1 : Int32))) (v := (.int (-65 : Int32))) (by rw [e13]; exact Ar15.1) (State.isArrayOf_alike hZ.alike Ar15.2.1) Ar15.2.2 hin15 (Has.at H15_ hin15 rfl) (g := (mkF m 29 #[.val (.ref a1), .val (.int p2), .val (.int (1 : Int32)), .val (.int (((0 : Int32) + (1 : Int32)) + (1 : Int32)))] [(.int (((0 : Int32) + (1 : Int32)) + (1 : Int32))), (.ref wB), (.int y2)])) rfl rfl (hb hby d2_29) _ ?_
    show Steps p.tables e below (T13.setTop (mkF m 30 #[.val (.ref a1), .val (.int p2), .val (.int (1 : Int32)), .val (.int (((0 : Int32) + (1 : Int32)) + (1 : Int32)))] [(.int (-65 : Int32)), (.int y2)])) t
    refine XS.icmpNo X13.here hx rfl (hb hby d2_30) rfl (teq hy2).2 ?_
    show Steps p.tables e below (T13.setTop (mkF m 33 #[.val (.ref a1), .val (.int p2), .val (.int (1 : Int32)), .val (.int (((0 : Int32) + (1 : Int32)) + (1 : Int32)))] [])) t
    refine XS.iconst X13.here hx rfl (hb hby d2_33) ?_
    show Steps p.tables e below (T13.setTop (mkF m 34 #[.val (.ref a1), .val (.int p2), .val (.int (1 : Int32)), .val (.int (((0 : Int32) + (1 : Int32)) + (1 : Int32)))] [(.int (1 : Int32))])) t
    refine XS.goto X13.here hx rfl (pc0 := 34) (pc' := 38) rfl (hb hby d2_34) (by decide) (by decide) ?_
    show Steps p.tables e below (T13.setTop (mkF m 38 #[.val (.ref a1), .val (.int p2), .val (.int (1 : Int32)), .val (.int (((0 : Int32) + (1 : Int32)) + (1 : Int32)))] [(.int (1 : Int32))])) t
    refine XS.istoreN X13.here hx rfl (hb hby d2_38) rfl (l' := #[.val (.ref a1), .val (.int p2), .val (.int (1 : Int32)), .val (.int (((0 : Int32) + (1 : Int32)) + (1 : Int32)))]) rfl ?_
    show Steps p.tables e below (T13.setTop (mkF m 39 #[.val (.ref a1), .val (.int p2), .val (.int (1 : Int32)), .val (.int (((0 : Int32) + (1 : Int32)) + (1 : Int32)))] [])) t
    refine XS.iinc X13.here hx rfl (hb hby d2_39) rfl (l' := #[.val (.ref a1), .val (.int p2), .val (.int (1 : Int32)), .val (.int ((((0 : Int32) + (1 : Int32)) + (1 : Int32)) + (1 : Int32)))]) rfl ?_
    show Steps p.tables e below (T13.setTop (mkF m 42 #[.val (.ref a1), .val (.int p2), .val (.int (1 : Int32)), .val (.int ((((0 : Int32) + (1 : Int32)) + (1 : Int32)) + (1 : Int32)))] [])) t
    refine XS.goto X13.here hx rfl (pc0 := 42) (pc' := 13) rfl (hb hby d2_42) (by decide) (by decide) ?_
    show Steps p.tables e below (T13.setTop (mkF m 13 #[.val (.ref a1), .val (.int p2), .val (.int (1 : Int32)), .val (.int ((((0 : Int32) + (1 : Int32)) + (1 : Int32)) + (1 : Int32)))] [])) t
    refine XS.iloadN X13.here hx rfl (hb hby d2_13) rfl ?_
    show Steps p.tables e below (T13.setTop (mkF m 14 #[.val (.ref a1), .val (.int p2), .val (.int (1 : Int32)), .val (.int ((((0 : Int32) + (1 : Int32)) + (1 : Int32)) + (1 : Int32)))] [(.int (1 : Int32))])) t
    refine XS.ifNo X13.here hx rfl (hb hby d2_14) rfl ((if0 _ _).trans (feq (by decide)).1) ?_
    show Steps p.tables e below (T13.setTop (mkF m 17 #[.val (.ref a1), .val (.int p2), .val (.int (1 : Int32)), .val (.int ((((0 : Int32) + (1 : Int32)) + (1 : Int32)) + (1 : Int32)))] [])) t
    refine XS.iloadN X13.here hx rfl (hb hby d2_17) rfl ?_
    show Steps p.tables e below (T13.setTop (mkF m 18 #[.val (.ref a1), .val (.int p2), .val (.int (1 : Int32)), .val (.int ((((0 : Int32) + (1 : Int32)) + (1 : Int32)) + (1 : Int32)))] [(.int ((((0 : Int32) + (1 : Int32)) + (1 : Int32)) + (1 : Int32)))])) t
    refine XS.iconst X13.here hx rfl (hb hby d2_18) ?_
    show Steps p.tables e below (T13.setTop (mkF m 19 #[.val (.ref a1), .val (.int p2), .val (.int (1 : Int32)), .val (.int ((((0 : Int32) + (1 : Int32)) + (1 : Int32)) + (1 : Int32)))] [(.int (3 : Int32)), (.int ((((0 : Int32) + (1 : Int32)) + (1 : Int32)) + (1 : Int32)))])) t
    refine XS.icmpYes X13.here hx rfl (pc0 := 19) (pc' := 45) rfl (hb hby d2_19) rfl (flt (by decide)).2.1 (by decide) (by decide) ?_
    show Steps p.tables e below (T13.setTop (mkF m 45 #[.val (.ref a1), .val (.int p2), .val (.int (1 : Int32)), .val (.int ((((0 : Int32) + (1 : Int32)) + (1 : Int32)) + (1 : Int32)))] [])) t
    refine XS.iloadN X13.here hx rfl (hb hby d2_45) rfl ?_
    exact k
  obtain ⟨fs, hr, hrun, hended, hW, hsame⟩ := X13.leave (v := some (.int (1 : Int32))) (fun h => by rw [Bd.returns] at h; cases h)
  refine ⟨_, _, pre0 _ (P16 _ ?_), hrun, hended, _, _, rfl, ?_, ⟨_, rfl⟩, hW, hsame.mono (by decide) (by decide)⟩
  · exact retN X13 hx (t := .boolean) Bd.returns (by simp) (hb hby d2_46) hr
  · show Q2_3 Z a1 p2 wB ka kb nn y0 y1 y2 y3 h0 n0 _ T13.heap _
    rw [e13]
    exact ⟨rfl, N0, rfl⟩
theorem d2_9 : decode prog_115_method_10_code 9 = .ok (.iconst 0, 1) := by decide +kernel
def Q2_z (Z : State) (a1 : Addr) (p2 : Int32) (h0 : Heap) (n0 : Nat) (v : Option Value) (h : Heap) (L : List Loc) : Prop := v = some (.int (0 : Int32)) ∧ Fr n0 L ∧ h = h0
set_option maxRecDepth 65536 in
set_option maxHeartbeats 40000000 in
theorem rm2_z (l : Launch) (Z : State) (a0 : Array Value) (hw : ∀ d ∈ tables_1, d.before a0 Z = true) (ws : List Jvm.Cond) (a1 : Addr) (p2 : Int32) (h0 : Heap) (n0 : Nat) (Z0 : n0 ≤ h0.size) (hl : p2 < 3) :
    MetFree l (⟨"com/example/vestline/vestline/text/TextFile", "startsWithByteOrderMark", "([BI)Z"⟩ : MethodName) (head1 (Jvm.Cond.code (⟨"com/example/vestline/vestline/text/TextFile", "startsWithByteOrderMark", "([BI)Z"⟩ : MethodName) prog_115_method_10_code 4 (some .boolean) :: ws) ({ frames := 0, cells := 0, slots := 0, locals := 0 } : Room)) (fun a U => a = #[(.ref a1), (.int p2)] ∧ Z.Warmed39 U.vm ∧ U.heap = h0) (fun _ _ _ _ _ => True) (fun _ U o U' => ∃ v L, o = .returned v ∧ Q2_z Z a1 p2 h0 n0 v U'.heap L ∧ FrameEnd U o U' L ({ frames := 0, cells := 0, slots := 0, locals := 0 } : Room).cells ({ frames := 0, cells := 0, slots := 0, locals := 0 } : Room).slots) := by
  refine MetFree.of_bodySF (plainFor_of_name pn_2) hisR ?_
  intro p e s m args below meth c s₁ Bd hml0 hP hK
  obtain ⟨rfl, hZ, hh⟩ := hP
  have hx := Bd.exec
  have hby := Bd.bytes
  have hml : c.maxLocals = 4 := hml0
  have hown : s.vm.findClass "com/example/vestline/vestline/text/TextFile" = some m.cls := findClass_of_methodNamed Bd.named
  have hnm := (name_of_methodNamed Bd.named Bd.method).1
  have X0 : Stand p l e ({ frames := 0, cells := 0, slots := 0, locals := 0 } : Room) s m #[(.ref a1), (.int p2)] below meth c s₁ [] 0 0 := Stand.of_body Bd
  have e0 : s₁.heap = h0 := by rw [← hh, Bd.state]; rfl
  have N0 := Fr.nil n0
  have pre0 : ∀ t, Steps p.tables e below (s₁.setTop (mkF m 0 #[.val (.ref a1), .val (.int p2), .unset, .unset] [])) t → Steps p.tables e below (s₁.setTop (entryFrame m #[(.ref a1), (.int p2)] 4)) t := fun t k => castTop (ef_2 m a1 p2) k
  have P1 : ∀ t, Steps p.tables e below (s₁.setTop (mkF m 46 #[.val (.ref a1), .val (.int p2), .val (.int (0 : Int32)), .val (.int (0 : Int32))] [(.int (0 : Int32))])) t → Steps p.tables e below (s₁.setTop (mkF m 0 #[.val (.ref a1), .val (.int p2), .unset, .unset] [])) t := fun t k => by
    show Steps p.tables e below (s₁.setTop (mkF m 0 #[.val (.ref a1), .val (.int p2), .unset, .unset] [])) t
    refine XS.iloadN X0.here hx rfl (hb hby d2_0) rfl ?_
    show Steps p.tables e below (s₁.setTop (mkF m 1 #[.val (.ref a1), .val (.int p2), .unset, .unset] [(.int p2)])) t
    refine XS.iconst X0.here hx rfl (hb hby d2_1) ?_
    show Steps p.tables e below (s₁.setTop (mkF m 2 #[.val (.ref a1), .val (.int p2), .unset, .unset] [(.int (3 : Int32)), (.int p2)])) t
    refine XS.icmpYes X0.here hx rfl (pc0 := 2) (pc' := 9) rfl (hb hby d2_2) rfl (tlt hl).1 (by decide) (by decide) ?_
    show Steps p.tables e below (s₁.setTop (mkF m 9 #[.val (.ref a1), .val (.int p2), .unset, .unset] [])) t
    refine XS.iconst X0.here hx rfl (hb hby d2_9) ?_
    show Steps p.tables e below (s₁.setTop (mkF m 10 #[.val (.ref a1), .val (.int p2), .unset, .unset] [(.int (0 : Int32))])) t
    refine XS.istoreN X0.here hx rfl (hb hby d2_10) rfl (l' := #[.val (.ref a1), .val (.int p2), .val (.int (0 : Int32)), .unset]) rfl ?_
    show Steps p.tables e below (s₁.setTop (mkF m 11 #[.val (.ref a1), .val (.int p2), .val (.int (0 : Int32)), .unset] [])) t
    refine XS.iconst X0.here hx rfl (hb hby d2_11) ?_
    show Steps p.tables e below (s₁.setTop (mkF m 12 #[.val (.ref a1), .val (.int p2), .val (.int (0 : Int32)), .unset] [(.int (0 : Int32))])) t
    refine XS.istoreN X0.here hx rfl (hb hby d2_12) rfl (l' := #[.val (.ref a1), .val (.int p2), .val (.int (0 : Int32)), .val (.int (0 : Int32))]) rfl ?_
    show Steps p.tables e below (s₁.setTop (mkF m 13 #[.val (.ref a1), .val (.int p2), .val (.int (0 : Int32)), .val (.int (0 : Int32))] [])) t
    refine XS.iloadN X0.here hx rfl (hb hby d2_13) rfl ?_
    show Steps p.tables e below (s₁.setTop (mkF m 14 #[.val (.ref a1), .val (.int p2), .val (.int (0 : Int32)), .val (.int (0 : Int32))] [(.int (0 : Int32))])) t
    refine XS.ifYes X0.here hx rfl (pc0 := 14) (pc' := 45) rfl (hb hby d2_14) rfl ((if0 _ _).trans (teq rfl).1) (by decide) (by decide) ?_
    show Steps p.tables e below (s₁.setTop (mkF m 45 #[.val (.ref a1), .val (.int p2), .val (.int (0 : Int32)), .val (.int (0 : Int32))] [])) t
    refine XS.iloadN X0.here hx rfl (hb hby d2_45) rfl ?_
    exact k
  obtain ⟨fs, hr, hrun, hended, hW, hsame⟩ := X0.leave (v := some (.int (0 : Int32))) (fun h => by rw [Bd.returns] at h; cases h)
  refine ⟨_, _, pre0 _ (P1 _ ?_), hrun, hended, _, _, rfl, ?_, ⟨_, rfl⟩, hW, hsame.mono (by decide) (by decide)⟩
  · exact retN X0 hx (t := .boolean) Bd.returns (by simp) (hb hby d2_46) hr
  · show Q2_z Z a1 p2 h0 n0 _ s₁.heap _
    rw [e0]
    exact ⟨rfl, N0, rfl⟩
theorem own_b0 (x : Int32) : (x &&& (255 : Int32)) = 239 ↔ x.toInt8.toInt32.toInt8.toInt32 = -17 := by
  have h1 := c_mask x 255 8 (by decide) (by decide); have h2 := c_i2b x; have h3 := c_i2b x.toInt8.toInt32
  have e8 : ((2 ^ 8 : Nat) : Int) = 256 := rfl; have ea : (239 : Int32).toInt = 239 := rfl; have eb : (-17 : Int32).toInt = -17 := rfl
  rw [← Int32.toInt_inj, ← Int32.toInt_inj, h1]; omega
theorem own_b1 (x : Int32) : (x &&& (255 : Int32)) = 187 ↔ x.toInt8.toInt32.toInt8.toInt32 = -69 := by
  have h1 := c_mask x 255 8 (by decide) (by decide); have h2 := c_i2b x; have h3 := c_i2b x.toInt8.toInt32
  have e8 : ((2 ^ 8 : Nat) : Int) = 256 := rfl; have ea : (187 : Int32).toInt = 187 := rfl; have eb : (-69 : Int32).toInt = -69 := rfl
  rw [← Int32.toInt_inj, ← Int32.toInt_inj, h1]; omega
theorem own_b2 (x : Int32) : (x &&& (255 : Int32)) = 191 ↔ x.toInt8.toInt32.toInt8.toInt32 = -65 := by
  have h1 := c_mask x 255 8 (by decide) (by decide); have h2 := c_i2b x; have h3 := c_i2b x.toInt8.toInt32
  have e8 : ((2 ^ 8 : Nat) : Int) = 256 := rfl; have ea : (191 : Int32).toInt = 191 := rfl; have eb : (-65 : Int32).toInt = -65 := rfl
  rw [← Int32.toInt_inj, ← Int32.toInt_inj, h1]; omega
theorem own_m7 (x : Int32) : ¬ (x &&& (7 : Int32)) < 0 ∧ (x &&& (7 : Int32)).toNatClampNeg ≤ 7 := by
  have h := c_and x 7 (by decide); have e0 : (0 : Int32).toInt = 0 := rfl; have e7 : (7 : Int32).toInt = 7 := rfl
  rw [Int32.lt_iff_toInt_lt]; simp only [Int32.toNatClampNeg]; omega
theorem own_lt {a b c : Int32} (h : ¬ a < b) (g : a < c) : b < c := by
  rw [Int32.lt_iff_toInt_lt] at *; omega
theorem own_nlt {a b c : Int32} (h : ¬ b < a) (g : b < c) : ¬ c < a := by
  rw [Int32.lt_iff_toInt_lt] at *; omega
theorem own_minlt {n b : Int32} (h : ¬ (2 : Int32) < n) : own_min n b < 3 := by
  have e2 : (2 : Int32).toInt = 2 := rfl; have e3 : (3 : Int32).toInt = 3 := rfl
  unfold own_min; split <;> rw [Int32.lt_iff_toInt_lt] at * <;> omega
theorem pn_0 : plainName "com/example/vestline/vestline/text/TextFileStartsWithByteOrderMarkPinLaw" = true := by first | (simp [plainName, overriddenIn]; done) | decide +kernel
theorem ef_0 (m : MethodId) (x0 : Int32) (x1 : Int32) (x2 : Int32) (x3 : Int32) (x4 : Int32) : entryFrame m #[(.int x0), (.int x1), (.int x2), (.int x3), (.int x4)] maxLocals = mkF m 0 #[.val (.int x0), .val (.int x1), .val (.int x2), .val (.int x3), .val (.int x4), .unset, .unset, .unset, .unset] [] := by first | (simp [entryFrame, mkF, argsToLocals, Value.category, maxLocals]; done) | rfl
theorem pd__II_I : parseMethodDescriptor "(II)I" = some ⟨[.int, .int], some .int⟩ := by decide +kernel
theorem pd___BI_Z : parseMethodDescriptor "([BI)Z" = some ⟨[(.array .byte), .int], some .boolean⟩ := by decide +kernel
def Q0 (Z : State) (p1 p2 p3 p4 p5 : Int32) (wB : Addr) (kB : ClassId) (h0 : Heap) (n0 : Nat) (v : Option Value) (h : Heap) (L : List Loc) : Prop := v = some (.int 1) ∧ Fr n0 L
set_option maxRecDepth 65536 in
set_option maxHeartbeats 40000000 in
theorem rm0 (l : Launch) (Z : State) (a0 : Array Value) (hw : ∀ d ∈ tables_1, d.before a0 Z = true) (ws : List Jvm.Cond) (p1 p2 p3 p4 p5 : Int32) (wB : Addr) (kB : ClassId) (h0 : Heap) (n0 : Nat) (Z0 : n0 ≤ h0.size) (S : Sta Z h0 "com/example/vestline/vestline/text/TextFile" "BYTE_ORDER_MARK_BYTES" "[B" (.ref wB)) (VB : Arv Z h0 wB kB .byte (3 : Int32) [(.int (-17 : Int32)), (.int (-69 : Int32)), (.int (-65 : Int32))] (.int (0 : Int32))) :
    MetFree l x (head1 (Jvm.Cond.code x code maxLocals ret :: ws) room_1) (fun a U => a = #[(.int p1), (.int p2), (.int p3), (.int p4), (.int p5)] ∧ Z.Warmed39 U.vm ∧ U.heap = h0) (fun _ _ _ _ _ => True) (fun _ U o U' => ∃ v L, o = .returned v ∧ Q0 Z p1 p2 p3 p4 p5 wB kB h0 n0 v U'.heap L ∧ FrameEnd U o U' L room_1.cells room_1.slots) := by
  refine MetFree.of_bodySF (plainFor_of_name pn_0) hisR ?_
  intro p e s m args below meth c s₁ Bd hml0 hP hK
  obtain ⟨rfl, hZ, hh⟩ := hP
  have hx := Bd.exec
  have hby := Bd.bytes
  have hml : c.maxLocals = 9 := hml0
  have hown : s.vm.findClass "com/example/vestline/vestline/text/TextFileStartsWithByteOrderMarkPinLaw" = some m.cls := findClass_of_methodNamed Bd.named
  have hnm := (name_of_methodNamed Bd.named Bd.method).1
  have X0 : Stand p l e room_1 s m #[(.int p1), (.int p2), (.int p3), (.int p4), (.int p5)] below meth c s₁ [] 0 0 := Stand.of_body Bd
  have e0 : s₁.heap = h0 := by rw [← hh, Bd.state]; rfl
  have N0 := Fr.nil n0
  have pre0 : ∀ t, Steps p.tables e below (s₁.setTop (mkF m 0 #[.val (.int p1), .val (.int p2), .val (.int p3), .val (.int p4), .val (.int p5), .unset, .unset, .unset, .unset] [])) t → Steps p.tables e below (s₁.setTop (entryFrame m #[(.int p1), (.int p2), (.int p3), (.int p4), (.int p5)] maxLocals)) t := fun t k => castTop (ef_0 m p1 p2 p3 p4 p5) k
  have P1 : ∀ t, Steps p.tables e below (s₁.setTop (mkF m 6 #[.val (.int p1), .val (.int p2), .val (.int p3), .val (.int p4), .val (.int p5), .val (.int (p1 &&& (7 : Int32))), .unset, .unset, .unset] [])) t → Steps p.tables e below (s₁.setTop (mkF m 0 #[.val (.int p1), .val (.int p2), .val (.int p3), .val (.int p4), .val (.int p5), .unset, .unset, .unset, .unset] [])) t := fun t k => by
    show Steps p.tables e below (s₁.setTop (mkF m 0 #[.val (.int p1), .val (.int p2), .val (.int p3), .val (.int p4), .val (.int p5), .unset, .unset, .unset, .unset] [])) t
    refine XS.iloadN X0.here hx rfl (hb hby at_0) rfl ?_
    show Steps p.tables e below (s₁.setTop (mkF m 1 #[.val (.int p1), .val (.int p2), .val (.int p3), .val (.int p4), .val (.int p5), .unset, .unset, .unset, .unset] [(.int p1)])) t
    refine XS.bipush X0.here hx rfl (hb hby at_1) ?_
    show Steps p.tables e below (s₁.setTop (mkF m 3 #[.val (.int p1), .val (.int p2), .val (.int p3), .val (.int p4), .val (.int p5), .unset, .unset, .unset, .unset] [(.int (7 : Int32)), (.int p1)])) t
    refine XS.iand X0.here hx rfl (hb hby at_3) rfl ?_
    show Steps p.tables e below (s₁.setTop (mkF m 4 #[.val (.int p1), .val (.int p2), .val (.int p3), .val (.int p4), .val (.int p5), .unset, .unset, .unset, .unset] [(.int (p1 &&& (7 : Int32)))])) t
    refine XS.istore X0.here hx rfl (hb hby at_4) rfl (l' := #[.val (.int p1), .val (.int p2), .val (.int p3), .val (.int p4), .val (.int p5), .val (.int (p1 &&& (7 : Int32))), .unset, .unset, .unset]) rfl ?_
    exact k
  obtain ⟨nn, hv_nn⟩ : ∃ z, z = (p1 &&& (7 : Int32)) := ⟨_, rfl⟩
  rw [← hv_nn] at P1
  have hnn0 : ¬ nn < 0 := by rw [hv_nn]; exact (own_m7 p1).1
  have hnn7 : nn.toNatClampNeg ≤ 7 := by rw [hv_nn]; exact (own_m7 p1).2
  have P2 : ∀ t, Steps p.tables e below (s₁.setTop (mkF m 14 #[.val (.int p1), .val (.int p2), .val (.int p3), .val (.int p4), .val (.int p5), .val (.int nn), .unset, .unset, .unset] [(.int (((p1.toUInt32 >>> ((3 : Int32) &&& 31).toUInt32).toInt32) &&& (7 : Int32))), (.int nn)])) t → Steps p.tables e below (s₁.setTop (mkF m 0 #[.val (.int p1), .val (.int p2), .val (.int p3), .val (.int p4), .val (.int p5), .unset, .unset, .unset, .unset] [])) t := fun t k => by
    refine P1 t ?_
    show Steps p.tables e below (s₁.setTop (mkF m 6 #[.val (.int p1), .val (.int p2), .val (.int p3), .val (.int p4), .val (.int p5), .val (.int nn), .unset, .unset, .unset] [])) t
    refine XS.iload X0.here hx rfl (hb hby at_6) rfl ?_
    show Steps p.tables e below (s₁.setTop (mkF m 8 #[.val (.int p1), .val (.int p2), .val (.int p3), .val (.int p4), .val (.int p5), .val (.int nn), .unset, .unset, .unset] [(.int nn)])) t
    refine XS.iloadN X0.here hx rfl (hb hby at_8) rfl ?_
    show Steps p.tables e below (s₁.setTop (mkF m 9 #[.val (.int p1), .val (.int p2), .val (.int p3), .val (.int p4), .val (.int p5), .val (.int nn), .unset, .unset, .unset] [(.int p1), (.int nn)])) t
    refine XS.iconst X0.here hx rfl (hb hby at_9) ?_
    show Steps p.tables e below (s₁.setTop (mkF m 10 #[.val (.int p1), .val (.int p2), .val (.int p3), .val (.int p4), .val (.int p5), .val (.int nn), .unset, .unset, .unset] [(.int (3 : Int32)), (.int p1), (.int nn)])) t
    refine XS.iushr X0.here hx rfl (hb hby at_10) rfl ?_
    show Steps p.tables e below (s₁.setTop (mkF m 11 #[.val (.int p1), .val (.int p2), .val (.int p3), .val (.int p4), .val (.int p5), .val (.int nn), .unset, .unset, .unset] [(.int ((p1.toUInt32 >>> ((3 : Int32) &&& 31).toUInt32).toInt32)), (.int nn)])) t
    refine XS.bipush X0.here hx rfl (hb hby at_11) ?_
    show Steps p.tables e below (s₁.setTop (mkF m 13 #[.val (.int p1), .val (.int p2), .val (.int p3), .val (.int p4), .val (.int p5), .val (.int nn), .unset, .unset, .unset] [(.int (7 : Int32)), (.int ((p1.toUInt32 >>> ((3 : Int32) &&& 31).toUInt32).toInt32)), (.int nn)])) t
    refine XS.iand X0.here hx rfl (hb hby at_13) rfl ?_
    exact k
  obtain ⟨_, _, ⟨T3, L3, k3, n3⟩, -, X3, ⟨Lc3, hQ3, l3, y3, z3⟩, st3⟩ := Jvm.LawKit.callS X0 hx (y := (⟨"java/lang/Math", "min", "(II)I"⟩ : MethodName)) hown (mvT hZ (hw _ (List.mem_of_getElem? (i := 0) rfl))) (mvT hZ (hw _ (List.mem_of_getElem? (i := 1) rfl))) (mvT hZ (hw _ (List.mem_of_getElem? (i := 2) rfl))) (mvT hZ (hw _ (List.mem_of_getElem? (i := 3) rfl))) (by decide) (backOf (W := 0) (rm1 l Z a0 hw [] nn (((p1.toUInt32 >>> ((3 : Int32) &&& 31).toUInt32).toInt32) &&& (7 : Int32)) h0 n0 Z0) hZ (hw _ (List.mem_of_getElem? (i := 3) rfl)) (hw _ (List.mem_of_getElem? (i := 2) rfl)) (by decide) (by decide)) (g := (mkF m 14 #[.val (.int p1), .val (.int p2), .val (.int p3), .val (.int p4), .val (.int p5), .val (.int nn), .unset, .unset, .unset] [(.int (((p1.toUInt32 >>> ((3 : Int32) &&& 31).toUInt32).toInt32) &&& (7 : Int32))), (.int nn)])) rfl (by rw [hml]; rfl) (argsL := [(.int nn), (.int (((p1.toUInt32 >>> ((3 : Int32) &&& 31).toUInt32).toInt32) &&& (7 : Int32)))]) (rest := []) (lenOf pd__II_I rfl) rfl (by show 2 * 0 + _ ≤ _; exact Nat.le_of_eq rfl) (hb hby at_14) (fun _ _ => ⟨rfl, e0, (by decide : 0 + 0 ≤ _), (by decide : 0 + 0 ≤ _)⟩)
  dsimp only [Pt.U, Pt.locs, Pt.cells, Pt.slots] at X3 l3 y3 z3 st3 hQ3
  subst l3 y3 z3
  obtain ⟨rfl, N3q, e3⟩ := hQ3
  have N3 := Fr.app N0 N3q
  have P4 : ∀ t, Steps p.tables e below (T3.setTop (mkF m 17 #[.val (.int p1), .val (.int p2), .val (.int p3), .val (.int p4), .val (.int p5), .val (.int nn), .unset, .unset, .unset] [(.int (own_min nn (((p1.toUInt32 >>> ((3 : Int32) &&& 31).toUInt32).toInt32) &&& (7 : Int32))))])) t → Steps p.tables e below (s₁.setTop (mkF m 0 #[.val (.int p1), .val (.int p2), .val (.int p3), .val (.int p4), .val (.int p5), .unset, .unset, .unset, .unset] [])) t := fun t k => P2 t (st3 _ k)
  have P5 : ∀ t, Steps p.tables e below (T3.setTop (mkF m 19 #[.val (.int p1), .val (.int p2), .val (.int p3), .val (.int p4), .val (.int p5), .val (.int nn), .val (.int (own_min nn (((p1.toUInt32 >>> ((3 : Int32) &&& 31).toUInt32).toInt32) &&& (7 : Int32)))), .unset, .unset] [])) t → Steps p.tables e below (s₁.setTop (mkF m 0 #[.val (.int p1), .val (.int p2), .val (.int p3), .val (.int p4), .val (.int p5), .unset, .unset, .unset, .unset] [])) t := fun t k => by
    refine P4 t ?_
    show Steps p.tables e below (T3.setTop (mkF m 17 #[.val (.int p1), .val (.int p2), .val (.int p3), .val (.int p4), .val (.int p5), .val (.int nn), .unset, .unset, .unset] [(.int (own_min nn (((p1.toUInt32 >>> ((3 : Int32) &&& 31).toUInt32).toInt32) &&& (7 : Int32))))])) t
    refine XS.istore X3.here hx rfl (hb hby at_17) rfl (l' := #[.val (.int p1), .val (.int p2), .val (.int p3), .val (.int p4), .val (.int p5), .val (.int nn), .val (.int (own_min nn (((p1.toUInt32 >>> ((3 : Int32) &&& 31).toUInt32).toInt32) &&& (7 : Int32)))), .unset, .unset]) rfl ?_
    exact k
  obtain ⟨lm, hv_lm⟩ : ∃ z, z = (own_min nn (((p1.toUInt32 >>> ((3 : Int32) &&& 31).toUInt32).toInt32) &&& (7 : Int32))) := ⟨_, rfl⟩
  rw [← hv_lm] at P5
  have P6 : ∀ t, Steps p.tables e below (T3.setTop (mkF m 21 #[.val (.int p1), .val (.int p2), .val (.int p3), .val (.int p4), .val (.int p5), .val (.int nn), .val (.int lm), .unset, .unset] [(.int nn)])) t → Steps p.tables e below (s₁.setTop (mkF m 0 #[.val (.int p1), .val (.int p2), .val (.int p3), .val (.int p4), .val (.int p5), .unset, .unset, .unset, .unset] [])) t := fun t k => by
    refine P5 t ?_
    show Steps p.tables e below (T3.setTop (mkF m 19 #[.val (.int p1), .val (.int p2), .val (.int p3), .val (.int p4), .val (.int p5), .val (.int nn), .val (.int lm), .unset, .unset] [])) t
    refine XS.iload X3.here hx rfl (hb hby at_19) rfl ?_
    exact k
  obtain ⟨T7, h7, k7, X7, e7, E7, A7, st7⟩ := newP X3 hx hZ (hw _ (List.mem_of_getElem? (i := 4) rfl)) e3 (g := (mkF m 21 #[.val (.int p1), .val (.int p2), .val (.int p3), .val (.int p4), .val (.int p5), .val (.int nn), .val (.int lm), .unset, .unset] [(.int nn)])) rfl (hb hby at_21) rfl hnn0 (cap := 7) hnn7 (by decide) (by decide) (by decide)
  obtain ⟨b7, g7⟩ : ∃ z, z = h0.size := ⟨_, rfl⟩
  rw [← g7] at A7 st7
  have ne_wB_b7 : wB ≠ b7 := Nat.ne_of_lt (Nat.lt_of_lt_of_le VB.lt (Nat.le_of_eq g7.symm))
  have g_b7 : n0 ≤ b7 := Nat.le_trans Z0 (Nat.le_of_eq g7.symm)
  have S_7 := S.ext E7
  have VB_7 := VB.ext E7
  have Z_8 : n0 ≤ h7.size := Nat.le_trans Z0 E7.1
  have V_b7_0 := Arv.new A7 hnn0
  have P9 : ∀ t, Steps p.tables e below (T7.setTop (mkF m 23 #[.val (.int p1), .val (.int p2), .val (.int p3), .val (.int p4), .val (.int p5), .val (.int nn), .val (.int lm), .unset, .unset] [(.ref b7)])) t → Steps p.tables e below (s₁.setTop (mkF m 0 #[.val (.int p1), .val (.int p2), .val (.int p3), .val (.int p4), .val (.int p5), .unset, .unset, .unset, .unset] [])) t := fun t k => P6 t (st7 _ k)
  have V_b7_p : Arv Z h7 b7 k7 .byte nn [(.int (0 : Int32)), (.int (0 : Int32)), (.int (0 : Int32)), (.int (0 : Int32))] (.int (0 : Int32)) := V_b7_0.pad (pad_rep [] (.int (0 : Int32)) 4)
  have P10 : ∀ t, Steps p.tables e below (T7.setTop (mkF m 27 #[.val (.int p1), .val (.int p2), .val (.int p3), .val (.int p4), .val (.int p5), .val (.int nn), .val (.int lm), .val (.ref b7), .unset] [(.int nn)])) t → Steps p.tables e below (s₁.setTop (mkF m 0 #[.val (.int p1), .val (.int p2), .val (.int p3), .val (.int p4), .val (.int p5), .unset, .unset, .unset, .unset] [])) t := fun t k => by
    refine P9 t ?_
    show Steps p.tables e below (T7.setTop (mkF m 23 #[.val (.int p1), .val (.int p2), .val (.int p3), .val (.int p4), .val (.int p5), .val (.int nn), .val (.int lm), .unset, .unset] [(.ref b7)])) t
    refine XS.astore X7.here hx rfl (hb hby at_23) rfl rfl (l' := #[.val (.int p1), .val (.int p2), .val (.int p3), .val (.int p4), .val (.int p5), .val (.int nn), .val (.int lm), .val (.ref b7), .unset]) rfl ?_
    show Steps p.tables e below (T7.setTop (mkF m 25 #[.val (.int p1), .val (.int p2), .val (.int p3), .val (.int p4), .val (.int p5), .val (.int nn), .val (.int lm), .val (.ref b7), .unset] [])) t
    refine XS.iload X7.here hx rfl (hb hby at_25) rfl ?_
    exact k
  by_cases hc11 : (0 : Int32) < nn
  · have P12 : ∀ t, Steps p.tables e below (T7.setTop (mkF m 35 #[.val (.int p1), .val (.int p2), .val (.int p3), .val (.int p4), .val (.int p5), .val (.int nn), .val (.int lm), .val (.ref b7), .unset] [(.int (p2.toInt8.toInt32)), (.int (0 : Int32)), (.ref b7)])) t → Steps p.tables e below (s₁.setTop (mkF m 0 #[.val (.int p1), .val (.int p2), .val (.int p3), .val (.int p4), .val (.int p5), .unset, .unset, .unset, .unset] [])) t := fun t k => by
      refine P10 t ?_
      show Steps p.tables e below (T7.setTop (mkF m 27 #[.val (.int p1), .val (.int p2), .val (.int p3), .val (.int p4), .val (.int p5), .val (.int nn), .val (.int lm), .val (.ref b7), .unset] [(.int nn)])) t
      refine XS.ifNo X7.here hx rfl (hb hby at_27) rfl ((if0 _ _).trans (tlt hc11).2.2.2) ?_
      show Steps p.tables e below (T7.setTop (mkF m 30 #[.val (.int p1), .val (.int p2), .val (.int p3), .val (.int p4), .val (.int p5), .val (.int nn), .val (.int lm), .val (.ref b7), .unset] [])) t
      refine XS.aload X7.here hx rfl (hb hby at_30) rfl rfl ?_
      show Steps p.tables e below (T7.setTop (mkF m 32 #[.val (.int p1), .val (.int p2), .val (.int p3), .val (.int p4), .val (.int p5), .val (.int nn), .val (.int lm), .val (.ref b7), .unset] [(.ref b7)])) t
      refine XS.iconst X7.here hx rfl (hb hby at_32) ?_
      show Steps p.tables e below (T7.setTop (mkF m 33 #[.val (.int p1), .val (.int p2), .val (.int p3), .val (.int p4), .val (.int p5), .val (.int nn), .val (.int lm), .val (.ref b7), .unset] [(.int (0 : Int32)), (.ref b7)])) t
      refine XS.iloadN X7.here hx rfl (hb hby at_33) rfl ?_
      show Steps p.tables e below (T7.setTop (mkF m 34 #[.val (.int p1), .val (.int p2), .val (.int p3), .val (.int p4), .val (.int p5), .val (.int nn), .val (.int lm), .val (.ref b7), .unset] [(.int p2), (.int (0 : Int32)), (.ref b7)])) t
      refine XS.i2b X7.here hx rfl (hb hby at_34) rfl ?_
      exact k
    obtain ⟨cl13, Ar13, q13, S13_, N13_, H13_, G13_⟩ := id V_b7_p
    have hin13 : ¬ ((0 : Int32) < 0 ∨ cl13.slots.size ≤ ((0 : Int32)).toNatClampNeg) := inb_of S13_ ⟨by decide, hc11⟩
    obtain ⟨T13, h13, X13, e13, W13, st13⟩ := stB X7 hx hZ e7 Ar13 (j := (0 : Int32)) hin13 (g := (mkF m 35 #[.val (.int p1), .val (.int p2), .val (.int p3), .val (.int p4), .val (.int p5), .val (.int nn), .val (.int lm), .val (.ref b7), .unset] [(.int (p2.toInt8.toInt32)), (.int (0 : Int32)), (.ref b7)])) rfl rfl (hb hby at_35)
    have S_13 := S_7.wr W13
    have VB_13 := VB_7.other W13 ne_wB_b7
    have Z_14 : n0 ≤ h13.size := Nat.le_trans Z_8 (Keep.of_wr W13).1
    have N13 := Fr.snoc X13 N3 g_b7
    have V_b7_13 : Arv Z h13 b7 k7 .byte nn [(.int ((p2.toInt8.toInt32).toInt8.toInt32)), (.int (0 : Int32)), (.int (0 : Int32)), (.int (0 : Int32))] (.int (0 : Int32)) := Arv.set Ar13 q13 S13_ N13_ H13_ G13_ (fits_nar_byte _) W13 0 rfl (Nat.le_of_ble_eq_true rfl)
    have P15 : ∀ t, Steps p.tables e below (T13.setTop (mkF m 36 #[.val (.int p1), .val (.int p2), .val (.int p3), .val (.int p4), .val (.int p5), .val (.int nn), .val (.int lm), .val (.ref b7), .unset] [])) t → Steps p.tables e below (s₁.setTop (mkF m 0 #[.val (.int p1), .val (.int p2), .val (.int p3), .val (.int p4), .val (.int p5), .unset, .unset, .unset, .unset] [])) t := fun t k => P12 t (st13 _ k)
    have P16 : ∀ t, Steps p.tables e below (T13.setTop (mkF m 39 #[.val (.int p1), .val (.int p2), .val (.int p3), .val (.int p4), .val (.int p5), .val (.int nn), .val (.int lm), .val (.ref b7), .unset] [(.int (1 : Int32)), (.int nn)])) t → Steps p.tables e below (s₁.setTop (mkF m 0 #[.val (.int p1), .val (.int p2), .val (.int p3), .val (.int p4), .val (.int p5), .unset, .unset, .unset, .unset] [])) t := fun t k => by
      refine P15 t ?_
      show Steps p.tables e below (T13.setTop (mkF m 36 #[.val (.int p1), .val (.int p2), .val (.int p3), .val (.int p4), .val (.int p5), .val (.int nn), .val (.int lm), .val (.ref b7), .unset] [])) t
      refine XS.iload X13.here hx rfl (hb hby at_36) rfl ?_
      show Steps p.tables e below (T13.setTop (mkF m 38 #[.val (.int p1), .val (.int p2), .val (.int p3), .val (.int p4), .val (.int p5), .val (.int nn), .val (.int lm), .val (.ref b7), .unset] [(.int nn)])) t
      refine XS.iconst X13.here hx rfl (hb hby at_38) ?_
      exact k
    by_cases hc17 : (1 : Int32) < nn
    · have P18 : ∀ t, Steps p.tables e below (T13.setTop (mkF m 47 #[.val (.int p1), .val (.int p2), .val (.int p3), .val (.int p4), .val (.int p5), .val (.int nn), .val (.int lm), .val (.ref b7), .unset] [(.int (p3.toInt8.toInt32)), (.int (1 : Int32)), (.ref b7)])) t → Steps p.tables e below (s₁.setTop (mkF m 0 #[.val (.int p1), .val (.int p2), .val (.int p3), .val (.int p4), .val (.int p5), .unset, .unset, .unset, .unset] [])) t := fun t k => by
        refine P16 t ?_
        show Steps p.tables e below (T13.setTop (mkF m 39 #[.val (.int p1), .val (.int p2), .val (.int p3), .val (.int p4), .val (.int p5), .val (.int nn), .val (.int lm), .val (.ref b7), .unset] [(.int (1 : Int32)), (.int nn)])) t
        refine XS.icmpNo X13.here hx rfl (hb hby at_39) rfl (tlt hc17).2.2.2 ?_
        show Steps p.tables e below (T13.setTop (mkF m 42 #[.val (.int p1), .val (.int p2), .val (.int p3), .val (.int p4), .val (.int p5), .val (.int nn), .val (.int lm), .val (.ref b7), .unset] [])) t
        refine XS.aload X13.here hx rfl (hb hby at_42) rfl rfl ?_
        show Steps p.tables e below (T13.setTop (mkF m 44 #[.val (.int p1), .val (.int p2), .val (.int p3), .val (.int p4), .val (.int p5), .val (.int nn), .val (.int lm), .val (.ref b7), .unset] [(.ref b7)])) t
        refine XS.iconst X13.here hx rfl (hb hby at_44) ?_
        show Steps p.tables e below (T13.setTop (mkF m 45 #[.val (.int p1), .val (.int p2), .val (.int p3), .val (.int p4), .val (.int p5), .val (.int nn), .val (.int lm), .val (.ref b7), .unset] [(.int (1 : Int32)), (.ref b7)])) t
        refine XS.iloadN X13.here hx rfl (hb hby at_45) rfl ?_
        show Steps p.tables e below (T13.setTop (mkF m 46 #[.val (.int p1), .val (.int p2), .val (.int p3), .val (.int p4), .val (.int p5), .val (.int nn), .val (.int lm), .val (.ref b7), .unset] [(.int p3), (.int (1 : Int32)), (.ref b7)])) t
        refine XS.i2b X13.here hx rfl (hb hby at_46) rfl ?_
        exact k
      obtain ⟨cl19, Ar19, q19, S19_, N19_, H19_, G19_⟩ := id V_b7_13
      have hin19 : ¬ ((1 : Int32) < 0 ∨ cl19.slots.size ≤ ((1 : Int32)).toNatClampNeg) := inb_of S19_ ⟨by decide, hc17⟩
      obtain ⟨T19, h19, X19, e19, W19, st19⟩ := stB X13 hx hZ e13 Ar19 (j := (1 : Int32)) hin19 (g := (mkF m 47 #[.val (.int p1), .val (.int p2), .val (.int p3), .val (.int p4), .val (.int p5), .val (.int nn), .val (.int lm), .val (.ref b7), .unset] [(.int (p3.toInt8.toInt32)), (.int (1 : Int32)), (.ref b7)])) rfl rfl (hb hby at_47)
      have S_19 := S_13.wr W19
      have VB_19 := VB_13.other W19 ne_wB_b7
      have Z_20 : n0 ≤ h19.size := Nat.le_trans Z_14 (Keep.of_wr W19).1
      have N19 := Fr.snoc X19 N13 g_b7
      have V_b7_19 : Arv Z h19 b7 k7 .byte nn [(.int ((p2.toInt8.toInt32).toInt8.toInt32)), (.int ((p3.toInt8.toInt32).toInt8.toInt32)), (.int (0 : Int32)), (.int (0 : Int32))] (.int (0 : Int32)) := Arv.set Ar19 q19 S19_ N19_ H19_ G19_ (fits_nar_byte _) W19 1 rfl (Nat.le_of_ble_eq_true rfl)
      have P21 : ∀ t, Steps p.tables e below (T19.setTop (mkF m 48 #[.val (.int p1), .val (.int p2), .val (.int p3), .val (.int p4), .val (.int p5), .val (.int nn), .val (.int lm), .val (.ref b7), .unset] [])) t → Steps p.tables e below (s₁.setTop (mkF m 0 #[.val (.int p1), .val (.int p2), .val (.int p3), .val (.int p4), .val (.int p5), .unset, .unset, .unset, .unset] [])) t := fun t k => P18 t (st19 _ k)
      have P22 : ∀ t, Steps p.tables e below (T19.setTop (mkF m 51 #[.val (.int p1), .val (.int p2), .val (.int p3), .val (.int p4), .val (.int p5), .val (.int nn), .val (.int lm), .val (.ref b7), .unset] [(.int (2 : Int32)), (.int nn)])) t → Steps p.tables e below (s₁.setTop (mkF m 0 #[.val (.int p1), .val (.int p2), .val (.int p3), .val (.int p4), .val (.int p5), .unset, .unset, .unset, .unset] [])) t := fun t k => by
        refine P21 t ?_
        show Steps p.tables e below (T19.setTop (mkF m 48 #[.val (.int p1), .val (.int p2), .val (.int p3), .val (.int p4), .val (.int p5), .val (.int nn), .val (.int lm), .val (.ref b7), .unset] [])) t
        refine XS.iload X19.here hx rfl (hb hby at_48) rfl ?_
        show Steps p.tables e below (T19.setTop (mkF m 50 #[.val (.int p1), .val (.int p2), .val (.int p3), .val (.int p4), .val (.int p5), .val (.int nn), .val (.int lm), .val (.ref b7), .unset] [(.int nn)])) t
        refine XS.iconst X19.here hx rfl (hb hby at_50) ?_
        exact k
      by_cases hc23 : (2 : Int32) < nn
      · have P24 : ∀ t, Steps p.tables e below (T19.setTop (mkF m 59 #[.val (.int p1), .val (.int p2), .val (.int p3), .val (.int p4), .val (.int p5), .val (.int nn), .val (.int lm), .val (.ref b7), .unset] [(.int (p4.toInt8.toInt32)), (.int (2 : Int32)), (.ref b7)])) t → Steps p.tables e below (s₁.setTop (mkF m 0 #[.val (.int p1), .val (.int p2), .val (.int p3), .val (.int p4), .val (.int p5), .unset, .unset, .unset, .unset] [])) t := fun t k => by
          refine P22 t ?_
          show Steps p.tables e below (T19.setTop (mkF m 51 #[.val (.int p1), .val (.int p2), .val (.int p3), .val (.int p4), .val (.int p5), .val (.int nn), .val (.int lm), .val (.ref b7), .unset] [(.int (2 : Int32)), (.int nn)])) t
          refine XS.icmpNo X19.here hx rfl (hb hby at_51) rfl (tlt hc23).2.2.2 ?_
          show Steps p.tables e below (T19.setTop (mkF m 54 #[.val (.int p1), .val (.int p2), .val (.int p3), .val (.int p4), .val (.int p5), .val (.int nn), .val (.int lm), .val (.ref b7), .unset] [])) t
          refine XS.aload X19.here hx rfl (hb hby at_54) rfl rfl ?_
          show Steps p.tables e below (T19.setTop (mkF m 56 #[.val (.int p1), .val (.int p2), .val (.int p3), .val (.int p4), .val (.int p5), .val (.int nn), .val (.int lm), .val (.ref b7), .unset] [(.ref b7)])) t
          refine XS.iconst X19.here hx rfl (hb hby at_56) ?_
          show Steps p.tables e below (T19.setTop (mkF m 57 #[.val (.int p1), .val (.int p2), .val (.int p3), .val (.int p4), .val (.int p5), .val (.int nn), .val (.int lm), .val (.ref b7), .unset] [(.int (2 : Int32)), (.ref b7)])) t
          refine XS.iloadN X19.here hx rfl (hb hby at_57) rfl ?_
          show Steps p.tables e below (T19.setTop (mkF m 58 #[.val (.int p1), .val (.int p2), .val (.int p3), .val (.int p4), .val (.int p5), .val (.int nn), .val (.int lm), .val (.ref b7), .unset] [(.int p4), (.int (2 : Int32)), (.ref b7)])) t
          refine XS.i2b X19.here hx rfl (hb hby at_58) rfl ?_
          exact k
        obtain ⟨cl25, Ar25, q25, S25_, N25_, H25_, G25_⟩ := id V_b7_19
        have hin25 : ¬ ((2 : Int32) < 0 ∨ cl25.slots.size ≤ ((2 : Int32)).toNatClampNeg) := inb_of S25_ ⟨by decide, hc23⟩
        obtain ⟨T25, h25, X25, e25, W25, st25⟩ := stB X19 hx hZ e19 Ar25 (j := (2 : Int32)) hin25 (g := (mkF m 59 #[.val (.int p1), .val (.int p2), .val (.int p3), .val (.int p4), .val (.int p5), .val (.int nn), .val (.int lm), .val (.ref b7), .unset] [(.int (p4.toInt8.toInt32)), (.int (2 : Int32)), (.ref b7)])) rfl rfl (hb hby at_59)
        have S_25 := S_19.wr W25
        have VB_25 := VB_19.other W25 ne_wB_b7
        have Z_26 : n0 ≤ h25.size := Nat.le_trans Z_20 (Keep.of_wr W25).1
        have N25 := Fr.snoc X25 N19 g_b7
        have V_b7_25 : Arv Z h25 b7 k7 .byte nn [(.int ((p2.toInt8.toInt32).toInt8.toInt32)), (.int ((p3.toInt8.toInt32).toInt8.toInt32)), (.int ((p4.toInt8.toInt32).toInt8.toInt32)), (.int (0 : Int32))] (.int (0 : Int32)) := Arv.set Ar25 q25 S25_ N25_ H25_ G25_ (fits_nar_byte _) W25 2 rfl (Nat.le_of_ble_eq_true rfl)
        have P27 : ∀ t, Steps p.tables e below (T25.setTop (mkF m 60 #[.val (.int p1), .val (.int p2), .val (.int p3), .val (.int p4), .val (.int p5), .val (.int nn), .val (.int lm), .val (.ref b7), .unset] [])) t → Steps p.tables e below (s₁.setTop (mkF m 0 #[.val (.int p1), .val (.int p2), .val (.int p3), .val (.int p4), .val (.int p5), .unset, .unset, .unset, .unset] [])) t := fun t k => P24 t (st25 _ k)
        have P28 : ∀ t, Steps p.tables e below (T25.setTop (mkF m 63 #[.val (.int p1), .val (.int p2), .val (.int p3), .val (.int p4), .val (.int p5), .val (.int nn), .val (.int lm), .val (.ref b7), .unset] [(.int (3 : Int32)), (.int nn)])) t → Steps p.tables e below (s₁.setTop (mkF m 0 #[.val (.int p1), .val (.int p2), .val (.int p3), .val (.int p4), .val (.int p5), .unset, .unset, .unset, .unset] [])) t := fun t k => by
          refine P27 t ?_
          show Steps p.tables e below (T25.setTop (mkF m 60 #[.val (.int p1), .val (.int p2), .val (.int p3), .val (.int p4), .val (.int p5), .val (.int nn), .val (.int lm), .val (.ref b7), .unset] [])) t
          refine XS.iload X25.here hx rfl (hb hby at_60) rfl ?_
          show Steps p.tables e below (T25.setTop (mkF m 62 #[.val (.int p1), .val (.int p2), .val (.int p3), .val (.int p4), .val (.int p5), .val (.int nn), .val (.int lm), .val (.ref b7), .unset] [(.int nn)])) t
          refine XS.iconst X25.here hx rfl (hb hby at_62) ?_
          exact k
        by_cases hc29 : (3 : Int32) < nn
        · have P30 : ∀ t, Steps p.tables e below (T25.setTop (mkF m 72 #[.val (.int p1), .val (.int p2), .val (.int p3), .val (.int p4), .val (.int p5), .val (.int nn), .val (.int lm), .val (.ref b7), .unset] [(.int (p5.toInt8.toInt32)), (.int (3 : Int32)), (.ref b7)])) t → Steps p.tables e below (s₁.setTop (mkF m 0 #[.val (.int p1), .val (.int p2), .val (.int p3), .val (.int p4), .val (.int p5), .unset, .unset, .unset, .unset] [])) t := fun t k => by
            refine P28 t ?_
            show Steps p.tables e below (T25.setTop (mkF m 63 #[.val (.int p1), .val (.int p2), .val (.int p3), .val (.int p4), .val (.int p5), .val (.int nn), .val (.int lm), .val (.ref b7), .unset] [(.int (3 : Int32)), (.int nn)])) t
            refine XS.icmpNo X25.here hx rfl (hb hby at_63) rfl (tlt hc29).2.2.2 ?_
            show Steps p.tables e below (T25.setTop (mkF m 66 #[.val (.int p1), .val (.int p2), .val (.int p3), .val (.int p4), .val (.int p5), .val (.int nn), .val (.int lm), .val (.ref b7), .unset] [])) t
            refine XS.aload X25.here hx rfl (hb hby at_66) rfl rfl ?_
            show Steps p.tables e below (T25.setTop (mkF m 68 #[.val (.int p1), .val (.int p2), .val (.int p3), .val (.int p4), .val (.int p5), .val (.int nn), .val (.int lm), .val (.ref b7), .unset] [(.ref b7)])) t
            refine XS.iconst X25.here hx rfl (hb hby at_68) ?_
            show Steps p.tables e below (T25.setTop (mkF m 69 #[.val (.int p1), .val (.int p2), .val (.int p3), .val (.int p4), .val (.int p5), .val (.int nn), .val (.int lm), .val (.ref b7), .unset] [(.int (3 : Int32)), (.ref b7)])) t
            refine XS.iload X25.here hx rfl (hb hby at_69) rfl ?_
            show Steps p.tables e below (T25.setTop (mkF m 71 #[.val (.int p1), .val (.int p2), .val (.int p3), .val (.int p4), .val (.int p5), .val (.int nn), .val (.int lm), .val (.ref b7), .unset] [(.int p5), (.int (3 : Int32)), (.ref b7)])) t
            refine XS.i2b X25.here hx rfl (hb hby at_71) rfl ?_
            exact k
          obtain ⟨cl31, Ar31, q31, S31_, N31_, H31_, G31_⟩ := id V_b7_25
          have hin31 : ¬ ((3 : Int32) < 0 ∨ cl31.slots.size ≤ ((3 : Int32)).toNatClampNeg) := inb_of S31_ ⟨by decide, hc29⟩
          obtain ⟨T31, h31, X31, e31, W31, st31⟩ := stB X25 hx hZ e25 Ar31 (j := (3 : Int32)) hin31 (g := (mkF m 72 #[.val (.int p1), .val (.int p2), .val (.int p3), .val (.int p4), .val (.int p5), .val (.int nn), .val (.int lm), .val (.ref b7), .unset] [(.int (p5.toInt8.toInt32)), (.int (3 : Int32)), (.ref b7)])) rfl rfl (hb hby at_72)
          have S_31 := S_25.wr W31
          have VB_31 := VB_25.other W31 ne_wB_b7
          have Z_32 : n0 ≤ h31.size := Nat.le_trans Z_26 (Keep.of_wr W31).1
          have N31 := Fr.snoc X31 N25 g_b7
          have V_b7_31 : Arv Z h31 b7 k7 .byte nn [(.int ((p2.toInt8.toInt32).toInt8.toInt32)), (.int ((p3.toInt8.toInt32).toInt8.toInt32)), (.int ((p4.toInt8.toInt32).toInt8.toInt32)), (.int ((p5.toInt8.toInt32).toInt8.toInt32))] (.int (0 : Int32)) := Arv.set Ar31 q31 S31_ N31_ H31_ G31_ (fits_nar_byte _) W31 3 rfl (Nat.le_of_ble_eq_true rfl)
          have P33 : ∀ t, Steps p.tables e below (T31.setTop (mkF m 73 #[.val (.int p1), .val (.int p2), .val (.int p3), .val (.int p4), .val (.int p5), .val (.int nn), .val (.int lm), .val (.ref b7), .unset] [])) t → Steps p.tables e below (s₁.setTop (mkF m 0 #[.val (.int p1), .val (.int p2), .val (.int p3), .val (.int p4), .val (.int p5), .unset, .unset, .unset, .unset] [])) t := fun t k => P30 t (st31 _ k)
          have P34 : ∀ t, Steps p.tables e below (T31.setTop (mkF m 76 #[.val (.int p1), .val (.int p2), .val (.int p3), .val (.int p4), .val (.int p5), .val (.int nn), .val (.int lm), .val (.ref b7), .unset] [(.int (3 : Int32)), (.int lm)])) t → Steps p.tables e below (s₁.setTop (mkF m 0 #[.val (.int p1), .val (.int p2), .val (.int p3), .val (.int p4), .val (.int p5), .unset, .unset, .unset, .unset] [])) t := fun t k => by
            refine P33 t ?_
            show Steps p.tables e below (T31.setTop (mkF m 73 #[.val (.int p1), .val (.int p2), .val (.int p3), .val (.int p4), .val (.int p5), .val (.int nn), .val (.int lm), .val (.ref b7), .unset] [])) t
            refine XS.iload X31.here hx rfl (hb hby at_73) rfl ?_
            show Steps p.tables e below (T31.setTop (mkF m 75 #[.val (.int p1), .val (.int p2), .val (.int p3), .val (.int p4), .val (.int p5), .val (.int nn), .val (.int lm), .val (.ref b7), .unset] [(.int lm)])) t
            refine XS.iconst X31.here hx rfl (hb hby at_75) ?_
            exact k
          by_cases hc35 : lm < (3 : Int32)
          · have P36 : ∀ t, Steps p.tables e below (T31.setTop (mkF m 123 #[.val (.int p1), .val (.int p2), .val (.int p3), .val (.int p4), .val (.int p5), .val (.int nn), .val (.int lm), .val (.ref b7), .val (.int (0 : Int32))] [(.int lm), (.ref b7)])) t → Steps p.tables e below (s₁.setTop (mkF m 0 #[.val (.int p1), .val (.int p2), .val (.int p3), .val (.int p4), .val (.int p5), .unset, .unset, .unset, .unset] [])) t := fun t k => by
              refine P34 t ?_
              show Steps p.tables e below (T31.setTop (mkF m 76 #[.val (.int p1), .val (.int p2), .val (.int p3), .val (.int p4), .val (.int p5), .val (.int nn), .val (.int lm), .val (.ref b7), .unset] [(.int (3 : Int32)), (.int lm)])) t
              refine XS.icmpYes X31.here hx rfl (pc0 := 76) (pc' := 116) rfl (hb hby at_76) rfl (tlt hc35).1 (by decide) (by decide) ?_
              show Steps p.tables e below (T31.setTop (mkF m 116 #[.val (.int p1), .val (.int p2), .val (.int p3), .val (.int p4), .val (.int p5), .val (.int nn), .val (.int lm), .val (.ref b7), .unset] [])) t
              refine XS.iconst X31.here hx rfl (hb hby at_116) ?_
              show Steps p.tables e below (T31.setTop (mkF m 117 #[.val (.int p1), .val (.int p2), .val (.int p3), .val (.int p4), .val (.int p5), .val (.int nn), .val (.int lm), .val (.ref b7), .unset] [(.int (0 : Int32))])) t
              refine XS.istore X31.here hx rfl (hb hby at_117) rfl (l' := #[.val (.int p1), .val (.int p2), .val (.int p3), .val (.int p4), .val (.int p5), .val (.int nn), .val (.int lm), .val (.ref b7), .val (.int (0 : Int32))]) rfl ?_
              show Steps p.tables e below (T31.setTop (mkF m 119 #[.val (.int p1), .val (.int p2), .val (.int p3), .val (.int p4), .val (.int p5), .val (.int nn), .val (.int lm), .val (.ref b7), .val (.int (0 : Int32))] [])) t
              refine XS.aload X31.here hx rfl (hb hby at_119) rfl rfl ?_
              show Steps p.tables e below (T31.setTop (mkF m 121 #[.val (.int p1), .val (.int p2), .val (.int p3), .val (.int p4), .val (.int p5), .val (.int nn), .val (.int lm), .val (.ref b7), .val (.int (0 : Int32))] [(.ref b7)])) t
              refine XS.iload X31.here hx rfl (hb hby at_121) rfl ?_
              exact k
            obtain ⟨_, _, ⟨T37, L37, k37, n37⟩, -, X37, ⟨Lc37, hQ37, l37, y37, z37⟩, st37⟩ := Jvm.LawKit.callS X31 hx (y := (⟨"com/example/vestline/vestline/text/TextFile", "startsWithByteOrderMark", "([BI)Z"⟩ : MethodName)) hown (mvT hZ (hw _ (List.mem_of_getElem? (i := 5) rfl))) (mvT hZ (hw _ (List.mem_of_getElem? (i := 6) rfl))) (mvT hZ (hw _ (List.mem_of_getElem? (i := 7) rfl))) (mvT hZ (hw _ (List.mem_of_getElem? (i := 8) rfl))) (by decide) (backOf (W := 0) (rm2_z l Z a0 hw [] b7 lm h31 n0 Z_32 hc35) hZ (hw _ (List.mem_of_getElem? (i := 8) rfl)) (hw _ (List.mem_of_getElem? (i := 7) rfl)) (by decide) (by decide)) (g := (mkF m 123 #[.val (.int p1), .val (.int p2), .val (.int p3), .val (.int p4), .val (.int p5), .val (.int nn), .val (.int lm), .val (.ref b7), .val (.int (0 : Int32))] [(.int lm), (.ref b7)])) rfl (by rw [hml]; rfl) (argsL := [(.ref b7), (.int lm)]) (rest := []) (lenOf pd___BI_Z rfl) rfl (by show 2 * 0 + _ ≤ _; exact Nat.le_of_eq rfl) (hb hby at_123) (fun _ _ => ⟨rfl, e31, (by decide : 1 + 0 ≤ _), (by decide : 7 + 0 ≤ _)⟩)
            dsimp only [Pt.U, Pt.locs, Pt.cells, Pt.slots] at X37 l37 y37 z37 st37 hQ37
            subst l37 y37 z37
            obtain ⟨rfl, N37q, e37⟩ := hQ37
            have N37 := Fr.app N31 N37q
            have P38 : ∀ t, Steps p.tables e below (T37.setTop (mkF m 126 #[.val (.int p1), .val (.int p2), .val (.int p3), .val (.int p4), .val (.int p5), .val (.int nn), .val (.int lm), .val (.ref b7), .val (.int (0 : Int32))] [(.int (0 : Int32))])) t → Steps p.tables e below (s₁.setTop (mkF m 0 #[.val (.int p1), .val (.int p2), .val (.int p3), .val (.int p4), .val (.int p5), .unset, .unset, .unset, .unset] [])) t := fun t k => P36 t (st37 _ k)
            have P39 : ∀ t, Steps p.tables e below (T37.setTop (mkF m 136 #[.val (.int p1), .val (.int p2), .val (.int p3), .val (.int p4), .val (.int p5), .val (.int nn), .val (.int lm), .val (.ref b7), .val (.int (0 : Int32))] [(.int (1 : Int32))])) t → Steps p.tables e below (s₁.setTop (mkF m 0 #[.val (.int p1), .val (.int p2), .val (.int p3), .val (.int p4), .val (.int p5), .unset, .unset, .unset, .unset] [])) t := fun t k => by
              refine P38 t ?_
              show Steps p.tables e below (T37.setTop (mkF m 126 #[.val (.int p1), .val (.int p2), .val (.int p3), .val (.int p4), .val (.int p5), .val (.int nn), .val (.int lm), .val (.ref b7), .val (.int (0 : Int32))] [(.int (0 : Int32))])) t
              refine XS.iload X37.here hx rfl (hb hby at_126) rfl ?_
              show Steps p.tables e below (T37.setTop (mkF m 128 #[.val (.int p1), .val (.int p2), .val (.int p3), .val (.int p4), .val (.int p5), .val (.int nn), .val (.int lm), .val (.ref b7), .val (.int (0 : Int32))] [(.int (0 : Int32)), (.int (0 : Int32))])) t
              refine XS.icmpNo X37.here hx rfl (hb hby at_128) rfl (teq rfl).2 ?_
              show Steps p.tables e below (T37.setTop (mkF m 131 #[.val (.int p1), .val (.int p2), .val (.int p3), .val (.int p4), .val (.int p5), .val (.int nn), .val (.int lm), .val (.ref b7), .val (.int (0 : Int32))] [])) t
              refine XS.iconst X37.here hx rfl (hb hby at_131) ?_
              show Steps p.tables e below (T37.setTop (mkF m 132 #[.val (.int p1), .val (.int p2), .val (.int p3), .val (.int p4), .val (.int p5), .val (.int nn), .val (.int lm), .val (.ref b7), .val (.int (0 : Int32))] [(.int (1 : Int32))])) t
              refine XS.goto X37.here hx rfl (pc0 := 132) (pc' := 136) rfl (hb hby at_132) (by decide) (by decide) ?_
              exact k
            obtain ⟨fs, hr, hrun, hended, hW, hsame⟩ := X37.leave (v := some (.int (1 : Int32))) (fun h => by rw [Bd.returns] at h; cases h)
            refine ⟨_, _, pre0 _ (P39 _ ?_), hrun, hended, _, _, rfl, ?_, ⟨_, rfl⟩, hW, hsame.mono (by decide) (by decide)⟩
            · exact retN X37 hx (t := .boolean) Bd.returns (by simp) (hb hby at_136) hr
            · show Q0 Z p1 p2 p3 p4 p5 wB kB h0 n0 _ T37.heap _
              rw [e37]
              exact ⟨rfl, N37⟩
          · have P40 : ∀ t, Steps p.tables e below (T31.setTop (mkF m 87 #[.val (.int p1), .val (.int p2), .val (.int p3), .val (.int p4), .val (.int p5), .val (.int nn), .val (.int lm), .val (.ref b7), .unset] [(.int (239 : Int32)), (.int (p2 &&& (255 : Int32)))])) t → Steps p.tables e below (s₁.setTop (mkF m 0 #[.val (.int p1), .val (.int p2), .val (.int p3), .val (.int p4), .val (.int p5), .unset, .unset, .unset, .unset] [])) t := fun t k => by
              refine P34 t ?_
              show Steps p.tables e below (T31.setTop (mkF m 76 #[.val (.int p1), .val (.int p2), .val (.int p3), .val (.int p4), .val (.int p5), .val (.int nn), .val (.int lm), .val (.ref b7), .unset] [(.int (3 : Int32)), (.int lm)])) t
              refine XS.icmpNo X31.here hx rfl (hb hby at_76) rfl (flt hc35).1 ?_
              show Steps p.tables e below (T31.setTop (mkF m 79 #[.val (.int p1), .val (.int p2), .val (.int p3), .val (.int p4), .val (.int p5), .val (.int nn), .val (.int lm), .val (.ref b7), .unset] [])) t
              refine XS.iloadN X31.here hx rfl (hb hby at_79) rfl ?_
              show Steps p.tables e below (T31.setTop (mkF m 80 #[.val (.int p1), .val (.int p2), .val (.int p3), .val (.int p4), .val (.int p5), .val (.int nn), .val (.int lm), .val (.ref b7), .unset] [(.int p2)])) t
              refine XS.sipush X31.here hx rfl (hb hby at_80) ?_
              show Steps p.tables e below (T31.setTop (mkF m 83 #[.val (.int p1), .val (.int p2), .val (.int p3), .val (.int p4), .val (.int p5), .val (.int nn), .val (.int lm), .val (.ref b7), .unset] [(.int (255 : Int32)), (.int p2)])) t
              refine XS.iand X31.here hx rfl (hb hby at_83) rfl ?_
              show Steps p.tables e below (T31.setTop (mkF m 84 #[.val (.int p1), .val (.int p2), .val (.int p3), .val (.int p4), .val (.int p5), .val (.int nn), .val (.int lm), .val (.ref b7), .unset] [(.int (p2 &&& (255 : Int32)))])) t
              refine XS.sipush X31.here hx rfl (hb hby at_84) ?_
              exact k
            by_cases hc41 : (p2 &&& (255 : Int32)) = (239 : Int32)
            · have P42 : ∀ t, Steps p.tables e below (T31.setTop (mkF m 98 #[.val (.int p1), .val (.int p2), .val (.int p3), .val (.int p4), .val (.int p5), .val (.int nn), .val (.int lm), .val (.ref b7), .unset] [(.int (187 : Int32)), (.int (p3 &&& (255 : Int32)))])) t → Steps p.tables e below (s₁.setTop (mkF m 0 #[.val (.int p1), .val (.int p2), .val (.int p3), .val (.int p4), .val (.int p5), .unset, .unset, .unset, .unset] [])) t := fun t k => by
                refine P40 t ?_
                show Steps p.tables e below (T31.setTop (mkF m 87 #[.val (.int p1), .val (.int p2), .val (.int p3), .val (.int p4), .val (.int p5), .val (.int nn), .val (.int lm), .val (.ref b7), .unset] [(.int (239 : Int32)), (.int (p2 &&& (255 : Int32)))])) t
                refine XS.icmpNo X31.here hx rfl (hb hby at_87) rfl (teq hc41).2 ?_
                show Steps p.tables e below (T31.setTop (mkF m 90 #[.val (.int p1), .val (.int p2), .val (.int p3), .val (.int p4), .val (.int p5), .val (.int nn), .val (.int lm), .val (.ref b7), .unset] [])) t
                refine XS.iloadN X31.here hx rfl (hb hby at_90) rfl ?_
                show Steps p.tables e below (T31.setTop (mkF m 91 #[.val (.int p1), .val (.int p2), .val (.int p3), .val (.int p4), .val (.int p5), .val (.int nn), .val (.int lm), .val (.ref b7), .unset] [(.int p3)])) t
                refine XS.sipush X31.here hx rfl (hb hby at_91) ?_
                show Steps p.tables e below (T31.setTop (mkF m 94 #[.val (.int p1), .val (.int p2), .val (.int p3), .val (.int p4), .val (.int p5), .val (.int nn), .val (.int lm), .val (.ref b7), .unset] [(.int (255 : Int32)), (.int p3)])) t
                refine XS.iand X31.here hx rfl (hb hby at_94) rfl ?_
                show Steps p.tables e below (T31.setTop (mkF m 95 #[.val (.int p1), .val (.int p2), .val (.int p3), .val (.int p4), .val (.int p5), .val (.int nn), .val (.int lm), .val (.ref b7), .unset] [(.int (p3 &&& (255 : Int32)))])) t
                refine XS.sipush X31.here hx rfl (hb hby at_95) ?_
                exact k
              by_cases hc43 : (p3 &&& (255 : Int32)) = (187 : Int32)
              · have P44 : ∀ t, Steps p.tables e below (T31.setTop (mkF m 109 #[.val (.int p1), .val (.int p2), .val (.int p3), .val (.int p4), .val (.int p5), .val (.int nn), .val (.int lm), .val (.ref b7), .unset] [(.int (191 : Int32)), (.int (p4 &&& (255 : Int32)))])) t → Steps p.tables e below (s₁.setTop (mkF m 0 #[.val (.int p1), .val (.int p2), .val (.int p3), .val (.int p4), .val (.int p5), .unset, .unset, .unset, .unset] [])) t := fun t k => by
                  refine P42 t ?_
                  show Steps p.tables e below (T31.setTop (mkF m 98 #[.val (.int p1), .val (.int p2), .val (.int p3), .val (.int p4), .val (.int p5), .val (.int nn), .val (.int lm), .val (.ref b7), .unset] [(.int (187 : Int32)), (.int (p3 &&& (255 : Int32)))])) t
                  refine XS.icmpNo X31.here hx rfl (hb hby at_98) rfl (teq hc43).2 ?_
                  show Steps p.tables e below (T31.setTop (mkF m 101 #[.val (.int p1), .val (.int p2), .val (.int p3), .val (.int p4), .val (.int p5), .val (.int nn), .val (.int lm), .val (.ref b7), .unset] [])) t
                  refine XS.iloadN X31.here hx rfl (hb hby at_101) rfl ?_
                  show Steps p.tables e below (T31.setTop (mkF m 102 #[.val (.int p1), .val (.int p2), .val (.int p3), .val (.int p4), .val (.int p5), .val (.int nn), .val (.int lm), .val (.ref b7), .unset] [(.int p4)])) t
                  refine XS.sipush X31.here hx rfl (hb hby at_102) ?_
                  show Steps p.tables e below (T31.setTop (mkF m 105 #[.val (.int p1), .val (.int p2), .val (.int p3), .val (.int p4), .val (.int p5), .val (.int nn), .val (.int lm), .val (.ref b7), .unset] [(.int (255 : Int32)), (.int p4)])) t
                  refine XS.iand X31.here hx rfl (hb hby at_105) rfl ?_
                  show Steps p.tables e below (T31.setTop (mkF m 106 #[.val (.int p1), .val (.int p2), .val (.int p3), .val (.int p4), .val (.int p5), .val (.int nn), .val (.int lm), .val (.ref b7), .unset] [(.int (p4 &&& (255 : Int32)))])) t
                  refine XS.sipush X31.here hx rfl (hb hby at_106) ?_
                  exact k
                by_cases hc45 : (p4 &&& (255 : Int32)) = (191 : Int32)
                · have P46 : ∀ t, Steps p.tables e below (T31.setTop (mkF m 123 #[.val (.int p1), .val (.int p2), .val (.int p3), .val (.int p4), .val (.int p5), .val (.int nn), .val (.int lm), .val (.ref b7), .val (.int (1 : Int32))] [(.int lm), (.ref b7)])) t → Steps p.tables e below (s₁.setTop (mkF m 0 #[.val (.int p1), .val (.int p2), .val (.int p3), .val (.int p4), .val (.int p5), .unset, .unset, .unset, .unset] [])) t := fun t k => by
                    refine P44 t ?_
                    show Steps p.tables e below (T31.setTop (mkF m 109 #[.val (.int p1), .val (.int p2), .val (.int p3), .val (.int p4), .val (.int p5), .val (.int nn), .val (.int lm), .val (.ref b7), .unset] [(.int (191 : Int32)), (.int (p4 &&& (255 : Int32)))])) t
                    refine XS.icmpNo X31.here hx rfl (hb hby at_109) rfl (teq hc45).2 ?_
                    show Steps p.tables e below (T31.setTop (mkF m 112 #[.val (.int p1), .val (.int p2), .val (.int p3), .val (.int p4), .val (.int p5), .val (.int nn), .val (.int lm), .val (.ref b7), .unset] [])) t
                    refine XS.iconst X31.here hx rfl (hb hby at_112) ?_
                    show Steps p.tables e below (T31.setTop (mkF m 113 #[.val (.int p1), .val (.int p2), .val (.int p3), .val (.int p4), .val (.int p5), .val (.int nn), .val (.int lm), .val (.ref b7), .unset] [(.int (1 : Int32))])) t
                    refine XS.goto X31.here hx rfl (pc0 := 113) (pc' := 117) rfl (hb hby at_113) (by decide) (by decide) ?_
                    show Steps p.tables e below (T31.setTop (mkF m 117 #[.val (.int p1), .val (.int p2), .val (.int p3), .val (.int p4), .val (.int p5), .val (.int nn), .val (.int lm), .val (.ref b7), .unset] [(.int (1 : Int32))])) t
                    refine XS.istore X31.here hx rfl (hb hby at_117) rfl (l' := #[.val (.int p1), .val (.int p2), .val (.int p3), .val (.int p4), .val (.int p5), .val (.int nn), .val (.int lm), .val (.ref b7), .val (.int (1 : Int32))]) rfl ?_
                    show Steps p.tables e below (T31.setTop (mkF m 119 #[.val (.int p1), .val (.int p2), .val (.int p3), .val (.int p4), .val (.int p5), .val (.int nn), .val (.int lm), .val (.ref b7), .val (.int (1 : Int32))] [])) t
                    refine XS.aload X31.here hx rfl (hb hby at_119) rfl rfl ?_
                    show Steps p.tables e below (T31.setTop (mkF m 121 #[.val (.int p1), .val (.int p2), .val (.int p3), .val (.int p4), .val (.int p5), .val (.int nn), .val (.int lm), .val (.ref b7), .val (.int (1 : Int32))] [(.ref b7)])) t
                    refine XS.iload X31.here hx rfl (hb hby at_121) rfl ?_
                    exact k
                  obtain ⟨_, _, ⟨T47, L47, k47, n47⟩, -, X47, ⟨Lc47, hQ47, l47, y47, z47⟩, st47⟩ := Jvm.LawKit.callS X31 hx (y := (⟨"com/example/vestline/vestline/text/TextFile", "startsWithByteOrderMark", "([BI)Z"⟩ : MethodName)) hown (mvT hZ (hw _ (List.mem_of_getElem? (i := 5) rfl))) (mvT hZ (hw _ (List.mem_of_getElem? (i := 6) rfl))) (mvT hZ (hw _ (List.mem_of_getElem? (i := 7) rfl))) (mvT hZ (hw _ (List.mem_of_getElem? (i := 8) rfl))) (by decide) (backOf (W := 0) (rm2_3 l Z a0 hw [] b7 lm wB k7 kB nn ((p2.toInt8.toInt32).toInt8.toInt32) ((p3.toInt8.toInt32).toInt8.toInt32) ((p4.toInt8.toInt32).toInt8.toInt32) ((p5.toInt8.toInt32).toInt8.toInt32) h31 n0 Z_32 S_31 V_b7_31 VB_31 hc35 hc23 ((own_b0 p2).mp hc41) ((own_b1 p3).mp hc43) ((own_b2 p4).mp hc45)) hZ (hw _ (List.mem_of_getElem? (i := 8) rfl)) (hw _ (List.mem_of_getElem? (i := 7) rfl)) (by decide) (by decide)) (g := (mkF m 123 #[.val (.int p1), .val (.int p2), .val (.int p3), .val (.int p4), .val (.int p5), .val (.int nn), .val (.int lm), .val (.ref b7), .val (.int (1 : Int32))] [(.int lm), (.ref b7)])) rfl (by rw [hml]; rfl) (argsL := [(.ref b7), (.int lm)]) (rest := []) (lenOf pd___BI_Z rfl) rfl (by show 2 * 0 + _ ≤ _; exact Nat.le_of_eq rfl) (hb hby at_123) (fun _ _ => ⟨rfl, e31, (by decide : 1 + 0 ≤ _), (by decide : 7 + 0 ≤ _)⟩)
                  dsimp only [Pt.U, Pt.locs, Pt.cells, Pt.slots] at X47 l47 y47 z47 st47 hQ47
                  subst l47 y47 z47
                  obtain ⟨rfl, N47q, e47⟩ := hQ47
                  have N47 := Fr.app N31 N47q
                  have P48 : ∀ t, Steps p.tables e below (T47.setTop (mkF m 126 #[.val (.int p1), .val (.int p2), .val (.int p3), .val (.int p4), .val (.int p5), .val (.int nn), .val (.int lm), .val (.ref b7), .val (.int (1 : Int32))] [(.int (1 : Int32))])) t → Steps p.tables e below (s₁.setTop (mkF m 0 #[.val (.int p1), .val (.int p2), .val (.int p3), .val (.int p4), .val (.int p5), .unset, .unset, .unset, .unset] [])) t := fun t k => P46 t (st47 _ k)
                  have P49 : ∀ t, Steps p.tables e below (T47.setTop (mkF m 136 #[.val (.int p1), .val (.int p2), .val (.int p3), .val (.int p4), .val (.int p5), .val (.int nn), .val (.int lm), .val (.ref b7), .val (.int (1 : Int32))] [(.int (1 : Int32))])) t → Steps p.tables e below (s₁.setTop (mkF m 0 #[.val (.int p1), .val (.int p2), .val (.int p3), .val (.int p4), .val (.int p5), .unset, .unset, .unset, .unset] [])) t := fun t k => by
                    refine P48 t ?_
                    show Steps p.tables e below (T47.setTop (mkF m 126 #[.val (.int p1), .val (.int p2), .val (.int p3), .val (.int p4), .val (.int p5), .val (.int nn), .val (.int lm), .val (.ref b7), .val (.int (1 : Int32))] [(.int (1 : Int32))])) t
                    refine XS.iload X47.here hx rfl (hb hby at_126) rfl ?_
                    show Steps p.tables e below (T47.setTop (mkF m 128 #[.val (.int p1), .val (.int p2), .val (.int p3), .val (.int p4), .val (.int p5), .val (.int nn), .val (.int lm), .val (.ref b7), .val (.int (1 : Int32))] [(.int (1 : Int32)), (.int (1 : Int32))])) t
                    refine XS.icmpNo X47.here hx rfl (hb hby at_128) rfl (teq rfl).2 ?_
                    show Steps p.tables e below (T47.setTop (mkF m 131 #[.val (.int p1), .val (.int p2), .val (.int p3), .val (.int p4), .val (.int p5), .val (.int nn), .val (.int lm), .val (.ref b7), .val (.int (1 : Int32))] [])) t
                    refine XS.iconst X47.here hx rfl (hb hby at_131) ?_
                    show Steps p.tables e below (T47.setTop (mkF m 132 #[.val (.int p1), .val (.int p2), .val (.int p3), .val (.int p4), .val (.int p5), .val (.int nn), .val (.int lm), .val (.ref b7), .val (.int (1 : Int32))] [(.int (1 : Int32))])) t
                    refine XS.goto X47.here hx rfl (pc0 := 132) (pc' := 136) rfl (hb hby at_132) (by decide) (by decide) ?_
                    exact k
                  obtain ⟨fs, hr, hrun, hended, hW, hsame⟩ := X47.leave (v := some (.int (1 : Int32))) (fun h => by rw [Bd.returns] at h; cases h)
                  refine ⟨_, _, pre0 _ (P49 _ ?_), hrun, hended, _, _, rfl, ?_, ⟨_, rfl⟩, hW, hsame.mono (by decide) (by decide)⟩
                  · exact retN X47 hx (t := .boolean) Bd.returns (by simp) (hb hby at_136) hr
                  · show Q0 Z p1 p2 p3 p4 p5 wB kB h0 n0 _ T47.heap _
                    rw [e47]
                    exact ⟨rfl, N47⟩
                · have P50 : ∀ t, Steps p.tables e below (T31.setTop (mkF m 123 #[.val (.int p1), .val (.int p2), .val (.int p3), .val (.int p4), .val (.int p5), .val (.int nn), .val (.int lm), .val (.ref b7), .val (.int (0 : Int32))] [(.int lm), (.ref b7)])) t → Steps p.tables e below (s₁.setTop (mkF m 0 #[.val (.int p1), .val (.int p2), .val (.int p3), .val (.int p4), .val (.int p5), .unset, .unset, .unset, .unset] [])) t := fun t k => by
                    refine P44 t ?_
                    show Steps p.tables e below (T31.setTop (mkF m 109 #[.val (.int p1), .val (.int p2), .val (.int p3), .val (.int p4), .val (.int p5), .val (.int nn), .val (.int lm), .val (.ref b7), .unset] [(.int (191 : Int32)), (.int (p4 &&& (255 : Int32)))])) t
                    refine XS.icmpYes X31.here hx rfl (pc0 := 109) (pc' := 116) rfl (hb hby at_109) rfl (feq hc45).2 (by decide) (by decide) ?_
                    show Steps p.tables e below (T31.setTop (mkF m 116 #[.val (.int p1), .val (.int p2), .val (.int p3), .val (.int p4), .val (.int p5), .val (.int nn), .val (.int lm), .val (.ref b7), .unset] [])) t
                    refine XS.iconst X31.here hx rfl (hb hby at_116) ?_
                    show Steps p.tables e below (T31.setTop (mkF m 117 #[.val (.int p1), .val (.int p2), .val (.int p3), .val (.int p4), .val (.int p5), .val (.int nn), .val (.int lm), .val (.ref b7), .unset] [(.int (0 : Int32))])) t
                    refine XS.istore X31.here hx rfl (hb hby at_117) rfl (l' := #[.val (.int p1), .val (.int p2), .val (.int p3), .val (.int p4), .val (.int p5), .val (.int nn), .val (.int lm), .val (.ref b7), .val (.int (0 : Int32))]) rfl ?_
                    show Steps p.tables e below (T31.setTop (mkF m 119 #[.val (.int p1), .val (.int p2), .val (.int p3), .val (.int p4), .val (.int p5), .val (.int nn), .val (.int lm), .val (.ref b7), .val (.int (0 : Int32))] [])) t
                    refine XS.aload X31.here hx rfl (hb hby at_119) rfl rfl ?_
                    show Steps p.tables e below (T31.setTop (mkF m 121 #[.val (.int p1), .val (.int p2), .val (.int p3), .val (.int p4), .val (.int p5), .val (.int nn), .val (.int lm), .val (.ref b7), .val (.int (0 : Int32))] [(.ref b7)])) t
                    refine XS.iload X31.here hx rfl (hb hby at_121) rfl ?_
                    exact k
                  obtain ⟨_, _, ⟨T51, L51, k51, n51⟩, -, X51, ⟨Lc51, hQ51, l51, y51, z51⟩, st51⟩ := Jvm.LawKit.callS X31 hx (y := (⟨"com/example/vestline/vestline/text/TextFile", "startsWithByteOrderMark", "([BI)Z"⟩ : MethodName)) hown (mvT hZ (hw _ (List.mem_of_getElem? (i := 5) rfl))) (mvT hZ (hw _ (List.mem_of_getElem? (i := 6) rfl))) (mvT hZ (hw _ (List.mem_of_getElem? (i := 7) rfl))) (mvT hZ (hw _ (List.mem_of_getElem? (i := 8) rfl))) (by decide) (backOf (W := 0) (rm2_2 l Z a0 hw [] b7 lm wB k7 kB nn ((p2.toInt8.toInt32).toInt8.toInt32) ((p3.toInt8.toInt32).toInt8.toInt32) ((p4.toInt8.toInt32).toInt8.toInt32) ((p5.toInt8.toInt32).toInt8.toInt32) h31 n0 Z_32 S_31 V_b7_31 VB_31 hc35 hc23 ((own_b0 p2).mp hc41) ((own_b1 p3).mp hc43) (fun q => hc45 ((own_b2 p4).mpr q))) hZ (hw _ (List.mem_of_getElem? (i := 8) rfl)) (hw _ (List.mem_of_getElem? (i := 7) rfl)) (by decide) (by decide)) (g := (mkF m 123 #[.val (.int p1), .val (.int p2), .val (.int p3), .val (.int p4), .val (.int p5), .val (.int nn), .val (.int lm), .val (.ref b7), .val (.int (0 : Int32))] [(.int lm), (.ref b7)])) rfl (by rw [hml]; rfl) (argsL := [(.ref b7), (.int lm)]) (rest := []) (lenOf pd___BI_Z rfl) rfl (by show 2 * 0 + _ ≤ _; exact Nat.le_of_eq rfl) (hb hby at_123) (fun _ _ => ⟨rfl, e31, (by decide : 1 + 0 ≤ _), (by decide : 7 + 0 ≤ _)⟩)
                  dsimp only [Pt.U, Pt.locs, Pt.cells, Pt.slots] at X51 l51 y51 z51 st51 hQ51
                  subst l51 y51 z51
                  obtain ⟨rfl, N51q, e51⟩ := hQ51
                  have N51 := Fr.app N31 N51q
                  have P52 : ∀ t, Steps p.tables e below (T51.setTop (mkF m 126 #[.val (.int p1), .val (.int p2), .val (.int p3), .val (.int p4), .val (.int p5), .val (.int nn), .val (.int lm), .val (.ref b7), .val (.int (0 : Int32))] [(.int (0 : Int32))])) t → Steps p.tables e below (s₁.setTop (mkF m 0 #[.val (.int p1), .val (.int p2), .val (.int p3), .val (.int p4), .val (.int p5), .unset, .unset, .unset, .unset] [])) t := fun t k => P50 t (st51 _ k)
                  have P53 : ∀ t, Steps p.tables e below (T51.setTop (mkF m 136 #[.val (.int p1), .val (.int p2), .val (.int p3), .val (.int p4), .val (.int p5), .val (.int nn), .val (.int lm), .val (.ref b7), .val (.int (0 : Int32))] [(.int (1 : Int32))])) t → Steps p.tables e below (s₁.setTop (mkF m 0 #[.val (.int p1), .val (.int p2), .val (.int p3), .val (.int p4), .val (.int p5), .unset, .unset, .unset, .unset] [])) t := fun t k => by
                    refine P52 t ?_
                    show Steps p.tables e below (T51.setTop (mkF m 126 #[.val (.int p1), .val (.int p2), .val (.int p3), .val (.int p4), .val (.int p5), .val (.int nn), .val (.int lm), .val (.ref b7), .val (.int (0 : Int32))] [(.int (0 : Int32))])) t
                    refine XS.iload X51.here hx rfl (hb hby at_126) rfl ?_
                    show Steps p.tables e below (T51.setTop (mkF m 128 #[.val (.int p1), .val (.int p2), .val (.int p3), .val (.int p4), .val (.int p5), .val (.int nn), .val (.int lm), .val (.ref b7), .val (.int (0 : Int32))] [(.int (0 : Int32)), (.int (0 : Int32))])) t
                    refine XS.icmpNo X51.here hx rfl (hb hby at_128) rfl (teq rfl).2 ?_
                    show Steps p.tables e below (T51.setTop (mkF m 131 #[.val (.int p1), .val (.int p2), .val (.int p3), .val (.int p4), .val (.int p5), .val (.int nn), .val (.int lm), .val (.ref b7), .val (.int (0 : Int32))] [])) t
                    refine XS.iconst X51.here hx rfl (hb hby at_131) ?_
                    show Steps p.tables e below (T51.setTop (mkF m 132 #[.val (.int p1), .val (.int p2), .val (.int p3), .val (.int p4), .val (.int p5), .val (.int nn), .val (.int lm), .val (.ref b7), .val (.int (0 : Int32))] [(.int (1 : Int32))])) t
                    refine XS.goto X51.here hx rfl (pc0 := 132) (pc' := 136) rfl (hb hby at_132) (by decide) (by decide) ?_
                    exact k
                  obtain ⟨fs, hr, hrun, hended, hW, hsame⟩ := X51.leave (v := some (.int (1 : Int32))) (fun h => by rw [Bd.returns] at h; cases h)
                  refine ⟨_, _, pre0 _ (P53 _ ?_), hrun, hended, _, _, rfl, ?_, ⟨_, rfl⟩, hW, hsame.mono (by decide) (by decide)⟩
                  · exact retN X51 hx (t := .boolean) Bd.returns (by simp) (hb hby at_136) hr
                  · show Q0 Z p1 p2 p3 p4 p5 wB kB h0 n0 _ T51.heap _
                    rw [e51]
                    exact ⟨rfl, N51⟩
              · have P54 : ∀ t, Steps p.tables e below (T31.setTop (mkF m 123 #[.val (.int p1), .val (.int p2), .val (.int p3), .val (.int p4), .val (.int p5), .val (.int nn), .val (.int lm), .val (.ref b7), .val (.int (0 : Int32))] [(.int lm), (.ref b7)])) t → Steps p.tables e below (s₁.setTop (mkF m 0 #[.val (.int p1), .val (.int p2), .val (.int p3), .val (.int p4), .val (.int p5), .unset, .unset, .unset, .unset] [])) t := fun t k => by
                  refine P42 t ?_
                  show Steps p.tables e below (T31.setTop (mkF m 98 #[.val (.int p1), .val (.int p2), .val (.int p3), .val (.int p4), .val (.int p5), .val (.int nn), .val (.int lm), .val (.ref b7), .unset] [(.int (187 : Int32)), (.int (p3 &&& (255 : Int32)))])) t
                  refine XS.icmpYes X31.here hx rfl (pc0 := 98) (pc' := 116) rfl (hb hby at_98) rfl (feq hc43).2 (by decide) (by decide) ?_
                  show Steps p.tables e below (T31.setTop (mkF m 116 #[.val (.int p1), .val (.int p2), .val (.int p3), .val (.int p4), .val (.int p5), .val (.int nn), .val (.int lm), .val (.ref b7), .unset] [])) t
                  refine XS.iconst X31.here hx rfl (hb hby at_116) ?_
                  show Steps p.tables e below (T31.setTop (mkF m 117 #[.val (.int p1), .val (.int p2), .val (.int p3), .val (.int p4), .val (.int p5), .val (.int nn), .val (.int lm), .val (.ref b7), .unset] [(.int (0 : Int32))])) t
                  refine XS.istore X31.here hx rfl (hb hby at_117) rfl (l' := #[.val (.int p1), .val (.int p2), .val (.int p3), .val (.int p4), .val (.int p5), .val (.int nn), .val (.int lm), .val (.ref b7), .val (.int (0 : Int32))]) rfl ?_
                  show Steps p.tables e below (T31.setTop (mkF m 119 #[.val (.int p1), .val (.int p2), .val (.int p3), .val (.int p4), .val (.int p5), .val (.int nn), .val (.int lm), .val (.ref b7), .val (.int (0 : Int32))] [])) t
                  refine XS.aload X31.here hx rfl (hb hby at_119) rfl rfl ?_
                  show Steps p.tables e below (T31.setTop (mkF m 121 #[.val (.int p1), .val (.int p2), .val (.int p3), .val (.int p4), .val (.int p5), .val (.int nn), .val (.int lm), .val (.ref b7), .val (.int (0 : Int32))] [(.ref b7)])) t
                  refine XS.iload X31.here hx rfl (hb hby at_121) rfl ?_
                  exact k
                obtain ⟨_, _, ⟨T55, L55, k55, n55⟩, -, X55, ⟨Lc55, hQ55, l55, y55, z55⟩, st55⟩ := Jvm.LawKit.callS X31 hx (y := (⟨"com/example/vestline/vestline/text/TextFile", "startsWithByteOrderMark", "([BI)Z"⟩ : MethodName)) hown (mvT hZ (hw _ (List.mem_of_getElem? (i := 5) rfl))) (mvT hZ (hw _ (List.mem_of_getElem? (i := 6) rfl))) (mvT hZ (hw _ (List.mem_of_getElem? (i := 7) rfl))) (mvT hZ (hw _ (List.mem_of_getElem? (i := 8) rfl))) (by decide) (backOf (W := 0) (rm2_1 l Z a0 hw [] b7 lm wB k7 kB nn ((p2.toInt8.toInt32).toInt8.toInt32) ((p3.toInt8.toInt32).toInt8.toInt32) ((p4.toInt8.toInt32).toInt8.toInt32) ((p5.toInt8.toInt32).toInt8.toInt32) h31 n0 Z_32 S_31 V_b7_31 VB_31 hc35 hc23 ((own_b0 p2).mp hc41) (fun q => hc43 ((own_b1 p3).mpr q))) hZ (hw _ (List.mem_of_getElem? (i := 8) rfl)) (hw _ (List.mem_of_getElem? (i := 7) rfl)) (by decide) (by decide)) (g := (mkF m 123 #[.val (.int p1), .val (.int p2), .val (.int p3), .val (.int p4), .val (.int p5), .val (.int nn), .val (.int lm), .val (.ref b7), .val (.int (0 : Int32))] [(.int lm), (.ref b7)])) rfl (by rw [hml]; rfl) (argsL := [(.ref b7), (.int lm)]) (rest := []) (lenOf pd___BI_Z rfl) rfl (by show 2 * 0 + _ ≤ _; exact Nat.le_of_eq rfl) (hb hby at_123) (fun _ _ => ⟨rfl, e31, (by decide : 1 + 0 ≤ _), (by decide : 7 + 0 ≤ _)⟩)
                dsimp only [Pt.U, Pt.locs, Pt.cells, Pt.slots] at X55 l55 y55 z55 st55 hQ55
                subst l55 y55 z55
                obtain ⟨rfl, N55q, e55⟩ := hQ55
                have N55 := Fr.app N31 N55q
                have P56 : ∀ t, Steps p.tables e below (T55.setTop (mkF m 126 #[.val (.int p1), .val (.int p2), .val (.int p3), .val (.int p4), .val (.int p5), .val (.int nn), .val (.int lm), .val (.ref b7), .val (.int (0 : Int32))] [(.int (0 : Int32))])) t → Steps p.tables e below (s₁.setTop (mkF m 0 #[.val (.int p1), .val (.int p2), .val (.int p3), .val (.int p4), .val (.int p5), .unset, .unset, .unset, .unset] [])) t := fun t k => P54 t (st55 _ k)
                have P57 : ∀ t, Steps p.tables e below (T55.setTop (mkF m 136 #[.val (.int p1), .val (.int p2), .val (.int p3), .val (.int p4), .val (.int p5), .val (.int nn), .val (.int lm), .val (.ref b7), .val (.int (0 : Int32))] [(.int (1 : Int32))])) t → Steps p.tables e below (s₁.setTop (mkF m 0 #[.val (.int p1), .val (.int p2), .val (.int p3), .val (.int p4), .val (.int p5), .unset, .unset, .unset, .unset] [])) t := fun t k => by
                  refine P56 t ?_
                  show Steps p.tables e below (T55.setTop (mkF m 126 #[.val (.int p1), .val (.int p2), .val (.int p3), .val (.int p4), .val (.int p5), .val (.int nn), .val (.int lm), .val (.ref b7), .val (.int (0 : Int32))] [(.int (0 : Int32))])) t
                  refine XS.iload X55.here hx rfl (hb hby at_126) rfl ?_
                  show Steps p.tables e below (T55.setTop (mkF m 128 #[.val (.int p1), .val (.int p2), .val (.int p3), .val (.int p4), .val (.int p5), .val (.int nn), .val (.int lm), .val (.ref b7), .val (.int (0 : Int32))] [(.int (0 : Int32)), (.int (0 : Int32))])) t
                  refine XS.icmpNo X55.here hx rfl (hb hby at_128) rfl (teq rfl).2 ?_
                  show Steps p.tables e below (T55.setTop (mkF m 131 #[.val (.int p1), .val (.int p2), .val (.int p3), .val (.int p4), .val (.int p5), .val (.int nn), .val (.int lm), .val (.ref b7), .val (.int (0 : Int32))] [])) t
                  refine XS.iconst X55.here hx rfl (hb hby at_131) ?_
                  show Steps p.tables e below (T55.setTop (mkF m 132 #[.val (.int p1), .val (.int p2), .val (.int p3), .val (.int p4), .val (.int p5), .val (.int nn), .val (.int lm), .val (.ref b7), .val (.int (0 : Int32))] [(.int (1 : Int32))])) t
                  refine XS.goto X55.here hx rfl (pc0 := 132) (pc' := 136) rfl (hb hby at_132) (by decide) (by decide) ?_
                  exact k
                obtain ⟨fs, hr, hrun, hended, hW, hsame⟩ := X55.leave (v := some (.int (1 : Int32))) (fun h => by rw [Bd.returns] at h; cases h)
                refine ⟨_, _, pre0 _ (P57 _ ?_), hrun, hended, _, _, rfl, ?_, ⟨_, rfl⟩, hW, hsame.mono (by decide) (by decide)⟩
                · exact retN X55 hx (t := .boolean) Bd.returns (by simp) (hb hby at_136) hr
                · show Q0 Z p1 p2 p3 p4 p5 wB kB h0 n0 _ T55.heap _
                  rw [e55]
                  exact ⟨rfl, N55⟩
            · have P58 : ∀ t, Steps p.tables e below (T31.setTop (mkF m 123 #[.val (.int p1), .val (.int p2), .val (.int p3), .val (.int p4), .val (.int p5), .val (.int nn), .val (.int lm), .val (.ref b7), .val (.int (0 : Int32))] [(.int lm), (.ref b7)])) t → Steps p.tables e below (s₁.setTop (mkF m 0 #[.val (.int p1), .val (.int p2), .val (.int p3), .val (.int p4), .val (.int p5), .unset, .unset, .unset, .unset] [])) t := fun t k => by
                refine P40 t ?_
                show Steps p.tables e below (T31.setTop (mkF m 87 #[.val (.int p1), .val (.int p2), .val (.int p3), .val (.int p4), .val (.int p5), .val (.int nn), .val (.int lm), .val (.ref b7), .unset] [(.int (239 : Int32)), (.int (p2 &&& (255 : Int32)))])) t
                refine XS.icmpYes X31.here hx rfl (pc0 := 87) (pc' := 116) rfl (hb hby at_87) rfl (feq hc41).2 (by decide) (by decide) ?_
                show Steps p.tables e below (T31.setTop (mkF m 116 #[.val (.int p1), .val (.int p2), .val (.int p3), .val (.int p4), .val (.int p5), .val (.int nn), .val (.int lm), .val (.ref b7), .unset] [])) t
                refine XS.iconst X31.here hx rfl (hb hby at_116) ?_
                show Steps p.tables e below (T31.setTop (mkF m 117 #[.val (.int p1), .val (.int p2), .val (.int p3), .val (.int p4), .val (.int p5), .val (.int nn), .val (.int lm), .val (.ref b7), .unset] [(.int (0 : Int32))])) t
                refine XS.istore X31.here hx rfl (hb hby at_117) rfl (l' := #[.val (.int p1), .val (.int p2), .val (.int p3), .val (.int p4), .val (.int p5), .val (.int nn), .val (.int lm), .val (.ref b7), .val (.int (0 : Int32))]) rfl ?_
                show Steps p.tables e below (T31.setTop (mkF m 119 #[.val (.int p1), .val (.int p2), .val (.int p3), .val (.int p4), .val (.int p5), .val (.int nn), .val (.int lm), .val (.ref b7), .val (.int (0 : Int32))] [])) t
                refine XS.aload X31.here hx rfl (hb hby at_119) rfl rfl ?_
                show Steps p.tables e below (T31.setTop (mkF m 121 #[.val (.int p1), .val (.int p2), .val (.int p3), .val (.int p4), .val (.int p5), .val (.int nn), .val (.int lm), .val (.ref b7), .val (.int (0 : Int32))] [(.ref b7)])) t
                refine XS.iload X31.here hx rfl (hb hby at_121) rfl ?_
                exact k
              obtain ⟨_, _, ⟨T59, L59, k59, n59⟩, -, X59, ⟨Lc59, hQ59, l59, y59, z59⟩, st59⟩ := Jvm.LawKit.callS X31 hx (y := (⟨"com/example/vestline/vestline/text/TextFile", "startsWithByteOrderMark", "([BI)Z"⟩ : MethodName)) hown (mvT hZ (hw _ (List.mem_of_getElem? (i := 5) rfl))) (mvT hZ (hw _ (List.mem_of_getElem? (i := 6) rfl))) (mvT hZ (hw _ (List.mem_of_getElem? (i := 7) rfl))) (mvT hZ (hw _ (List.mem_of_getElem? (i := 8) rfl))) (by decide) (backOf (W := 0) (rm2_0 l Z a0 hw [] b7 lm wB k7 kB nn ((p2.toInt8.toInt32).toInt8.toInt32) ((p3.toInt8.toInt32).toInt8.toInt32) ((p4.toInt8.toInt32).toInt8.toInt32) ((p5.toInt8.toInt32).toInt8.toInt32) h31 n0 Z_32 S_31 V_b7_31 VB_31 hc35 hc23 (fun q => hc41 ((own_b0 p2).mpr q))) hZ (hw _ (List.mem_of_getElem? (i := 8) rfl)) (hw _ (List.mem_of_getElem? (i := 7) rfl)) (by decide) (by decide)) (g := (mkF m 123 #[.val (.int p1), .val (.int p2), .val (.int p3), .val (.int p4), .val (.int p5), .val (.int nn), .val (.int lm), .val (.ref b7), .val (.int (0 : Int32))] [(.int lm), (.ref b7)])) rfl (by rw [hml]; rfl) (argsL := [(.ref b7), (.int lm)]) (rest := []) (lenOf pd___BI_Z rfl) rfl (by show 2 * 0 + _ ≤ _; exact Nat.le_of_eq rfl) (hb hby at_123) (fun _ _ => ⟨rfl, e31, (by decide : 1 + 0 ≤ _), (by decide : 7 + 0 ≤ _)⟩)
              dsimp only [Pt.U, Pt.locs, Pt.cells, Pt.slots] at X59 l59 y59 z59 st59 hQ59
              subst l59 y59 z59
              obtain ⟨rfl, N59q, e59⟩ := hQ59
              have N59 := Fr.app N31 N59q
              have P60 : ∀ t, Steps p.tables e below (T59.setTop (mkF m 126 #[.val (.int p1), .val (.int p2), .val (.int p3), .val (.int p4), .val (.int p5), .val (.int nn), .val (.int lm), .val (.ref b7), .val (.int (0 : Int32))] [(.int (0 : Int32))])) t → Steps p.tables e below (s₁.setTop (mkF m 0 #[.val (.int p1), .val (.int p2), .val (.int p3), .val (.int p4), .val (.int p5), .unset, .unset, .unset, .unset] [])) t := fun t k => P58 t (st59 _ k)
              have P61 : ∀ t, Steps p.tables e below (T59.setTop (mkF m 136 #[.val (.int p1), .val (.int p2), .val (.int p3), .val (.int p4), .val (.int p5), .val (.int nn), .val (.int lm), .val (.ref b7), .val (.int (0 : Int32))] [(.int (1 : Int32))])) t → Steps p.tables e below (s₁.setTop (mkF m 0 #[.val (.int p1), .val (.int p2), .val (.int p3), .val (.int p4), .val (.int p5), .unset, .unset, .unset, .unset] [])) t := fun t k => by
                refine P60 t ?_
                show Steps p.tables e below (T59.setTop (mkF m 126 #[.val (.int p1), .val (.int p2), .val (.int p3), .val (.int p4), .val (.int p5), .val (.int nn), .val (.int lm), .val (.ref b7), .val (.int (0 : Int32))] [(.int (0 : Int32))])) t
                refine XS.iload X59.here hx rfl (hb hby at_126) rfl ?_
                show Steps p.tables e below (T59.setTop (mkF m 128 #[.val (.int p1), .val (.int p2), .val (.int p3), .val (.int p4), .val (.int p5), .val (.int nn), .val (.int lm), .val (.ref b7), .val (.int (0 : Int32))] [(.int (0 : Int32)), (.int (0 : Int32))])) t
                refine XS.icmpNo X59.here hx rfl (hb hby at_128) rfl (teq rfl).2 ?_
                show Steps p.tables e below (T59.setTop (mkF m 131 #[.val (.int p1), .val (.int p2), .val (.int p3), .val (.int p4), .val (.int p5), .val (.int nn), .val (.int lm), .val (.ref b7), .val (.int (0 : Int32))] [])) t
                refine XS.iconst X59.here hx rfl (hb hby at_131) ?_
                show Steps p.tables e below (T59.setTop (mkF m 132 #[.val (.int p1), .val (.int p2), .val (.int p3), .val (.int p4), .val (.int p5), .val (.int nn), .val (.int lm), .val (.ref b7), .val (.int (0 : Int32))] [(.int (1 : Int32))])) t
                refine XS.goto X59.here hx rfl (pc0 := 132) (pc' := 136) rfl (hb hby at_132) (by decide) (by decide) ?_
                exact k
              obtain ⟨fs, hr, hrun, hended, hW, hsame⟩ := X59.leave (v := some (.int (1 : Int32))) (fun h => by rw [Bd.returns] at h; cases h)
              refine ⟨_, _, pre0 _ (P61 _ ?_), hrun, hended, _, _, rfl, ?_, ⟨_, rfl⟩, hW, hsame.mono (by decide) (by decide)⟩
              · exact retN X59 hx (t := .boolean) Bd.returns (by simp) (hb hby at_136) hr
              · show Q0 Z p1 p2 p3 p4 p5 wB kB h0 n0 _ T59.heap _
                rw [e59]
                exact ⟨rfl, N59⟩
        · have P62 : ∀ t, Steps p.tables e below (T25.setTop (mkF m 76 #[.val (.int p1), .val (.int p2), .val (.int p3), .val (.int p4), .val (.int p5), .val (.int nn), .val (.int lm), .val (.ref b7), .unset] [(.int (3 : Int32)), (.int lm)])) t → Steps p.tables e below (s₁.setTop (mkF m 0 #[.val (.int p1), .val (.int p2), .val (.int p3), .val (.int p4), .val (.int p5), .unset, .unset, .unset, .unset] [])) t := fun t k => by
            refine P28 t ?_
            show Steps p.tables e below (T25.setTop (mkF m 63 #[.val (.int p1), .val (.int p2), .val (.int p3), .val (.int p4), .val (.int p5), .val (.int nn), .val (.int lm), .val (.ref b7), .unset] [(.int (3 : Int32)), (.int nn)])) t
            refine XS.icmpYes X25.here hx rfl (pc0 := 63) (pc' := 73) rfl (hb hby at_63) rfl (flt hc29).2.2.2 (by decide) (by decide) ?_
            show Steps p.tables e below (T25.setTop (mkF m 73 #[.val (.int p1), .val (.int p2), .val (.int p3), .val (.int p4), .val (.int p5), .val (.int nn), .val (.int lm), .val (.ref b7), .unset] [])) t
            refine XS.iload X25.here hx rfl (hb hby at_73) rfl ?_
            show Steps p.tables e below (T25.setTop (mkF m 75 #[.val (.int p1), .val (.int p2), .val (.int p3), .val (.int p4), .val (.int p5), .val (.int nn), .val (.int lm), .val (.ref b7), .unset] [(.int lm)])) t
            refine XS.iconst X25.here hx rfl (hb hby at_75) ?_
            exact k
          by_cases hc63 : lm < (3 : Int32)
          · have P64 : ∀ t, Steps p.tables e below (T25.setTop (mkF m 123 #[.val (.int p1), .val (.int p2), .val (.int p3), .val (.int p4), .val (.int p5), .val (.int nn), .val (.int lm), .val (.ref b7), .val (.int (0 : Int32))] [(.int lm), (.ref b7)])) t → Steps p.tables e below (s₁.setTop (mkF m 0 #[.val (.int p1), .val (.int p2), .val (.int p3), .val (.int p4), .val (.int p5), .unset, .unset, .unset, .unset] [])) t := fun t k => by
              refine P62 t ?_
              show Steps p.tables e below (T25.setTop (mkF m 76 #[.val (.int p1), .val (.int p2), .val (.int p3), .val (.int p4), .val (.int p5), .val (.int nn), .val (.int lm), .val (.ref b7), .unset] [(.int (3 : Int32)), (.int lm)])) t
              refine XS.icmpYes X25.here hx rfl (pc0 := 76) (pc' := 116) rfl (hb hby at_76) rfl (tlt hc63).1 (by decide) (by decide) ?_
              show Steps p.tables e below (T25.setTop (mkF m 116 #[.val (.int p1), .val (.int p2), .val (.int p3), .val (.int p4), .val (.int p5), .val (.int nn), .val (.int lm), .val (.ref b7), .unset] [])) t
              refine XS.iconst X25.here hx rfl (hb hby at_116) ?_
              show Steps p.tables e below (T25.setTop (mkF m 117 #[.val (.int p1), .val (.int p2), .val (.int p3), .val (.int p4), .val (.int p5), .val (.int nn), .val (.int lm), .val (.ref b7), .unset] [(.int (0 : Int32))])) t
              refine XS.istore X25.here hx rfl (hb hby at_117) rfl (l' := #[.val (.int p1), .val (.int p2), .val (.int p3), .val (.int p4), .val (.int p5), .val (.int nn), .val (.int lm), .val (.ref b7), .val (.int (0 : Int32))]) rfl ?_
              show Steps p.tables e below (T25.setTop (mkF m 119 #[.val (.int p1), .val (.int p2), .val (.int p3), .val (.int p4), .val (.int p5), .val (.int nn), .val (.int lm), .val (.ref b7), .val (.int (0 : Int32))] [])) t
              refine XS.aload X25.here hx rfl (hb hby at_119) rfl rfl ?_
              show Steps p.tables e below (T25.setTop (mkF m 121 #[.val (.int p1), .val (.int p2), .val (.int p3), .val (.int p4), .val (.int p5), .val (.int nn), .val (.int lm), .val (.ref b7), .val (.int (0 : Int32))] [(.ref b7)])) t
              refine XS.iload X25.here hx rfl (hb hby at_121) rfl ?_
              exact k
            obtain ⟨_, _, ⟨T65, L65, k65, n65⟩, -, X65, ⟨Lc65, hQ65, l65, y65, z65⟩, st65⟩ := Jvm.LawKit.callS X25 hx (y := (⟨"com/example/vestline/vestline/text/TextFile", "startsWithByteOrderMark", "([BI)Z"⟩ : MethodName)) hown (mvT hZ (hw _ (List.mem_of_getElem? (i := 5) rfl))) (mvT hZ (hw _ (List.mem_of_getElem? (i := 6) rfl))) (mvT hZ (hw _ (List.mem_of_getElem? (i := 7) rfl))) (mvT hZ (hw _ (List.mem_of_getElem? (i := 8) rfl))) (by decide) (backOf (W := 0) (rm2_z l Z a0 hw [] b7 lm h25 n0 Z_26 hc63) hZ (hw _ (List.mem_of_getElem? (i := 8) rfl)) (hw _ (List.mem_of_getElem? (i := 7) rfl)) (by decide) (by decide)) (g := (mkF m 123 #[.val (.int p1), .val (.int p2), .val (.int p3), .val (.int p4), .val (.int p5), .val (.int nn), .val (.int lm), .val (.ref b7), .val (.int (0 : Int32))] [(.int lm), (.ref b7)])) rfl (by rw [hml]; rfl) (argsL := [(.ref b7), (.int lm)]) (rest := []) (lenOf pd___BI_Z rfl) rfl (by show 2 * 0 + _ ≤ _; exact Nat.le_of_eq rfl) (hb hby at_123) (fun _ _ => ⟨rfl, e25, (by decide : 1 + 0 ≤ _), (by decide : 7 + 0 ≤ _)⟩)
            dsimp only [Pt.U, Pt.locs, Pt.cells, Pt.slots] at X65 l65 y65 z65 st65 hQ65
            subst l65 y65 z65
            obtain ⟨rfl, N65q, e65⟩ := hQ65
            have N65 := Fr.app N25 N65q
            have P66 : ∀ t, Steps p.tables e below (T65.setTop (mkF m 126 #[.val (.int p1), .val (.int p2), .val (.int p3), .val (.int p4), .val (.int p5), .val (.int nn), .val (.int lm), .val (.ref b7), .val (.int (0 : Int32))] [(.int (0 : Int32))])) t → Steps p.tables e below (s₁.setTop (mkF m 0 #[.val (.int p1), .val (.int p2), .val (.int p3), .val (.int p4), .val (.int p5), .unset, .unset, .unset, .unset] [])) t := fun t k => P64 t (st65 _ k)
            have P67 : ∀ t, Steps p.tables e below (T65.setTop (mkF m 136 #[.val (.int p1), .val (.int p2), .val (.int p3), .val (.int p4), .val (.int p5), .val (.int nn), .val (.int lm), .val (.ref b7), .val (.int (0 : Int32))] [(.int (1 : Int32))])) t → Steps p.tables e below (s₁.setTop (mkF m 0 #[.val (.int p1), .val (.int p2), .val (.int p3), .val (.int p4), .val (.int p5), .unset, .unset, .unset, .unset] [])) t := fun t k => by
              refine P66 t ?_
              show Steps p.tables e below (T65.setTop (mkF m 126 #[.val (.int p1), .val (.int p2), .val (.int p3), .val (.int p4), .val (.int p5), .val (.int nn), .val (.int lm), .val (.ref b7), .val (.int (0 : Int32))] [(.int (0 : Int32))])) t
              refine XS.iload X65.here hx rfl (hb hby at_126) rfl ?_
              show Steps p.tables e below (T65.setTop (mkF m 128 #[.val (.int p1), .val (.int p2), .val (.int p3), .val (.int p4), .val (.int p5), .val (.int nn), .val (.int lm), .val (.ref b7), .val (.int (0 : Int32))] [(.int (0 : Int32)), (.int (0 : Int32))])) t
              refine XS.icmpNo X65.here hx rfl (hb hby at_128) rfl (teq rfl).2 ?_
              show Steps p.tables e below (T65.setTop (mkF m 131 #[.val (.int p1), .val (.int p2), .val (.int p3), .val (.int p4), .val (.int p5), .val (.int nn), .val (.int lm), .val (.ref b7), .val (.int (0 : Int32))] [])) t
              refine XS.iconst X65.here hx rfl (hb hby at_131) ?_
              show Steps p.tables e below (T65.setTop (mkF m 132 #[.val (.int p1), .val (.int p2), .val (.int p3), .val (.int p4), .val (.int p5), .val (.int nn), .val (.int lm), .val (.ref b7), .val (.int (0 : Int32))] [(.int (1 : Int32))])) t
              refine XS.goto X65.here hx rfl (pc0 := 132) (pc' := 136) rfl (hb hby at_132) (by decide) (by decide) ?_
              exact k
            obtain ⟨fs, hr, hrun, hended, hW, hsame⟩ := X65.leave (v := some (.int (1 : Int32))) (fun h => by rw [Bd.returns] at h; cases h)
            refine ⟨_, _, pre0 _ (P67 _ ?_), hrun, hended, _, _, rfl, ?_, ⟨_, rfl⟩, hW, hsame.mono (by decide) (by decide)⟩
            · exact retN X65 hx (t := .boolean) Bd.returns (by simp) (hb hby at_136) hr
            · show Q0 Z p1 p2 p3 p4 p5 wB kB h0 n0 _ T65.heap _
              rw [e65]
              exact ⟨rfl, N65⟩
          · have P68 : ∀ t, Steps p.tables e below (T25.setTop (mkF m 87 #[.val (.int p1), .val (.int p2), .val (.int p3), .val (.int p4), .val (.int p5), .val (.int nn), .val (.int lm), .val (.ref b7), .unset] [(.int (239 : Int32)), (.int (p2 &&& (255 : Int32)))])) t → Steps p.tables e below (s₁.setTop (mkF m 0 #[.val (.int p1), .val (.int p2), .val (.int p3), .val (.int p4), .val (.int p5), .unset, .unset, .unset, .unset] [])) t := fun t k => by
              refine P62 t ?_
              show Steps p.tables e below (T25.setTop (mkF m 76 #[.val (.int p1), .val (.int p2), .val (.int p3), .val (.int p4), .val (.int p5), .val (.int nn), .val (.int lm), .val (.ref b7), .unset] [(.int (3 : Int32)), (.int lm)])) t
              refine XS.icmpNo X25.here hx rfl (hb hby at_76) rfl (flt hc63).1 ?_
              show Steps p.tables e below (T25.setTop (mkF m 79 #[.val (.int p1), .val (.int p2), .val (.int p3), .val (.int p4), .val (.int p5), .val (.int nn), .val (.int lm), .val (.ref b7), .unset] [])) t
              refine XS.iloadN X25.here hx rfl (hb hby at_79) rfl ?_
              show Steps p.tables e below (T25.setTop (mkF m 80 #[.val (.int p1), .val (.int p2), .val (.int p3), .val (.int p4), .val (.int p5), .val (.int nn), .val (.int lm), .val (.ref b7), .unset] [(.int p2)])) t
              refine XS.sipush X25.here hx rfl (hb hby at_80) ?_
              show Steps p.tables e below (T25.setTop (mkF m 83 #[.val (.int p1), .val (.int p2), .val (.int p3), .val (.int p4), .val (.int p5), .val (.int nn), .val (.int lm), .val (.ref b7), .unset] [(.int (255 : Int32)), (.int p2)])) t
              refine XS.iand X25.here hx rfl (hb hby at_83) rfl ?_
              show Steps p.tables e below (T25.setTop (mkF m 84 #[.val (.int p1), .val (.int p2), .val (.int p3), .val (.int p4), .val (.int p5), .val (.int nn), .val (.int lm), .val (.ref b7), .unset] [(.int (p2 &&& (255 : Int32)))])) t
              refine XS.sipush X25.here hx rfl (hb hby at_84) ?_
              exact k
            by_cases hc69 : (p2 &&& (255 : Int32)) = (239 : Int32)
            · have P70 : ∀ t, Steps p.tables e below (T25.setTop (mkF m 98 #[.val (.int p1), .val (.int p2), .val (.int p3), .val (.int p4), .val (.int p5), .val (.int nn), .val (.int lm), .val (.ref b7), .unset] [(.int (187 : Int32)), (.int (p3 &&& (255 : Int32)))])) t → Steps p.tables e below (s₁.setTop (mkF m 0 #[.val (.int p1), .val (.int p2), .val (.int p3), .val (.int p4), .val (.int p5), .unset, .unset, .unset, .unset] [])) t := fun t k => by
                refine P68 t ?_
                show Steps p.tables e below (T25.setTop (mkF m 87 #[.val (.int p1), .val (.int p2), .val (.int p3), .val (.int p4), .val (.int p5), .val (.int nn), .val (.int lm), .val (.ref b7), .unset] [(.int (239 : Int32)), (.int (p2 &&& (255 : Int32)))])) t
                refine XS.icmpNo X25.here hx rfl (hb hby at_87) rfl (teq hc69).2 ?_
                show Steps p.tables e below (T25.setTop (mkF m 90 #[.val (.int p1), .val (.int p2), .val (.int p3), .val (.int p4), .val (.int p5), .val (.int nn), .val (.int lm), .val (.ref b7), .unset] [])) t
                refine XS.iloadN X25.here hx rfl (hb hby at_90) rfl ?_
                show Steps p.tables e below (T25.setTop (mkF m 91 #[.val (.int p1), .val (.int p2), .val (.int p3), .val (.int p4), .val (.int p5), .val (.int nn), .val (.int lm), .val (.ref b7), .unset] [(.int p3)])) t
                refine XS.sipush X25.here hx rfl (hb hby at_91) ?_
                show Steps p.tables e below (T25.setTop (mkF m 94 #[.val (.int p1), .val (.int p2), .val (.int p3), .val (.int p4), .val (.int p5), .val (.int nn), .val (.int lm), .val (.ref b7), .unset] [(.int (255 : Int32)), (.int p3)])) t
                refine XS.iand X25.here hx rfl (hb hby at_94) rfl ?_
                show Steps p.tables e below (T25.setTop (mkF m 95 #[.val (.int p1), .val (.int p2), .val (.int p3), .val (.int p4), .val (.int p5), .val (.int nn), .val (.int lm), .val (.ref b7), .unset] [(.int (p3 &&& (255 : Int32)))])) t
                refine XS.sipush X25.here hx rfl (hb hby at_95) ?_
                exact k
              by_cases hc71 : (p3 &&& (255 : Int32)) = (187 : Int32)
              · have P72 : ∀ t, Steps p.tables e below (T25.setTop (mkF m 109 #[.val (.int p1), .val (.int p2), .val (.int p3), .val (.int p4), .val (.int p5), .val (.int nn), .val (.int lm), .val (.ref b7), .unset] [(.int (191 : Int32)), (.int (p4 &&& (255 : Int32)))])) t → Steps p.tables e below (s₁.setTop (mkF m 0 #[.val (.int p1), .val (.int p2), .val (.int p3), .val (.int p4), .val (.int p5), .unset, .unset, .unset, .unset] [])) t := fun t k => by
                  refine P70 t ?_
                  show Steps p.tables e below (T25.setTop (mkF m 98 #[.val (.int p1), .val (.int p2), .val (.int p3), .val (.int p4), .val (.int p5), .val (.int nn), .val (.int lm), .val (.ref b7), .unset] [(.int (187 : Int32)), (.int (p3 &&& (255 : Int32)))])) t
                  refine XS.icmpNo X25.here hx rfl (hb hby at_98) rfl (teq hc71).2 ?_
                  show Steps p.tables e below (T25.setTop (mkF m 101 #[.val (.int p1), .val (.int p2), .val (.int p3), .val (.int p4), .val (.int p5), .val (.int nn), .val (.int lm), .val (.ref b7), .unset] [])) t
                  refine XS.iloadN X25.here hx rfl (hb hby at_101) rfl ?_
                  show Steps p.tables e below (T25.setTop (mkF m 102 #[.val (.int p1), .val (.int p2), .val (.int p3), .val (.int p4), .val (.int p5), .val (.int nn), .val (.int lm), .val (.ref b7), .unset] [(.int p4)])) t
                  refine XS.sipush X25.here hx rfl (hb hby at_102) ?_
                  show Steps p.tables e below (T25.setTop (mkF m 105 #[.val (.int p1), .val (.int p2), .val (.int p3), .val (.int p4), .val (.int p5), .val (.int nn), .val (.int lm), .val (.ref b7), .unset] [(.int (255 : Int32)), (.int p4)])) t
                  refine XS.iand X25.here hx rfl (hb hby at_105) rfl ?_
                  show Steps p.tables e below (T25.setTop (mkF m 106 #[.val (.int p1), .val (.int p2), .val (.int p3), .val (.int p4), .val (.int p5), .val (.int nn), .val (.int lm), .val (.ref b7), .unset] [(.int (p4 &&& (255 : Int32)))])) t
                  refine XS.sipush X25.here hx rfl (hb hby at_106) ?_
                  exact k
                by_cases hc73 : (p4 &&& (255 : Int32)) = (191 : Int32)
                · have P74 : ∀ t, Steps p.tables e below (T25.setTop (mkF m 123 #[.val (.int p1), .val (.int p2), .val (.int p3), .val (.int p4), .val (.int p5), .val (.int nn), .val (.int lm), .val (.ref b7), .val (.int (1 : Int32))] [(.int lm), (.ref b7)])) t → Steps p.tables e below (s₁.setTop (mkF m 0 #[.val (.int p1), .val (.int p2), .val (.int p3), .val (.int p4), .val (.int p5), .unset, .unset, .unset, .unset] [])) t := fun t k => by
                    refine P72 t ?_
                    show Steps p.tables e below (T25.setTop (mkF m 109 #[.val (.int p1), .val (.int p2), .val (.int p3), .val (.int p4), .val (.int p5), .val (.int nn), .val (.int lm), .val (.ref b7), .unset] [(.int (191 : Int32)), (.int (p4 &&& (255 : Int32)))])) t
                    refine XS.icmpNo X25.here hx rfl (hb hby at_109) rfl (teq hc73).2 ?_
                    show Steps p.tables e below (T25.setTop (mkF m 112 #[.val (.int p1), .val (.int p2), .val (.int p3), .val (.int p4), .val (.int p5), .val (.int nn), .val (.int lm), .val (.ref b7), .unset] [])) t
                    refine XS.iconst X25.here hx rfl (hb hby at_112) ?_
                    show Steps p.tables e below (T25.setTop (mkF m 113 #[.val (.int p1), .val (.int p2), .val (.int p3), .val (.int p4), .val (.int p5), .val (.int nn), .val (.int lm), .val (.ref b7), .unset] [(.int (1 : Int32))])) t
                    refine XS.goto X25.here hx rfl (pc0 := 113) (pc' := 117) rfl (hb hby at_113) (by decide) (by decide) ?_
                    show Steps p.tables e below (T25.setTop (mkF m 117 #[.val (.int p1), .val (.int p2), .val (.int p3), .val (.int p4), .val (.int p5), .val (.int nn), .val (.int lm), .val (.ref b7), .unset] [(.int (1 : Int32))])) t
                    refine XS.istore X25.here hx rfl (hb hby at_117) rfl (l' := #[.val (.int p1), .val (.int p2), .val (.int p3), .val (.int p4), .val (.int p5), .val (.int nn), .val (.int lm), .val (.ref b7), .val (.int (1 : Int32))]) rfl ?_
                    show Steps p.tables e below (T25.setTop (mkF m 119 #[.val (.int p1), .val (.int p2), .val (.int p3), .val (.int p4), .val (.int p5), .val (.int nn), .val (.int lm), .val (.ref b7), .val (.int (1 : Int32))] [])) t
                    refine XS.aload X25.here hx rfl (hb hby at_119) rfl rfl ?_
                    show Steps p.tables e below (T25.setTop (mkF m 121 #[.val (.int p1), .val (.int p2), .val (.int p3), .val (.int p4), .val (.int p5), .val (.int nn), .val (.int lm), .val (.ref b7), .val (.int (1 : Int32))] [(.ref b7)])) t
                    refine XS.iload X25.here hx rfl (hb hby at_121) rfl ?_
                    exact k
                  obtain ⟨_, _, ⟨T75, L75, k75, n75⟩, -, X75, ⟨Lc75, hQ75, l75, y75, z75⟩, st75⟩ := Jvm.LawKit.callS X25 hx (y := (⟨"com/example/vestline/vestline/text/TextFile", "startsWithByteOrderMark", "([BI)Z"⟩ : MethodName)) hown (mvT hZ (hw _ (List.mem_of_getElem? (i := 5) rfl))) (mvT hZ (hw _ (List.mem_of_getElem? (i := 6) rfl))) (mvT hZ (hw _ (List.mem_of_getElem? (i := 7) rfl))) (mvT hZ (hw _ (List.mem_of_getElem? (i := 8) rfl))) (by decide) (backOf (W := 0) (rm2_3 l Z a0 hw [] b7 lm wB k7 kB nn ((p2.toInt8.toInt32).toInt8.toInt32) ((p3.toInt8.toInt32).toInt8.toInt32) ((p4.toInt8.toInt32).toInt8.toInt32) (0 : Int32) h25 n0 Z_26 S_25 V_b7_25 VB_25 hc63 hc23 ((own_b0 p2).mp hc69) ((own_b1 p3).mp hc71) ((own_b2 p4).mp hc73)) hZ (hw _ (List.mem_of_getElem? (i := 8) rfl)) (hw _ (List.mem_of_getElem? (i := 7) rfl)) (by decide) (by decide)) (g := (mkF m 123 #[.val (.int p1), .val (.int p2), .val (.int p3), .val (.int p4), .val (.int p5), .val (.int nn), .val (.int lm), .val (.ref b7), .val (.int (1 : Int32))] [(.int lm), (.ref b7)])) rfl (by rw [hml]; rfl) (argsL := [(.ref b7), (.int lm)]) (rest := []) (lenOf pd___BI_Z rfl) rfl (by show 2 * 0 + _ ≤ _; exact Nat.le_of_eq rfl) (hb hby at_123) (fun _ _ => ⟨rfl, e25, (by decide : 1 + 0 ≤ _), (by decide : 7 + 0 ≤ _)⟩)
                  dsimp only [Pt.U, Pt.locs, Pt.cells, Pt.slots] at X75 l75 y75 z75 st75 hQ75
                  subst l75 y75 z75
                  obtain ⟨rfl, N75q, e75⟩ := hQ75
                  have N75 := Fr.app N25 N75q
                  have P76 : ∀ t, Steps p.tables e below (T75.setTop (mkF m 126 #[.val (.int p1), .val (.int p2), .val (.int p3), .val (.int p4), .val (.int p5), .val (.int nn), .val (.int lm), .val (.ref b7), .val (.int (1 : Int32))] [(.int (1 : Int32))])) t → Steps p.tables e below (s₁.setTop (mkF m 0 #[.val (.int p1), .val (.int p2), .val (.int p3), .val (.int p4), .val (.int p5), .unset, .unset, .unset, .unset] [])) t := fun t k => P74 t (st75 _ k)
                  have P77 : ∀ t, Steps p.tables e below (T75.setTop (mkF m 136 #[.val (.int p1), .val (.int p2), .val (.int p3), .val (.int p4), .val (.int p5), .val (.int nn), .val (.int lm), .val (.ref b7), .val (.int (1 : Int32))] [(.int (1 : Int32))])) t → Steps p.tables e below (s₁.setTop (mkF m 0 #[.val (.int p1), .val (.int p2), .val (.int p3), .val (.int p4), .val (.int p5), .unset, .unset, .unset, .unset] [])) t := fun t k => by
                    refine P76 t ?_
                    show Steps p.tables e below (T75.setTop (mkF m 126 #[.val (.int p1), .val (.int p2), .val (.int p3), .val (.int p4), .val (.int p5), .val (.int nn), .val (.int lm), .val (.ref b7), .val (.int (1 : Int32))] [(.int (1 : Int32))])) t
                    refine XS.iload X75.here hx rfl (hb hby at_126) rfl ?_
                    show Steps p.tables e below (T75.setTop (mkF m 128 #[.val (.int p1), .val (.int p2), .val (.int p3), .val (.int p4), .val (.int p5), .val (.int nn), .val (.int lm), .val (.ref b7), .val (.int (1 : Int32))] [(.int (1 : Int32)), (.int (1 : Int32))])) t
                    refine XS.icmpNo X75.here hx rfl (hb hby at_128) rfl (teq rfl).2 ?_
                    show Steps p.tables e below (T75.setTop (mkF m 131 #[.val (.int p1), .val (.int p2), .val (.int p3), .val (.int p4), .val (.int p5), .val (.int nn), .val (.int lm), .val (.ref b7), .val (.int (1 : Int32))] [])) t
                    refine XS.iconst X75.here hx rfl (hb hby at_131) ?_
                    show Steps p.tables e below (T75.setTop (mkF m 132 #[.val (.int p1), .val (.int p2), .val (.int p3), .val (.int p4), .val (.int p5), .val (.int nn), .val (.int lm), .val (.ref b7), .val (.int (1 : Int32))] [(.int (1 : Int32))])) t
                    refine XS.goto X75.here hx rfl (pc0 := 132) (pc' := 136) rfl (hb hby at_132) (by decide) (by decide) ?_
                    exact k
                  obtain ⟨fs, hr, hrun, hended, hW, hsame⟩ := X75.leave (v := some (.int (1 : Int32))) (fun h => by rw [Bd.returns] at h; cases h)
                  refine ⟨_, _, pre0 _ (P77 _ ?_), hrun, hended, _, _, rfl, ?_, ⟨_, rfl⟩, hW, hsame.mono (by decide) (by decide)⟩
                  · exact retN X75 hx (t := .boolean) Bd.returns (by simp) (hb hby at_136) hr
                  · show Q0 Z p1 p2 p3 p4 p5 wB kB h0 n0 _ T75.heap _
                    rw [e75]
                    exact ⟨rfl, N75⟩
                · have P78 : ∀ t, Steps p.tables e below (T25.setTop (mkF m 123 #[.val (.int p1), .val (.int p2), .val (.int p3), .val (.int p4), .val (.int p5), .val (.int nn), .val (.int lm), .val (.ref b7), .val (.int (0 : Int32))] [(.int lm), (.ref b7)])) t → Steps p.tables e below (s₁.setTop (mkF m 0 #[.val (.int p1), .val (.int p2), .val (.int p3), .val (.int p4), .val (.int p5), .unset, .unset, .unset, .unset] [])) t := fun t k => by
                    refine P72 t ?_
                    show Steps p.tables e below (T25.setTop (mkF m 109 #[.val (.int p1), .val (.int p2), .val (.int p3), .val (.int p4), .val (.int p5), .val (.int nn), .val (.int lm), .val (.ref b7), .unset] [(.int (191 : Int32)), (.int (p4 &&& (255 : Int32)))])) t
                    refine XS.icmpYes X25.here hx rfl (pc0 := 109) (pc' := 116) rfl (hb hby at_109) rfl (feq hc73).2 (by decide) (by decide) ?_
                    show Steps p.tables e below (T25.setTop (mkF m 116 #[.val (.int p1), .val (.int p2), .val (.int p3), .val (.int p4), .val (.int p5), .val (.int nn), .val (.int lm), .val (.ref b7), .unset] [])) t
                    refine XS.iconst X25.here hx rfl (hb hby at_116) ?_
                    show Steps p.tables e below (T25.setTop (mkF m 117 #[.val (.int p1), .val (.int p2), .val (.int p3), .val (.int p4), .val (.int p5), .val (.int nn), .val (.int lm), .val (.ref b7), .unset] [(.int (0 : Int32))])) t
                    refine XS.istore X25.here hx rfl (hb hby at_117) rfl (l' := #[.val (.int p1), .val (.int p2), .val (.int p3), .val (.int p4), .val (.int p5), .val (.int nn), .val (.int lm), .val (.ref b7), .val (.int (0 : Int32))]) rfl ?_
                    show Steps p.tables e below (T25.setTop (mkF m 119 #[.val (.int p1), .val (.int p2), .val (.int p3), .val (.int p4), .val (.int p5), .val (.int nn), .val (.int lm), .val (.ref b7), .val (.int (0 : Int32))] [])) t
                    refine XS.aload X25.here hx rfl (hb hby at_119) rfl rfl ?_
                    show Steps p.tables e below (T25.setTop (mkF m 121 #[.val (.int p1), .val (.int p2), .val (.int p3), .val (.int p4), .val (.int p5), .val (.int nn), .val (.int lm), .val (.ref b7), .val (.int (0 : Int32))] [(.ref b7)])) t
                    refine XS.iload X25.here hx rfl (hb hby at_121) rfl ?_
                    exact k
                  obtain ⟨_, _, ⟨T79, L79, k79, n79⟩, -, X79, ⟨Lc79, hQ79, l79, y79, z79⟩, st79⟩ := Jvm.LawKit.callS X25 hx (y := (⟨"com/example/vestline/vestline/text/TextFile", "startsWithByteOrderMark", "([BI)Z"⟩ : MethodName)) hown (mvT hZ (hw _ (List.mem_of_getElem? (i := 5) rfl))) (mvT hZ (hw _ (List.mem_of_getElem? (i := 6) rfl))) (mvT hZ (hw _ (List.mem_of_getElem? (i := 7) rfl))) (mvT hZ (hw _ (List.mem_of_getElem? (i := 8) rfl))) (by decide) (backOf (W := 0) (rm2_2 l Z a0 hw [] b7 lm wB k7 kB nn ((p2.toInt8.toInt32).toInt8.toInt32) ((p3.toInt8.toInt32).toInt8.toInt32) ((p4.toInt8.toInt32).toInt8.toInt32) (0 : Int32) h25 n0 Z_26 S_25 V_b7_25 VB_25 hc63 hc23 ((own_b0 p2).mp hc69) ((own_b1 p3).mp hc71) (fun q => hc73 ((own_b2 p4).mpr q))) hZ (hw _ (List.mem_of_getElem? (i := 8) rfl)) (hw _ (List.mem_of_getElem? (i := 7) rfl)) (by decide) (by decide)) (g := (mkF m 123 #[.val (.int p1), .val (.int p2), .val (.int p3), .val (.int p4), .val (.int p5), .val (.int nn), .val (.int lm), .val (.ref b7), .val (.int (0 : Int32))] [(.int lm), (.ref b7)])) rfl (by rw [hml]; rfl) (argsL := [(.ref b7), (.int lm)]) (rest := []) (lenOf pd___BI_Z rfl) rfl (by show 2 * 0 + _ ≤ _; exact Nat.le_of_eq rfl) (hb hby at_123) (fun _ _ => ⟨rfl, e25, (by decide : 1 + 0 ≤ _), (by decide : 7 + 0 ≤ _)⟩)
                  dsimp only [Pt.U, Pt.locs, Pt.cells, Pt.slots] at X79 l79 y79 z79 st79 hQ79
                  subst l79 y79 z79
                  obtain ⟨rfl, N79q, e79⟩ := hQ79
                  have N79 := Fr.app N25 N79q
                  have P80 : ∀ t, Steps p.tables e below (T79.setTop (mkF m 126 #[.val (.int p1), .val (.int p2), .val (.int p3), .val (.int p4), .val (.int p5), .val (.int nn), .val (.int lm), .val (.ref b7), .val (.int (0 : Int32))] [(.int (0 : Int32))])) t → Steps p.tables e below (s₁.setTop (mkF m 0 #[.val (.int p1), .val (.int p2), .val (.int p3), .val (.int p4), .val (.int p5), .unset, .unset, .unset, .unset] [])) t := fun t k => P78 t (st79 _ k)
                  have P81 : ∀ t, Steps p.tables e below (T79.setTop (mkF m 136 #[.val (.int p1), .val (.int p2), .val (.int p3), .val (.int p4), .val (.int p5), .val (.int nn), .val (.int lm), .val (.ref b7), .val (.int (0 : Int32))] [(.int (1 : Int32))])) t → Steps p.tables e below (s₁.setTop (mkF m 0 #[.val (.int p1), .val (.int p2), .val (.int p3), .val (.int p4), .val (.int p5), .unset, .unset, .unset, .unset] [])) t := fun t k => by
                    refine P80 t ?_
                    show Steps p.tables e below (T79.setTop (mkF m 126 #[.val (.int p1), .val (.int p2), .val (.int p3), .val (.int p4), .val (.int p5), .val (.int nn), .val (.int lm), .val (.ref b7), .val (.int (0 : Int32))] [(.int (0 : Int32))])) t
                    refine XS.iload X79.here hx rfl (hb hby at_126) rfl ?_
                    show Steps p.tables e below (T79.setTop (mkF m 128 #[.val (.int p1), .val (.int p2), .val (.int p3), .val (.int p4), .val (.int p5), .val (.int nn), .val (.int lm), .val (.ref b7), .val (.int (0 : Int32))] [(.int (0 : Int32)), (.int (0 : Int32))])) t
                    refine XS.icmpNo X79.here hx rfl (hb hby at_128) rfl (teq rfl).2 ?_
                    show Steps p.tables e below (T79.setTop (mkF m 131 #[.val (.int p1), .val (.int p2), .val (.int p3), .val (.int p4), .val (.int p5), .val (.int nn), .val (.int lm), .val (.ref b7), .val (.int (0 : Int32))] [])) t
                    refine XS.iconst X79.here hx rfl (hb hby at_131) ?_
                    show Steps p.tables e below (T79.setTop (mkF m 132 #[.val (.int p1), .val (.int p2), .val (.int p3), .val (.int p4), .val (.int p5), .val (.int nn), .val (.int lm), .val (.ref b7), .val (.int (0 : Int32))] [(.int (1 : Int32))])) t
                    refine XS.goto X79.here hx rfl (pc0 := 132) (pc' := 136) rfl (hb hby at_132) (by decide) (by decide) ?_
                    exact k
                  obtain ⟨fs, hr, hrun, hended, hW, hsame⟩ := X79.leave (v := some (.int (1 : Int32))) (fun h => by rw [Bd.returns] at h; cases h)
                  refine ⟨_, _, pre0 _ (P81 _ ?_), hrun, hended, _, _, rfl, ?_, ⟨_, rfl⟩, hW, hsame.mono (by decide) (by decide)⟩
                  · exact retN X79 hx (t := .boolean) Bd.returns (by simp) (hb hby at_136) hr
                  · show Q0 Z p1 p2 p3 p4 p5 wB kB h0 n0 _ T79.heap _
                    rw [e79]
                    exact ⟨rfl, N79⟩
              · have P82 : ∀ t, Steps p.tables e below (T25.setTop (mkF m 123 #[.val (.int p1), .val (.int p2), .val (.int p3), .val (.int p4), .val (.int p5), .val (.int nn), .val (.int lm), .val (.ref b7), .val (.int (0 : Int32))] [(.int lm), (.ref b7)])) t → Steps p.tables e below (s₁.setTop (mkF m 0 #[.val (.int p1), .val (.int p2), .val (.int p3), .val (.int p4), .val (.int p5), .unset, .unset, .unset, .unset] [])) t := fun t k => by
                  refine P70 t ?_
                  show Steps p.tables e below (T25.setTop (mkF m 98 #[.val (.int p1), .val (.int p2), .val (.int p3), .val (.int p4), .val (.int p5), .val (.int nn), .val (.int lm), .val (.ref b7), .unset] [(.int (187 : Int32)), (.int (p3 &&& (255 : Int32)))])) t
                  refine XS.icmpYes X25.here hx rfl (pc0 := 98) (pc' := 116) rfl (hb hby at_98) rfl (feq hc71).2 (by decide) (by decide) ?_
                  show Steps p.tables e below (T25.setTop (mkF m 116 #[.val (.int p1), .val (.int p2), .val (.int p3), .val (.int p4), .val (.int p5), .val (.int nn), .val (.int lm), .val (.ref b7), .unset] [])) t
                  refine XS.iconst X25.here hx rfl (hb hby at_116) ?_
                  show Steps p.tables e below (T25.setTop (mkF m 117 #[.val (.int p1), .val (.int p2), .val (.int p3), .val (.int p4), .val (.int p5), .val (.int nn), .val (.int lm), .val (.ref b7), .unset] [(.int (0 : Int32))])) t
                  refine XS.istore X25.here hx rfl (hb hby at_117) rfl (l' := #[.val (.int p1), .val (.int p2), .val (.int p3), .val (.int p4), .val (.int p5), .val (.int nn), .val (.int lm), .val (.ref b7), .val (.int (0 : Int32))]) rfl ?_
                  show Steps p.tables e below (T25.setTop (mkF m 119 #[.val (.int p1), .val (.int p2), .val (.int p3), .val (.int p4), .val (.int p5), .val (.int nn), .val (.int lm), .val (.ref b7), .val (.int (0 : Int32))] [])) t
                  refine XS.aload X25.here hx rfl (hb hby at_119) rfl rfl ?_
                  show Steps p.tables e below (T25.setTop (mkF m 121 #[.val (.int p1), .val (.int p2), .val (.int p3), .val (.int p4), .val (.int p5), .val (.int nn), .val (.int lm), .val (.ref b7), .val (.int (0 : Int32))] [(.ref b7)])) t
                  refine XS.iload X25.here hx rfl (hb hby at_121) rfl ?_
                  exact k
                obtain ⟨_, _, ⟨T83, L83, k83, n83⟩, -, X83, ⟨Lc83, hQ83, l83, y83, z83⟩, st83⟩ := Jvm.LawKit.callS X25 hx (y := (⟨"com/example/vestline/vestline/text/TextFile", "startsWithByteOrderMark", "([BI)Z"⟩ : MethodName)) hown (mvT hZ (hw _ (List.mem_of_getElem? (i := 5) rfl))) (mvT hZ (hw _ (List.mem_of_getElem? (i := 6) rfl))) (mvT hZ (hw _ (List.mem_of_getElem? (i := 7) rfl))) (mvT hZ (hw _ (List.mem_of_getElem? (i := 8) rfl))) (by decide) (backOf (W := 0) (rm2_1 l Z a0 hw [] b7 lm wB k7 kB nn ((p2.toInt8.toInt32).toInt8.toInt32) ((p3.toInt8.toInt32).toInt8.toInt32) ((p4.toInt8.toInt32).toInt8.toInt32) (0 : Int32) h25 n0 Z_26 S_25 V_b7_25 VB_25 hc63 hc23 ((own_b0 p2).mp hc69) (fun q => hc71 ((own_b1 p3).mpr q))) hZ (hw _ (List.mem_of_getElem? (i := 8) rfl)) (hw _ (List.mem_of_getElem? (i := 7) rfl)) (by decide) (by decide)) (g := (mkF m 123 #[.val (.int p1), .val (.int p2), .val (.int p3), .val (.int p4), .val (.int p5), .val (.int nn), .val (.int lm), .val (.ref b7), .val (.int (0 : Int32))] [(.int lm), (.ref b7)])) rfl (by rw [hml]; rfl) (argsL := [(.ref b7), (.int lm)]) (rest := []) (lenOf pd___BI_Z rfl) rfl (by show 2 * 0 + _ ≤ _; exact Nat.le_of_eq rfl) (hb hby at_123) (fun _ _ => ⟨rfl, e25, (by decide : 1 + 0 ≤ _), (by decide : 7 + 0 ≤ _)⟩)
                dsimp only [Pt.U, Pt.locs, Pt.cells, Pt.slots] at X83 l83 y83 z83 st83 hQ83
                subst l83 y83 z83
                obtain ⟨rfl, N83q, e83⟩ := hQ83
                have N83 := Fr.app N25 N83q
                have P84 : ∀ t, Steps p.tables e below (T83.setTop (mkF m 126 #[.val (.int p1), .val (.int p2), .val (.int p3), .val (.int p4), .val (.int p5), .val (.int nn), .val (.int lm), .val (.ref b7), .val (.int (0 : Int32))] [(.int (0 : Int32))])) t → Steps p.tables e below (s₁.setTop (mkF m 0 #[.val (.int p1), .val (.int p2), .val (.int p3), .val (.int p4), .val (.int p5), .unset, .unset, .unset, .unset] [])) t := fun t k => P82 t (st83 _ k)
                have P85 : ∀ t, Steps p.tables e below (T83.setTop (mkF m 136 #[.val (.int p1), .val (.int p2), .val (.int p3), .val (.int p4), .val (.int p5), .val (.int nn), .val (.int lm), .val (.ref b7), .val (.int (0 : Int32))] [(.int (1 : Int32))])) t → Steps p.tables e below (s₁.setTop (mkF m 0 #[.val (.int p1), .val (.int p2), .val (.int p3), .val (.int p4), .val (.int p5), .unset, .unset, .unset, .unset] [])) t := fun t k => by
                  refine P84 t ?_
                  show Steps p.tables e below (T83.setTop (mkF m 126 #[.val (.int p1), .val (.int p2), .val (.int p3), .val (.int p4), .val (.int p5), .val (.int nn), .val (.int lm), .val (.ref b7), .val (.int (0 : Int32))] [(.int (0 : Int32))])) t
                  refine XS.iload X83.here hx rfl (hb hby at_126) rfl ?_
                  show Steps p.tables e below (T83.setTop (mkF m 128 #[.val (.int p1), .val (.int p2), .val (.int p3), .val (.int p4), .val (.int p5), .val (.int nn), .val (.int lm), .val (.ref b7), .val (.int (0 : Int32))] [(.int (0 : Int32)), (.int (0 : Int32))])) t
                  refine XS.icmpNo X83.here hx rfl (hb hby at_128) rfl (teq rfl).2 ?_
                  show Steps p.tables e below (T83.setTop (mkF m 131 #[.val (.int p1), .val (.int p2), .val (.int p3), .val (.int p4), .val (.int p5), .val (.int nn), .val (.int lm), .val (.ref b7), .val (.int (0 : Int32))] [])) t
                  refine XS.iconst X83.here hx rfl (hb hby at_131) ?_
                  show Steps p.tables e below (T83.setTop (mkF m 132 #[.val (.int p1), .val (.int p2), .val (.int p3), .val (.int p4), .val (.int p5), .val (.int nn), .val (.int lm), .val (.ref b7), .val (.int (0 : Int32))] [(.int (1 : Int32))])) t
                  refine XS.goto X83.here hx rfl (pc0 := 132) (pc' := 136) rfl (hb hby at_132) (by decide) (by decide) ?_
                  exact k
                obtain ⟨fs, hr, hrun, hended, hW, hsame⟩ := X83.leave (v := some (.int (1 : Int32))) (fun h => by rw [Bd.returns] at h; cases h)
                refine ⟨_, _, pre0 _ (P85 _ ?_), hrun, hended, _, _, rfl, ?_, ⟨_, rfl⟩, hW, hsame.mono (by decide) (by decide)⟩
                · exact retN X83 hx (t := .boolean) Bd.returns (by simp) (hb hby at_136) hr
                · show Q0 Z p1 p2 p3 p4 p5 wB kB h0 n0 _ T83.heap _
                  rw [e83]
                  exact ⟨rfl, N83⟩
            · have P86 : ∀ t, Steps p.tables e below (T25.setTop (mkF m 123 #[.val (.int p1), .val (.int p2), .val (.int p3), .val (.int p4), .val (.int p5), .val (.int nn), .val (.int lm), .val (.ref b7), .val (.int (0 : Int32))] [(.int lm), (.ref b7)])) t → Steps p.tables e below (s₁.setTop (mkF m 0 #[.val (.int p1), .val (.int p2), .val (.int p3), .val (.int p4), .val (.int p5), .unset, .unset, .unset, .unset] [])) t := fun t k => by
                refine P68 t ?_
                show Steps p.tables e below (T25.setTop (mkF m 87 #[.val (.int p1), .val (.int p2), .val (.int p3), .val (.int p4), .val (.int p5), .val (.int nn), .val (.int lm), .val (.ref b7), .unset] [(.int (239 : Int32)), (.int (p2 &&& (255 : Int32)))])) t
                refine XS.icmpYes X25.here hx rfl (pc0 := 87) (pc' := 116) rfl (hb hby at_87) rfl (feq hc69).2 (by decide) (by decide) ?_
                show Steps p.tables e below (T25.setTop (mkF m 116 #[.val (.int p1), .val (.int p2), .val (.int p3), .val (.int p4), .val (.int p5), .val (.int nn), .val (.int lm), .val (.ref b7), .unset] [])) t
                refine XS.iconst X25.here hx rfl (hb hby at_116) ?_
                show Steps p.tables e below (T25.setTop (mkF m 117 #[.val (.int p1), .val (.int p2), .val (.int p3), .val (.int p4), .val (.int p5), .val (.int nn), .val (.int lm), .val (.ref b7), .unset] [(.int (0 : Int32))])) t
                refine XS.istore X25.here hx rfl (hb hby at_117) rfl (l' := #[.val (.int p1), .val (.int p2), .val (.int p3), .val (.int p4), .val (.int p5), .val (.int nn), .val (.int lm), .val (.ref b7), .val (.int (0 : Int32))]) rfl ?_
                show Steps p.tables e below (T25.setTop (mkF m 119 #[.val (.int p1), .val (.int p2), .val (.int p3), .val (.int p4), .val (.int p5), .val (.int nn), .val (.int lm), .val (.ref b7), .val (.int (0 : Int32))] [])) t
                refine XS.aload X25.here hx rfl (hb hby at_119) rfl rfl ?_
                show Steps p.tables e below (T25.setTop (mkF m 121 #[.val (.int p1), .val (.int p2), .val (.int p3), .val (.int p4), .val (.int p5), .val (.int nn), .val (.int lm), .val (.ref b7), .val (.int (0 : Int32))] [(.ref b7)])) t
                refine XS.iload X25.here hx rfl (hb hby at_121) rfl ?_
                exact k
              obtain ⟨_, _, ⟨T87, L87, k87, n87⟩, -, X87, ⟨Lc87, hQ87, l87, y87, z87⟩, st87⟩ := Jvm.LawKit.callS X25 hx (y := (⟨"com/example/vestline/vestline/text/TextFile", "startsWithByteOrderMark", "([BI)Z"⟩ : MethodName)) hown (mvT hZ (hw _ (List.mem_of_getElem? (i := 5) rfl))) (mvT hZ (hw _ (List.mem_of_getElem? (i := 6) rfl))) (mvT hZ (hw _ (List.mem_of_getElem? (i := 7) rfl))) (mvT hZ (hw _ (List.mem_of_getElem? (i := 8) rfl))) (by decide) (backOf (W := 0) (rm2_0 l Z a0 hw [] b7 lm wB k7 kB nn ((p2.toInt8.toInt32).toInt8.toInt32) ((p3.toInt8.toInt32).toInt8.toInt32) ((p4.toInt8.toInt32).toInt8.toInt32) (0 : Int32) h25 n0 Z_26 S_25 V_b7_25 VB_25 hc63 hc23 (fun q => hc69 ((own_b0 p2).mpr q))) hZ (hw _ (List.mem_of_getElem? (i := 8) rfl)) (hw _ (List.mem_of_getElem? (i := 7) rfl)) (by decide) (by decide)) (g := (mkF m 123 #[.val (.int p1), .val (.int p2), .val (.int p3), .val (.int p4), .val (.int p5), .val (.int nn), .val (.int lm), .val (.ref b7), .val (.int (0 : Int32))] [(.int lm), (.ref b7)])) rfl (by rw [hml]; rfl) (argsL := [(.ref b7), (.int lm)]) (rest := []) (lenOf pd___BI_Z rfl) rfl (by show 2 * 0 + _ ≤ _; exact Nat.le_of_eq rfl) (hb hby at_123) (fun _ _ => ⟨rfl, e25, (by decide : 1 + 0 ≤ _), (by decide : 7 + 0 ≤ _)⟩)
              dsimp only [Pt.U, Pt.locs, Pt.cells, Pt.slots] at X87 l87 y87 z87 st87 hQ87
              subst l87 y87 z87
              obtain ⟨rfl, N87q, e87⟩ := hQ87
              have N87 := Fr.app N25 N87q
              have P88 : ∀ t, Steps p.tables e below (T87.setTop (mkF m 126 #[.val (.int p1), .val (.int p2), .val (.int p3), .val (.int p4), .val (.int p5), .val (.int nn), .val (.int lm), .val (.ref b7), .val (.int (0 : Int32))] [(.int (0 : Int32))])) t → Steps p.tables e below (s₁.setTop (mkF m 0 #[.val (.int p1), .val (.int p2), .val (.int p3), .val (.int p4), .val (.int p5), .unset, .unset, .unset, .unset] [])) t := fun t k => P86 t (st87 _ k)
              have P89 : ∀ t, Steps p.tables e below (T87.setTop (mkF m 136 #[.val (.int p1), .val (.int p2), .val (.int p3), .val (.int p4), .val (.int p5), .val (.int nn), .val (.int lm), .val (.ref b7), .val (.int (0 : Int32))] [(.int (1 : Int32))])) t → Steps p.tables e below (s₁.setTop (mkF m 0 #[.val (.int p1), .val (.int p2), .val (.int p3), .val (.int p4), .val (.int p5), .unset, .unset, .unset, .unset] [])) t := fun t k => by
                refine P88 t ?_
                show Steps p.tables e below (T87.setTop (mkF m 126 #[.val (.int p1), .val (.int p2), .val (.int p3), .val (.int p4), .val (.int p5), .val (.int nn), .val (.int lm), .val (.ref b7), .val (.int (0 : Int32))] [(.int (0 : Int32))])) t
                refine XS.iload X87.here hx rfl (hb hby at_126) rfl ?_
                show Steps p.tables e below (T87.setTop (mkF m 128 #[.val (.int p1), .val (.int p2), .val (.int p3), .val (.int p4), .val (.int p5), .val (.int nn), .val (.int lm), .val (.ref b7), .val (.int (0 : Int32))] [(.int (0 : Int32)), (.int (0 : Int32))])) t
                refine XS.icmpNo X87.here hx rfl (hb hby at_128) rfl (teq rfl).2 ?_
                show Steps p.tables e below (T87.setTop (mkF m 131 #[.val (.int p1), .val (.int p2), .val (.int p3), .val (.int p4), .val (.int p5), .val (.int nn), .val (.int lm), .val (.ref b7), .val (.int (0 : Int32))] [])) t
                refine XS.iconst X87.here hx rfl (hb hby at_131) ?_
                show Steps p.tables e below (T87.setTop (mkF m 132 #[.val (.int p1), .val (.int p2), .val (.int p3), .val (.int p4), .val (.int p5), .val (.int nn), .val (.int lm), .val (.ref b7), .val (.int (0 : Int32))] [(.int (1 : Int32))])) t
                refine XS.goto X87.here hx rfl (pc0 := 132) (pc' := 136) rfl (hb hby at_132) (by decide) (by decide) ?_
                exact k
              obtain ⟨fs, hr, hrun, hended, hW, hsame⟩ := X87.leave (v := some (.int (1 : Int32))) (fun h => by rw [Bd.returns] at h; cases h)
              refine ⟨_, _, pre0 _ (P89 _ ?_), hrun, hended, _, _, rfl, ?_, ⟨_, rfl⟩, hW, hsame.mono (by decide) (by decide)⟩
              · exact retN X87 hx (t := .boolean) Bd.returns (by simp) (hb hby at_136) hr
              · show Q0 Z p1 p2 p3 p4 p5 wB kB h0 n0 _ T87.heap _
                rw [e87]
                exact ⟨rfl, N87⟩
      · have hno3_2 : ¬ (3 : Int32) < nn := fun q => hc23 (by rw [Int32.lt_iff_toInt_lt] at *; have : (3 : Int32).toInt = 3 := rfl; have : (2 : Int32).toInt = 2 := rfl; omega)
        have hlm : lm < 3 := by rw [hv_lm]; exact own_minlt hc23
        have P90 : ∀ t, Steps p.tables e below (T19.setTop (mkF m 123 #[.val (.int p1), .val (.int p2), .val (.int p3), .val (.int p4), .val (.int p5), .val (.int nn), .val (.int lm), .val (.ref b7), .val (.int (0 : Int32))] [(.int lm), (.ref b7)])) t → Steps p.tables e below (s₁.setTop (mkF m 0 #[.val (.int p1), .val (.int p2), .val (.int p3), .val (.int p4), .val (.int p5), .unset, .unset, .unset, .unset] [])) t := fun t k => by
          refine P22 t ?_
          show Steps p.tables e below (T19.setTop (mkF m 51 #[.val (.int p1), .val (.int p2), .val (.int p3), .val (.int p4), .val (.int p5), .val (.int nn), .val (.int lm), .val (.ref b7), .unset] [(.int (2 : Int32)), (.int nn)])) t
          refine XS.icmpYes X19.here hx rfl (pc0 := 51) (pc' := 60) rfl (hb hby at_51) rfl (flt hc23).2.2.2 (by decide) (by decide) ?_
          show Steps p.tables e below (T19.setTop (mkF m 60 #[.val (.int p1), .val (.int p2), .val (.int p3), .val (.int p4), .val (.int p5), .val (.int nn), .val (.int lm), .val (.ref b7), .unset] [])) t
          refine XS.iload X19.here hx rfl (hb hby at_60) rfl ?_
          show Steps p.tables e below (T19.setTop (mkF m 62 #[.val (.int p1), .val (.int p2), .val (.int p3), .val (.int p4), .val (.int p5), .val (.int nn), .val (.int lm), .val (.ref b7), .unset] [(.int nn)])) t
          refine XS.iconst X19.here hx rfl (hb hby at_62) ?_
          show Steps p.tables e below (T19.setTop (mkF m 63 #[.val (.int p1), .val (.int p2), .val (.int p3), .val (.int p4), .val (.int p5), .val (.int nn), .val (.int lm), .val (.ref b7), .unset] [(.int (3 : Int32)), (.int nn)])) t
          refine XS.icmpYes X19.here hx rfl (pc0 := 63) (pc' := 73) rfl (hb hby at_63) rfl (flt hno3_2).2.2.2 (by decide) (by decide) ?_
          show Steps p.tables e below (T19.setTop (mkF m 73 #[.val (.int p1), .val (.int p2), .val (.int p3), .val (.int p4), .val (.int p5), .val (.int nn), .val (.int lm), .val (.ref b7), .unset] [])) t
          refine XS.iload X19.here hx rfl (hb hby at_73) rfl ?_
          show Steps p.tables e below (T19.setTop (mkF m 75 #[.val (.int p1), .val (.int p2), .val (.int p3), .val (.int p4), .val (.int p5), .val (.int nn), .val (.int lm), .val (.ref b7), .unset] [(.int lm)])) t
          refine XS.iconst X19.here hx rfl (hb hby at_75) ?_
          show Steps p.tables e below (T19.setTop (mkF m 76 #[.val (.int p1), .val (.int p2), .val (.int p3), .val (.int p4), .val (.int p5), .val (.int nn), .val (.int lm), .val (.ref b7), .unset] [(.int (3 : Int32)), (.int lm)])) t
          refine XS.icmpYes X19.here hx rfl (pc0 := 76) (pc' := 116) rfl (hb hby at_76) rfl (tlt hlm).1 (by decide) (by decide) ?_
          show Steps p.tables e below (T19.setTop (mkF m 116 #[.val (.int p1), .val (.int p2), .val (.int p3), .val (.int p4), .val (.int p5), .val (.int nn), .val (.int lm), .val (.ref b7), .unset] [])) t
          refine XS.iconst X19.here hx rfl (hb hby at_116) ?_
          show Steps p.tables e below (T19.setTop (mkF m 117 #[.val (.int p1), .val (.int p2), .val (.int p3), .val (.int p4), .val (.int p5), .val (.int nn), .val (.int lm), .val (.ref b7), .unset] [(.int (0 : Int32))])) t
          refine XS.istore X19.here hx rfl (hb hby at_117) rfl (l' := #[.val (.int p1), .val (.int p2), .val (.int p3), .val (.int p4), .val (.int p5), .val (.int nn), .val (.int lm), .val (.ref b7), .val (.int (0 : Int32))]) rfl ?_
          show Steps p.tables e below (T19.setTop (mkF m 119 #[.val (.int p1), .val (.int p2), .val (.int p3), .val (.int p4), .val (.int p5), .val (.int nn), .val (.int lm), .val (.ref b7), .val (.int (0 : Int32))] [])) t
          refine XS.aload X19.here hx rfl (hb hby at_119) rfl rfl ?_
          show Steps p.tables e below (T19.setTop (mkF m 121 #[.val (.int p1), .val (.int p2), .val (.int p3), .val (.int p4), .val (.int p5), .val (.int nn), .val (.int lm), .val (.ref b7), .val (.int (0 : Int32))] [(.ref b7)])) t
          refine XS.iload X19.here hx rfl (hb hby at_121) rfl ?_
          exact k
        obtain ⟨_, _, ⟨T91, L91, k91, n91⟩, -, X91, ⟨Lc91, hQ91, l91, y91, z91⟩, st91⟩ := Jvm.LawKit.callS X19 hx (y := (⟨"com/example/vestline/vestline/text/TextFile", "startsWithByteOrderMark", "([BI)Z"⟩ : MethodName)) hown (mvT hZ (hw _ (List.mem_of_getElem? (i := 5) rfl))) (mvT hZ (hw _ (List.mem_of_getElem? (i := 6) rfl))) (mvT hZ (hw _ (List.mem_of_getElem? (i := 7) rfl))) (mvT hZ (hw _ (List.mem_of_getElem? (i := 8) rfl))) (by decide) (backOf (W := 0) (rm2_z l Z a0 hw [] b7 lm h19 n0 Z_20 hlm) hZ (hw _ (List.mem_of_getElem? (i := 8) rfl)) (hw _ (List.mem_of_getElem? (i := 7) rfl)) (by decide) (by decide)) (g := (mkF m 123 #[.val (.int p1), .val (.int p2), .val (.int p3), .val (.int p4), .val (.int p5), .val (.int nn), .val (.int lm), .val (.ref b7), .val (.int (0 : Int32))] [(.int lm), (.ref b7)])) rfl (by rw [hml]; rfl) (argsL := [(.ref b7), (.int lm)]) (rest := []) (lenOf pd___BI_Z rfl) rfl (by show 2 * 0 + _ ≤ _; exact Nat.le_of_eq rfl) (hb hby at_123) (fun _ _ => ⟨rfl, e19, (by decide : 1 + 0 ≤ _), (by decide : 7 + 0 ≤ _)⟩)
        dsimp only [Pt.U, Pt.locs, Pt.cells, Pt.slots] at X91 l91 y91 z91 st91 hQ91
        subst l91 y91 z91
        obtain ⟨rfl, N91q, e91⟩ := hQ91
        have N91 := Fr.app N19 N91q
        have P92 : ∀ t, Steps p.tables e below (T91.setTop (mkF m 126 #[.val (.int p1), .val (.int p2), .val (.int p3), .val (.int p4), .val (.int p5), .val (.int nn), .val (.int lm), .val (.ref b7), .val (.int (0 : Int32))] [(.int (0 : Int32))])) t → Steps p.tables e below (s₁.setTop (mkF m 0 #[.val (.int p1), .val (.int p2), .val (.int p3), .val (.int p4), .val (.int p5), .unset, .unset, .unset, .unset] [])) t := fun t k => P90 t (st91 _ k)
        have P93 : ∀ t, Steps p.tables e below (T91.setTop (mkF m 136 #[.val (.int p1), .val (.int p2), .val (.int p3), .val (.int p4), .val (.int p5), .val (.int nn), .val (.int lm), .val (.ref b7), .val (.int (0 : Int32))] [(.int (1 : Int32))])) t → Steps p.tables e below (s₁.setTop (mkF m 0 #[.val (.int p1), .val (.int p2), .val (.int p3), .val (.int p4), .val (.int p5), .unset, .unset, .unset, .unset] [])) t := fun t k => by
          refine P92 t ?_
          show Steps p.tables e below (T91.setTop (mkF m 126 #[.val (.int p1), .val (.int p2), .val (.int p3), .val (.int p4), .val (.int p5), .val (.int nn), .val (.int lm), .val (.ref b7), .val (.int (0 : Int32))] [(.int (0 : Int32))])) t
          refine XS.iload X91.here hx rfl (hb hby at_126) rfl ?_
          show Steps p.tables e below (T91.setTop (mkF m 128 #[.val (.int p1), .val (.int p2), .val (.int p3), .val (.int p4), .val (.int p5), .val (.int nn), .val (.int lm), .val (.ref b7), .val (.int (0 : Int32))] [(.int (0 : Int32)), (.int (0 : Int32))])) t
          refine XS.icmpNo X91.here hx rfl (hb hby at_128) rfl (teq rfl).2 ?_
          show Steps p.tables e below (T91.setTop (mkF m 131 #[.val (.int p1), .val (.int p2), .val (.int p3), .val (.int p4), .val (.int p5), .val (.int nn), .val (.int lm), .val (.ref b7), .val (.int (0 : Int32))] [])) t
          refine XS.iconst X91.here hx rfl (hb hby at_131) ?_
          show Steps p.tables e below (T91.setTop (mkF m 132 #[.val (.int p1), .val (.int p2), .val (.int p3), .val (.int p4), .val (.int p5), .val (.int nn), .val (.int lm), .val (.ref b7), .val (.int (0 : Int32))] [(.int (1 : Int32))])) t
          refine XS.goto X91.here hx rfl (pc0 := 132) (pc' := 136) rfl (hb hby at_132) (by decide) (by decide) ?_
          exact k
        obtain ⟨fs, hr, hrun, hended, hW, hsame⟩ := X91.leave (v := some (.int (1 : Int32))) (fun h => by rw [Bd.returns] at h; cases h)
        refine ⟨_, _, pre0 _ (P93 _ ?_), hrun, hended, _, _, rfl, ?_, ⟨_, rfl⟩, hW, hsame.mono (by decide) (by decide)⟩
        · exact retN X91 hx (t := .boolean) Bd.returns (by simp) (hb hby at_136) hr
        · show Q0 Z p1 p2 p3 p4 p5 wB kB h0 n0 _ T91.heap _
          rw [e91]
          exact ⟨rfl, N91⟩
    · have hno2_1 : ¬ (2 : Int32) < nn := fun q => hc17 (by rw [Int32.lt_iff_toInt_lt] at *; have : (2 : Int32).toInt = 2 := rfl; have : (1 : Int32).toInt = 1 := rfl; omega)
      have hno3_1 : ¬ (3 : Int32) < nn := fun q => hc17 (by rw [Int32.lt_iff_toInt_lt] at *; have : (3 : Int32).toInt = 3 := rfl; have : (1 : Int32).toInt = 1 := rfl; omega)
      have hlm : lm < 3 := by rw [hv_lm]; exact own_minlt hno2_1
      have P94 : ∀ t, Steps p.tables e below (T13.setTop (mkF m 123 #[.val (.int p1), .val (.int p2), .val (.int p3), .val (.int p4), .val (.int p5), .val (.int nn), .val (.int lm), .val (.ref b7), .val (.int (0 : Int32))] [(.int lm), (.ref b7)])) t → Steps p.tables e below (s₁.setTop (mkF m 0 #[.val (.int p1), .val (.int p2), .val (.int p3), .val (.int p4), .val (.int p5), .unset, .unset, .unset, .unset] [])) t := fun t k => by
        refine P16 t ?_
        show Steps p.tables e below (T13.setTop (mkF m 39 #[.val (.int p1), .val (.int p2), .val (.int p3), .val (.int p4), .val (.int p5), .val (.int nn), .val (.int lm), .val (.ref b7), .unset] [(.int (1 : Int32)), (.int nn)])) t
        refine XS.icmpYes X13.here hx rfl (pc0 := 39) (pc' := 48) rfl (hb hby at_39) rfl (flt hc17).2.2.2 (by decide) (by decide) ?_
        show Steps p.tables e below (T13.setTop (mkF m 48 #[.val (.int p1), .val (.int p2), .val (.int p3), .val (.int p4), .val (.int p5), .val (.int nn), .val (.int lm), .val (.ref b7), .unset] [])) t
        refine XS.iload X13.here hx rfl (hb hby at_48) rfl ?_
        show Steps p.tables e below (T13.setTop (mkF m 50 #[.val (.int p1), .val (.int p2), .val (.int p3), .val (.int p4), .val (.int p5), .val (.int nn), .val (.int lm), .val (.ref b7), .unset] [(.int nn)])) t
        refine XS.iconst X13.here hx rfl (hb hby at_50) ?_
        show Steps p.tables e below (T13.setTop (mkF m 51 #[.val (.int p1), .val (.int p2), .val (.int p3), .val (.int p4), .val (.int p5), .val (.int nn), .val (.int lm), .val (.ref b7), .unset] [(.int (2 : Int32)), (.int nn)])) t
        refine XS.icmpYes X13.here hx rfl (pc0 := 51) (pc' := 60) rfl (hb hby at_51) rfl (flt hno2_1).2.2.2 (by decide) (by decide) ?_
        show Steps p.tables e below (T13.setTop (mkF m 60 #[.val (.int p1), .val (.int p2), .val (.int p3), .val (.int p4), .val (.int p5), .val (.int nn), .val (.int lm), .val (.ref b7), .unset] [])) t
        refine XS.iload X13.here hx rfl (hb hby at_60) rfl ?_
        show Steps p.tables e below (T13.setTop (mkF m 62 #[.val (.int p1), .val (.int p2), .val (.int p3), .val (.int p4), .val (.int p5), .val (.int nn), .val (.int lm), .val (.ref b7), .unset] [(.int nn)])) t
        refine XS.iconst X13.here hx rfl (hb hby at_62) ?_
        show Steps p.tables e below (T13.setTop (mkF m 63 #[.val (.int p1), .val (.int p2), .val (.int p3), .val (.int p4), .val (.int p5), .val (.int nn), .val (.int lm), .val (.ref b7), .unset] [(.int (3 : Int32)), (.int nn)])) t
        refine XS.icmpYes X13.here hx rfl (pc0 := 63) (pc' := 73) rfl (hb hby at_63) rfl (flt hno3_1).2.2.2 (by decide) (by decide) ?_
        show Steps p.tables e below (T13.setTop (mkF m 73 #[.val (.int p1), .val (.int p2), .val (.int p3), .val (.int p4), .val (.int p5), .val (.int nn), .val (.int lm), .val (.ref b7), .unset] [])) t
        refine XS.iload X13.here hx rfl (hb hby at_73) rfl ?_
        show Steps p.tables e below (T13.setTop (mkF m 75 #[.val (.int p1), .val (.int p2), .val (.int p3), .val (.int p4), .val (.int p5), .val (.int nn), .val (.int lm), .val (.ref b7), .unset] [(.int lm)])) t
        refine XS.iconst X13.here hx rfl (hb hby at_75) ?_
        show Steps p.tables e below (T13.setTop (mkF m 76 #[.val (.int p1), .val (.int p2), .val (.int p3), .val (.int p4), .val (.int p5), .val (.int nn), .val (.int lm), .val (.ref b7), .unset] [(.int (3 : Int32)), (.int lm)])) t
        refine XS.icmpYes X13.here hx rfl (pc0 := 76) (pc' := 116) rfl (hb hby at_76) rfl (tlt hlm).1 (by decide) (by decide) ?_
        show Steps p.tables e below (T13.setTop (mkF m 116 #[.val (.int p1), .val (.int p2), .val (.int p3), .val (.int p4), .val (.int p5), .val (.int nn), .val (.int lm), .val (.ref b7), .unset] [])) t
        refine XS.iconst X13.here hx rfl (hb hby at_116) ?_
        show Steps p.tables e below (T13.setTop (mkF m 117 #[.val (.int p1), .val (.int p2), .val (.int p3), .val (.int p4), .val (.int p5), .val (.int nn), .val (.int lm), .val (.ref b7), .unset] [(.int (0 : Int32))])) t
        refine XS.istore X13.here hx rfl (hb hby at_117) rfl (l' := #[.val (.int p1), .val (.int p2), .val (.int p3), .val (.int p4), .val (.int p5), .val (.int nn), .val (.int lm), .val (.ref b7), .val (.int (0 : Int32))]) rfl ?_
        show Steps p.tables e below (T13.setTop (mkF m 119 #[.val (.int p1), .val (.int p2), .val (.int p3), .val (.int p4), .val (.int p5), .val (.int nn), .val (.int lm), .val (.ref b7), .val (.int (0 : Int32))] [])) t
        refine XS.aload X13.here hx rfl (hb hby at_119) rfl rfl ?_
        show Steps p.tables e below (T13.setTop (mkF m 121 #[.val (.int p1), .val (.int p2), .val (.int p3), .val (.int p4), .val (.int p5), .val (.int nn), .val (.int lm), .val (.ref b7), .val (.int (0 : Int32))] [(.ref b7)])) t
        refine XS.iload X13.here hx rfl (hb hby at_121) rfl ?_
        exact k
      obtain ⟨_, _, ⟨T95, L95, k95, n95⟩, -, X95, ⟨Lc95, hQ95, l95, y95, z95⟩, st95⟩ := Jvm.LawKit.callS X13 hx (y := (⟨"com/example/vestline/vestline/text/TextFile", "startsWithByteOrderMark", "([BI)Z"⟩ : MethodName)) hown (mvT hZ (hw _ (List.mem_of_getElem? (i := 5) rfl))) (mvT hZ (hw _ (List.mem_of_getElem? (i := 6) rfl))) (mvT hZ (hw _ (List.mem_of_getElem? (i := 7) rfl))) (mvT hZ (hw _ (List.mem_of_getElem? (i := 8) rfl))) (by decide) (backOf (W := 0) (rm2_z l Z a0 hw [] b7 lm h13 n0 Z_14 hlm) hZ (hw _ (List.mem_of_getElem? (i := 8) rfl)) (hw _ (List.mem_of_getElem? (i := 7) rfl)) (by decide) (by decide)) (g := (mkF m 123 #[.val (.int p1), .val (.int p2), .val (.int p3), .val (.int p4), .val (.int p5), .val (.int nn), .val (.int lm), .val (.ref b7), .val (.int (0 : Int32))] [(.int lm), (.ref b7)])) rfl (by rw [hml]; rfl) (argsL := [(.ref b7), (.int lm)]) (rest := []) (lenOf pd___BI_Z rfl) rfl (by show 2 * 0 + _ ≤ _; exact Nat.le_of_eq rfl) (hb hby at_123) (fun _ _ => ⟨rfl, e13, (by decide : 1 + 0 ≤ _), (by decide : 7 + 0 ≤ _)⟩)
      dsimp only [Pt.U, Pt.locs, Pt.cells, Pt.slots] at X95 l95 y95 z95 st95 hQ95
      subst l95 y95 z95
      obtain ⟨rfl, N95q, e95⟩ := hQ95
      have N95 := Fr.app N13 N95q
      have P96 : ∀ t, Steps p.tables e below (T95.setTop (mkF m 126 #[.val (.int p1), .val (.int p2), .val (.int p3), .val (.int p4), .val (.int p5), .val (.int nn), .val (.int lm), .val (.ref b7), .val (.int (0 : Int32))] [(.int (0 : Int32))])) t → Steps p.tables e below (s₁.setTop (mkF m 0 #[.val (.int p1), .val (.int p2), .val (.int p3), .val (.int p4), .val (.int p5), .unset, .unset, .unset, .unset] [])) t := fun t k => P94 t (st95 _ k)
      have P97 : ∀ t, Steps p.tables e below (T95.setTop (mkF m 136 #[.val (.int p1), .val (.int p2), .val (.int p3), .val (.int p4), .val (.int p5), .val (.int nn), .val (.int lm), .val (.ref b7), .val (.int (0 : Int32))] [(.int (1 : Int32))])) t → Steps p.tables e below (s₁.setTop (mkF m 0 #[.val (.int p1), .val (.int p2), .val (.int p3), .val (.int p4), .val (.int p5), .unset, .unset, .unset, .unset] [])) t := fun t k => by
        refine P96 t ?_
        show Steps p.tables e below (T95.setTop (mkF m 126 #[.val (.int p1), .val (.int p2), .val (.int p3), .val (.int p4), .val (.int p5), .val (.int nn), .val (.int lm), .val (.ref b7), .val (.int (0 : Int32))] [(.int (0 : Int32))])) t
        refine XS.iload X95.here hx rfl (hb hby at_126) rfl ?_
        show Steps p.tables e below (T95.setTop (mkF m 128 #[.val (.int p1), .val (.int p2), .val (.int p3), .val (.int p4), .val (.int p5), .val (.int nn), .val (.int lm), .val (.ref b7), .val (.int (0 : Int32))] [(.int (0 : Int32)), (.int (0 : Int32))])) t
        refine XS.icmpNo X95.here hx rfl (hb hby at_128) rfl (teq rfl).2 ?_
        show Steps p.tables e below (T95.setTop (mkF m 131 #[.val (.int p1), .val (.int p2), .val (.int p3), .val (.int p4), .val (.int p5), .val (.int nn), .val (.int lm), .val (.ref b7), .val (.int (0 : Int32))] [])) t
        refine XS.iconst X95.here hx rfl (hb hby at_131) ?_
        show Steps p.tables e below (T95.setTop (mkF m 132 #[.val (.int p1), .val (.int p2), .val (.int p3), .val (.int p4), .val (.int p5), .val (.int nn), .val (.int lm), .val (.ref b7), .val (.int (0 : Int32))] [(.int (1 : Int32))])) t
        refine XS.goto X95.here hx rfl (pc0 := 132) (pc' := 136) rfl (hb hby at_132) (by decide) (by decide) ?_
        exact k
      obtain ⟨fs, hr, hrun, hended, hW, hsame⟩ := X95.leave (v := some (.int (1 : Int32))) (fun h => by rw [Bd.returns] at h; cases h)
      refine ⟨_, _, pre0 _ (P97 _ ?_), hrun, hended, _, _, rfl, ?_, ⟨_, rfl⟩, hW, hsame.mono (by decide) (by decide)⟩
      · exact retN X95 hx (t := .boolean) Bd.returns (by simp) (hb hby at_136) hr
      · show Q0 Z p1 p2 p3 p4 p5 wB kB h0 n0 _ T95.heap _
        rw [e95]
        exact ⟨rfl, N95⟩
  · have hno1_0 : ¬ (1 : Int32) < nn := fun q => hc11 (by rw [Int32.lt_iff_toInt_lt] at *; have : (1 : Int32).toInt = 1 := rfl; have : (0 : Int32).toInt = 0 := rfl; omega)
    have hno2_0 : ¬ (2 : Int32) < nn := fun q => hc11 (by rw [Int32.lt_iff_toInt_lt] at *; have : (2 : Int32).toInt = 2 := rfl; have : (0 : Int32).toInt = 0 := rfl; omega)
    have hno3_0 : ¬ (3 : Int32) < nn := fun q => hc11 (by rw [Int32.lt_iff_toInt_lt] at *; have : (3 : Int32).toInt = 3 := rfl; have : (0 : Int32).toInt = 0 := rfl; omega)
    have hlm : lm < 3 := by rw [hv_lm]; exact own_minlt hno2_0
    have P98 : ∀ t, Steps p.tables e below (T7.setTop (mkF m 123 #[.val (.int p1), .val (.int p2), .val (.int p3), .val (.int p4), .val (.int p5), .val (.int nn), .val (.int lm), .val (.ref b7), .val (.int (0 : Int32))] [(.int lm), (.ref b7)])) t → Steps p.tables e below (s₁.setTop (mkF m 0 #[.val (.int p1), .val (.int p2), .val (.int p3), .val (.int p4), .val (.int p5), .unset, .unset, .unset, .unset] [])) t := fun t k => by
      refine P10 t ?_
      show Steps p.tables e below (T7.setTop (mkF m 27 #[.val (.int p1), .val (.int p2), .val (.int p3), .val (.int p4), .val (.int p5), .val (.int nn), .val (.int lm), .val (.ref b7), .unset] [(.int nn)])) t
      refine XS.ifYes X7.here hx rfl (pc0 := 27) (pc' := 36) rfl (hb hby at_27) rfl ((if0 _ _).trans (flt hc11).2.2.2) (by decide) (by decide) ?_
      show Steps p.tables e below (T7.setTop (mkF m 36 #[.val (.int p1), .val (.int p2), .val (.int p3), .val (.int p4), .val (.int p5), .val (.int nn), .val (.int lm), .val (.ref b7), .unset] [])) t
      refine XS.iload X7.here hx rfl (hb hby at_36) rfl ?_
      show Steps p.tables e below (T7.setTop (mkF m 38 #[.val (.int p1), .val (.int p2), .val (.int p3), .val (.int p4), .val (.int p5), .val (.int nn), .val (.int lm), .val (.ref b7), .unset] [(.int nn)])) t
      refine XS.iconst X7.here hx rfl (hb hby at_38) ?_
      show Steps p.tables e below (T7.setTop (mkF m 39 #[.val (.int p1), .val (.int p2), .val (.int p3), .val (.int p4), .val (.int p5), .val (.int nn), .val (.int lm), .val (.ref b7), .unset] [(.int (1 : Int32)), (.int nn)])) t
      refine XS.icmpYes X7.here hx rfl (pc0 := 39) (pc' := 48) rfl (hb hby at_39) rfl (flt hno1_0).2.2.2 (by decide) (by decide) ?_
      show Steps p.tables e below (T7.setTop (mkF m 48 #[.val (.int p1), .val (.int p2), .val (.int p3), .val (.int p4), .val (.int p5), .val (.int nn), .val (.int lm), .val (.ref b7), .unset] [])) t
      refine XS.iload X7.here hx rfl (hb hby at_48) rfl ?_
      show Steps p.tables e below (T7.setTop (mkF m 50 #[.val (.int p1), .val (.int p2), .val (.int p3), .val (.int p4), .val (.int p5), .val (.int nn), .val (.int lm), .val (.ref b7), .unset] [(.int nn)])) t
      refine XS.iconst X7.here hx rfl (hb hby at_50) ?_
      show Steps p.tables e below (T7.setTop (mkF m 51 #[.val (.int p1), .val (.int p2), .val (.int p3), .val (.int p4), .val (.int p5), .val (.int nn), .val (.int lm), .val (.ref b7), .unset] [(.int (2 : Int32)), (.int nn)])) t
      refine XS.icmpYes X7.here hx rfl (pc0 := 51) (pc' := 60) rfl (hb hby at_51) rfl (flt hno2_0).2.2.2 (by decide) (by decide) ?_
      show Steps p.tables e below (T7.setTop (mkF m 60 #[.val (.int p1), .val (.int p2), .val (.int p3), .val (.int p4), .val (.int p5), .val (.int nn), .val (.int lm), .val (.ref b7), .unset] [])) t
      refine XS.iload X7.here hx rfl (hb hby at_60) rfl ?_
      show Steps p.tables e below (T7.setTop (mkF m 62 #[.val (.int p1), .val (.int p2), .val (.int p3), .val (.int p4), .val (.int p5), .val (.int nn), .val (.int lm), .val (.ref b7), .unset] [(.int nn)])) t
      refine XS.iconst X7.here hx rfl (hb hby at_62) ?_
      show Steps p.tables e below (T7.setTop (mkF m 63 #[.val (.int p1), .val (.int p2), .val (.int p3), .val (.int p4), .val (.int p5), .val (.int nn), .val (.int lm), .val (.ref b7), .unset] [(.int (3 : Int32)), (.int nn)])) t
      refine XS.icmpYes X7.here hx rfl (pc0 := 63) (pc' := 73) rfl (hb hby at_63) rfl (flt hno3_0).2.2.2 (by decide) (by decide) ?_
      show Steps p.tables e below (T7.setTop (mkF m 73 #[.val (.int p1), .val (.int p2), .val (.int p3), .val (.int p4), .val (.int p5), .val (.int nn), .val (.int lm), .val (.ref b7), .unset] [])) t
      refine XS.iload X7.here hx rfl (hb hby at_73) rfl ?_
      show Steps p.tables e below (T7.setTop (mkF m 75 #[.val (.int p1), .val (.int p2), .val (.int p3), .val (.int p4), .val (.int p5), .val (.int nn), .val (.int lm), .val (.ref b7), .unset] [(.int lm)])) t
      refine XS.iconst X7.here hx rfl (hb hby at_75) ?_
      show Steps p.tables e below (T7.setTop (mkF m 76 #[.val (.int p1), .val (.int p2), .val (.int p3), .val (.int p4), .val (.int p5), .val (.int nn), .val (.int lm), .val (.ref b7), .unset] [(.int (3 : Int32)), (.int lm)])) t
      refine XS.icmpYes X7.here hx rfl (pc0 := 76) (pc' := 116) rfl (hb hby at_76) rfl (tlt hlm).1 (by decide) (by decide) ?_
      show Steps p.tables e below (T7.setTop (mkF m 116 #[.val (.int p1), .val (.int p2), .val (.int p3), .val (.int p4), .val (.int p5), .val (.int nn), .val (.int lm), .val (.ref b7), .unset] [])) t
      refine XS.iconst X7.here hx rfl (hb hby at_116) ?_
      show Steps p.tables e below (T7.setTop (mkF m 117 #[.val (.int p1), .val (.int p2), .val (.int p3), .val (.int p4), .val (.int p5), .val (.int nn), .val (.int lm), .val (.ref b7), .unset] [(.int (0 : Int32))])) t
      refine XS.istore X7.here hx rfl (hb hby at_117) rfl (l' := #[.val (.int p1), .val (.int p2), .val (.int p3), .val (.int p4), .val (.int p5), .val (.int nn), .val (.int lm), .val (.ref b7), .val (.int (0 : Int32))]) rfl ?_
      show Steps p.tables e below (T7.setTop (mkF m 119 #[.val (.int p1), .val (.int p2), .val (.int p3), .val (.int p4), .val (.int p5), .val (.int nn), .val (.int lm), .val (.ref b7), .val (.int (0 : Int32))] [])) t
      refine XS.aload X7.here hx rfl (hb hby at_119) rfl rfl ?_
      show Steps p.tables e below (T7.setTop (mkF m 121 #[.val (.int p1), .val (.int p2), .val (.int p3), .val (.int p4), .val (.int p5), .val (.int nn), .val (.int lm), .val (.ref b7), .val (.int (0 : Int32))] [(.ref b7)])) t
      refine XS.iload X7.here hx rfl (hb hby at_121) rfl ?_
      exact k
    obtain ⟨_, _, ⟨T99, L99, k99, n99⟩, -, X99, ⟨Lc99, hQ99, l99, y99, z99⟩, st99⟩ := Jvm.LawKit.callS X7 hx (y := (⟨"com/example/vestline/vestline/text/TextFile", "startsWithByteOrderMark", "([BI)Z"⟩ : MethodName)) hown (mvT hZ (hw _ (List.mem_of_getElem? (i := 5) rfl))) (mvT hZ (hw _ (List.mem_of_getElem? (i := 6) rfl))) (mvT hZ (hw _ (List.mem_of_getElem? (i := 7) rfl))) (mvT hZ (hw _ (List.mem_of_getElem? (i := 8) rfl))) (by decide) (backOf (W := 0) (rm2_z l Z a0 hw [] b7 lm h7 n0 Z_8 hlm) hZ (hw _ (List.mem_of_getElem? (i := 8) rfl)) (hw _ (List.mem_of_getElem? (i := 7) rfl)) (by decide) (by decide)) (g := (mkF m 123 #[.val (.int p1), .val (.int p2), .val (.int p3), .val (.int p4), .val (.int p5), .val (.int nn), .val (.int lm), .val (.ref b7), .val (.int (0 : Int32))] [(.int lm), (.ref b7)])) rfl (by rw [hml]; rfl) (argsL := [(.ref b7), (.int lm)]) (rest := []) (lenOf pd___BI_Z rfl) rfl (by show 2 * 0 + _ ≤ _; exact Nat.le_of_eq rfl) (hb hby at_123) (fun _ _ => ⟨rfl, e7, (by decide : 1 + 0 ≤ _), (by decide : 7 + 0 ≤ _)⟩)
    dsimp only [Pt.U, Pt.locs, Pt.cells, Pt.slots] at X99 l99 y99 z99 st99 hQ99
    subst l99 y99 z99
    obtain ⟨rfl, N99q, e99⟩ := hQ99
    have N99 := Fr.app N3 N99q
    have P100 : ∀ t, Steps p.tables e below (T99.setTop (mkF m 126 #[.val (.int p1), .val (.int p2), .val (.int p3), .val (.int p4), .val (.int p5), .val (.int nn), .val (.int lm), .val (.ref b7), .val (.int (0 : Int32))] [(.int (0 : Int32))])) t → Steps p.tables e below (s₁.setTop (mkF m 0 #[.val (.int p1), .val (.int p2), .val (.int p3), .val (.int p4), .val (.int p5), .unset, .unset, .unset, .unset] [])) t := fun t k => P98 t (st99 _ k)
    have P101 : ∀ t, Steps p.tables e below (T99.setTop (mkF m 136 #[.val (.int p1), .val (.int p2), .val (.int p3), .val (.int p4), .val (.int p5), .val (.int nn), .val (.int lm), .val (.ref b7), .val (.int (0 : Int32))] [(.int (1 : Int32))])) t → Steps p.tables e below (s₁.setTop (mkF m 0 #[.val (.int p1), .val (.int p2), .val (.int p3), .val (.int p4), .val (.int p5), .unset, .unset, .unset, .unset] [])) t := fun t k => by
      refine P100 t ?_
      show Steps p.tables e below (T99.setTop (mkF m 126 #[.val (.int p1), .val (.int p2), .val (.int p3), .val (.int p4), .val (.int p5), .val (.int nn), .val (.int lm), .val (.ref b7), .val (.int (0 : Int32))] [(.int (0 : Int32))])) t
      refine XS.iload X99.here hx rfl (hb hby at_126) rfl ?_
      show Steps p.tables e below (T99.setTop (mkF m 128 #[.val (.int p1), .val (.int p2), .val (.int p3), .val (.int p4), .val (.int p5), .val (.int nn), .val (.int lm), .val (.ref b7), .val (.int (0 : Int32))] [(.int (0 : Int32)), (.int (0 : Int32))])) t
      refine XS.icmpNo X99.here hx rfl (hb hby at_128) rfl (teq rfl).2 ?_
      show Steps p.tables e below (T99.setTop (mkF m 131 #[.val (.int p1), .val (.int p2), .val (.int p3), .val (.int p4), .val (.int p5), .val (.int nn), .val (.int lm), .val (.ref b7), .val (.int (0 : Int32))] [])) t
      refine XS.iconst X99.here hx rfl (hb hby at_131) ?_
      show Steps p.tables e below (T99.setTop (mkF m 132 #[.val (.int p1), .val (.int p2), .val (.int p3), .val (.int p4), .val (.int p5), .val (.int nn), .val (.int lm), .val (.ref b7), .val (.int (0 : Int32))] [(.int (1 : Int32))])) t
      refine XS.goto X99.here hx rfl (pc0 := 132) (pc' := 136) rfl (hb hby at_132) (by decide) (by decide) ?_
      exact k
    obtain ⟨fs, hr, hrun, hended, hW, hsame⟩ := X99.leave (v := some (.int (1 : Int32))) (fun h => by rw [Bd.returns] at h; cases h)
    refine ⟨_, _, pre0 _ (P101 _ ?_), hrun, hended, _, _, rfl, ?_, ⟨_, rfl⟩, hW, hsame.mono (by decide) (by decide)⟩
    · exact retN X99 hx (t := .boolean) Bd.returns (by simp) (hb hby at_136) hr
    · show Q0 Z p1 p2 p3 p4 p5 wB kB h0 n0 _ T99.heap _
      rw [e99]
      exact ⟨rfl, N99⟩
set_option maxRecDepth 65536 in
set_option maxHeartbeats 40000000 in
theorem comes_1 {Post : Tables → Env → Array Value → State → Outcome → State → Prop} (hpost : ∀ tb e args s v u, (limb_1_1.after args s (.returned v) u = true ∧ limb_1_2.after args s (.returned v) u = true ∧ True) → FrameEnd s (.returned v) u (Jvm.fieldLocs frame_1_writes args s ++ Jvm.arrayLocs frame_1_arrays args s ++ Jvm.staticLocs frame_1_statics s) 16 128 → Post tb e args s (.returned v) u) :
    ArmFor flags0 classFile x code maxLocals ret World_1 tables_1 room_1 Calls_1 rest_1 Pre_1 Post := by
  intro l hfl _ _ p e ha hc hk s m args below hf hA hF happ hP
  obtain ⟨hcalls, hrest, hpre⟩ := hP
  obtain ⟨-, -, -, hnamed, -, -, -, hat⟩ := (Spec.applies_iff hf).mp happ
  obtain ⟨hg, hn⟩ := and_e (Cond.before_iff.mp (show (Jvm.Cond.and given_1 narrow_1).before args s = true from hpre))
  obtain ⟨gc, gr0⟩ := and_e hg
  obtain ⟨ga0, gr1⟩ := and_e gr0
  obtain ⟨ga1, gr2⟩ := and_e gr1
  obtain ⟨ga2, gr3⟩ := and_e gr2
  obtain ⟨ga3, gr4⟩ := and_e gr3
  have ga4 := gr4
  obtain ⟨w0, w1, w2, w3, w4, rfl⟩ : ∃ w0 w1 w2 w3 w4 : Value, args = #[w0, w1, w2, w3, w4] := by
    have hs : args.size = 5 := by simpa [Cond.value, given_1] using gc
    obtain ⟨L⟩ := args
    match L, hs with
    | [w0, w1, w2, w3, w4], _ => exact ⟨w0, w1, w2, w3, w4, rfl⟩
  have hw := fun d (hd : d ∈ tables_1) => atoms_spec (ws := Jvm.Cond.code x code maxLocals ret :: tables_1) hat d (List.mem_cons_of_mem _ hd)
  have hfit : Fit s := fun {y c} hc i hi => by
    obtain ⟨ha, rfl⟩ := Array.getElem?_eq_some_iff.mp hc
    have q := List.all_eq_true.mp ((Array.all_eq_true_iff_forall_mem.mp hF) _ (Array.getElem_mem ha)) i (List.mem_range.mpr hi)
    simpa [Array.getElem?_eq_getElem hi] using q
  obtain ⟨i0, ei0⟩ := is_v ga0
  obtain rfl : w0 = (.int i0) := Option.some.inj ei0
  obtain ⟨i1, ei1⟩ := is_v ga1
  obtain rfl : w1 = (.int i1) := Option.some.inj ei1
  obtain ⟨i2, ei2⟩ := is_v ga2
  obtain rfl : w2 = (.int i2) := Option.some.inj ei2
  obtain ⟨i3, ei3⟩ := is_v ga3
  obtain rfl : w3 = (.int i3) := Option.some.inj ei3
  obtain ⟨i4, ei4⟩ := is_v ga4
  obtain rfl : w4 = (.int i4) := Option.some.inj ei4
  obtain ⟨xA, hn⟩ := and_e hn
  obtain ⟨xL, hn⟩ := and_e hn
  obtain ⟨x0, hn⟩ := and_e hn
  obtain ⟨x1, x2⟩ := and_e hn
  have eL := eqv_i (Term.int_eval _) xL
  obtain ⟨wB, evB⟩ := len_v eL
  obtain ⟨cB, AB⟩ := Arr.start evB xA
  have S_B := Sta.start evB (Or.inr ⟨(hw _ (List.mem_of_getElem? (i := 7) rfl)), (hw _ (List.mem_of_getElem? (i := 10) rfl))⟩)
  have aAt := AB.fin (Vm.Alike.refl _)
  have hsz : cB.slots.size < 2 ^ 31 := own_len evB aAt eL
  have hzl : cB.slots.size.toInt32 = 3 := Value.int.inj (Option.some.inj ((len_f evB aAt hsz).symm.trans eL))
  have g0 := (elem_f evB (Term.int_eval (0 : Int32)) aAt (by decide)).symm.trans (eqv_i (Term.int_eval _) x0)
  have g1 := (elem_f evB (Term.int_eval (1 : Int32)) aAt (by decide)).symm.trans (eqv_i (Term.int_eval _) x1)
  have g2 := (elem_f evB (Term.int_eval (2 : Int32)) aAt (by decide)).symm.trans (eqv_i (Term.int_eval _) x2)
  have VB : Arv s s.heap wB cB.cls .byte (3 : Int32) [(.int (-17 : Int32)), (.int (-69 : Int32)), (.int (-65 : Int32))] (.int (0 : Int32)) := Arv.start hfit AB hsz hzl (by decide) rfl ⟨g0, g1, g2, trivial⟩
  obtain ⟨n, o, h1, h2, h3, _, L, rfl, ⟨rfl, N⟩, hq⟩ := rm0 l s _ hw tables_1 i0 i1 i2 i3 i4 wB cB.cls s.heap s.heap.size (Nat.le_refl _) S_B VB p e ha hc hk s m _ below hf ((Spec.applies_iff_loose hf).mp happ).1 ⟨rfl, State.Warmed39.refl s, rfl⟩ trivial
  refine ⟨n, _, h1, h2, h3, hpost _ _ _ _ _ _ ⟨Cond.after_iff.mpr rfl, Cond.after_iff.mpr (eq_i res_at (Term.int_eval (1)) rfl), trivial⟩ ⟨hq.1, hq.2.1, (hq.2.2.sift fun y hy => Or.inr (N y hy)).mono (by decide) (by decide)⟩⟩
theorem main_1_1 : Claimed_1_1 := comes_1 fun _ _ _ _ _ _ h hF => ⟨h.1, hF⟩
theorem main_1_2 : Claimed_1_2 := comes_1 fun _ _ _ _ _ _ h hF => ⟨h.2.1, hF⟩
end Jvm.Pilot.@@N@@
namespace Jvm.Pilot.@@N@@
open Jvm Jvm.ClassFile Sem Op Lib Jvm.Free Jvm.Stand Jvm.Pilot.@@N@@.Jvm.D
/-! MADE BY PROGRAM (witnessworld.py) out of the Statement's table words and the real class files: 10 classes; the members and pool entries that the words name. The judged class is class 1, her method 1. -/
namespace start1
open Jvm.ClassFile
def u (s : String) : CpInfo := .utf8 (stringToUtf16 s)
/-- a pool by its gaps: so many unusable entries, then the entry; so many at the end -/
def gap : Nat → List CpInfo → List CpInfo
  | 0, r => r
  | n + 1, r => .unusable :: gap n r
def poolList (es : List (Nat × CpInfo)) (last : Nat) : List CpInfo := es.foldr (fun e r => gap e.1 (e.2 :: r)) (gap last [])
def pool (es : List (Nat × CpInfo)) (last : Nat) : Array CpInfo := ⟨poolList es last⟩
def fileOf (pool : Array CpInfo) (this : Nat) (attrs : Array Attribute := #[]) (ms : Array MethodInfo := #[]) (fl : Nat := 33) (sup : Nat := 0) (ifs : Array Nat := #[]) (fds : Array FieldInfo := #[]) : ClassFile where
  minorVersion := 0
  majorVersion := 65
  constantPool := pool
  accessFlags := fl
  thisClass := this
  superClass := sup
  interfaces := ifs
  fields := fds
  methods := ms
  attributes := attrs
def plain (name : String) (sup : Option ClassId) : Class where
  name := name
  kind := .ordinary
  loader := none
  accessFlags := 33
  super := sup
  interfaces := #[]
  cf := none
  fields := #[]
  methods := #[]
  instanceTypes := #[]
  staticTypes := #[]
  resolved := #[]
  callSites := []
  init := .initialized
  statics := none
  mirror := none

def pool0 : Array CpInfo := pool [(5, u "<init>"), (0, u "()V"), (1, .class_ 10), (1, u "java/lang/Object")] 113

def k0m0 : Method := { name := "<init>", desc := "()V", sig := { parameters := [], returnType := none }, accessFlags := 1, code := none }
/-- java/lang/Object -/
def k0 : Class := { plain "java/lang/Object" none with
  accessFlags := 33
  interfaces := #[]
  cf := some (fileOf pool0 8 #[] #[{ accessFlags := 1, nameIndex := 5, descriptorIndex := 6, attributes := #[] }] 33 0 #[] #[])
  fields := #[]
  methods := #[k0m0]
  instanceTypes := #[]
  staticTypes := #[]
  resolved := Array.replicate 124 none
  statics := none }

def pool1 : Array CpInfo := pool [(2, .class_ 4), (1, u "java/lang/Object"), (0, u "<init>"), (0, u "()V"), (0, .methodref 8 9), (0, .class_ 10), (0, .nameAndType 11 12), (0, u "java/lang/Math"), (0, u "min"), (0, u "(II)I"), (0, .methodref 14 15), (0, .class_ 16), (0, .nameAndType 17 18), (0, u "com/example/vestline/vestline/text/TextFile"), (0, u "startsWithByteOrderMark"), (0, u "([BI)Z"), (0, .class_ 20), (0, u "com/example/vestline/vestline/text/TextFileStartsWithByteOrderMarkPinLaw"), (2, u "law"), (0, u "(IIIII)Z")] 5

def k1m0 : Method := { name := "<init>", desc := "()V", sig := { parameters := [], returnType := none }, accessFlags := 2, code := none }
def k1c1 : Code := { maxStack := 3, maxLocals := 9, code := code, exceptionTable := #[], attributes := #[] }
def k1m1 : Method := { name := "law", desc := "(IIIII)Z", sig := { parameters := [.int, .int, .int, .int, .int], returnType := some .boolean }, accessFlags := 9, code := some k1c1 }
/-- com/example/vestline/vestline/text/TextFileStartsWithByteOrderMarkPinLaw -/
def k1 : Class := { plain "com/example/vestline/vestline/text/TextFileStartsWithByteOrderMarkPinLaw" (some 0) with
  accessFlags := 49
  interfaces := #[]
  cf := some (fileOf pool1 19 #[] #[{ accessFlags := 2, nameIndex := 5, descriptorIndex := 6, attributes := #[] }, { accessFlags := 9, nameIndex := 23, descriptorIndex := 24, attributes := #[] }] 49 2 #[] #[])
  fields := #[]
  methods := #[k1m0, k1m1]
  instanceTypes := #[]
  staticTypes := #[]
  resolved := Array.replicate 30 none
  statics := none }

def pool2 : Array CpInfo := pool [(1, .class_ 2), (0, u "java/lang/Math"), (1, .class_ 6), (1, u "java/lang/Object"), (0, u "<init>"), (0, u "()V"), (89, .class_ 100), (1, u "java/lang/Math$RandomNumberGeneratorHolder"), (71, u "negativeZeroFloatBits"), (0, u "J"), (2, u "negativeZeroDoubleBits"), (24, u "min"), (43, u "$assertionsDisabled"), (0, u "Z"), (88, u "(II)I"), (2, u "twoToTheDoubleScaleDown"), (0, u "D"), (4, u "twoToTheDoubleScaleUp"), (9, u "E"), (3, u "PI"), (2, u "TAU"), (2, u "DEGREES_TO_RADIANS"), (0, u "RADIANS_TO_DEGREES")] 94

def k2m0 : Method := { name := "<init>", desc := "()V", sig := { parameters := [], returnType := none }, accessFlags := 2, code := none }
def k2c1 : Code := { maxStack := 2, maxLocals := 2, code := jdk_29_method_69_code, exceptionTable := #[], attributes := #[] }
def k2m1 : Method := { name := "min", desc := "(II)I", sig := { parameters := [.int, .int], returnType := some .int }, accessFlags := 9, code := some k2c1 }
/-- java/lang/Math -/
def k2 : Class := { plain "java/lang/Math" (some 0) with
  accessFlags := 49
  interfaces := #[]
  cf := some (fileOf pool2 1 #[.nestMembers #[98]] #[{ accessFlags := 2, nameIndex := 7, descriptorIndex := 8, attributes := #[] }, { accessFlags := 9, nameIndex := 201, descriptorIndex := 335, attributes := #[] }] 49 4 #[] #[{ accessFlags := 25, nameIndex := 354, descriptorIndex := 339, attributes := #[] }, { accessFlags := 25, nameIndex := 358, descriptorIndex := 339, attributes := #[] }, { accessFlags := 25, nameIndex := 361, descriptorIndex := 339, attributes := #[] }, { accessFlags := 26, nameIndex := 364, descriptorIndex := 339, attributes := #[] }, { accessFlags := 26, nameIndex := 365, descriptorIndex := 339, attributes := #[] }, { accessFlags := 26, nameIndex := 172, descriptorIndex := 173, attributes := #[] }, { accessFlags := 26, nameIndex := 176, descriptorIndex := 173, attributes := #[] }, { accessFlags := 8, nameIndex := 344, descriptorIndex := 339, attributes := #[] }, { accessFlags := 8, nameIndex := 338, descriptorIndex := 339, attributes := #[] }, { accessFlags := 4120, nameIndex := 245, descriptorIndex := 246, attributes := #[] }])
  fields := #[{ name := "E", type := .double, accessFlags := 25, slot := 0, constantValue := 0 }, { name := "PI", type := .double, accessFlags := 25, slot := 1, constantValue := 0 }, { name := "TAU", type := .double, accessFlags := 25, slot := 2, constantValue := 0 }, { name := "DEGREES_TO_RADIANS", type := .double, accessFlags := 26, slot := 3, constantValue := 0 }, { name := "RADIANS_TO_DEGREES", type := .double, accessFlags := 26, slot := 4, constantValue := 0 }, { name := "negativeZeroFloatBits", type := .long, accessFlags := 26, slot := 5, constantValue := 0 }, { name := "negativeZeroDoubleBits", type := .long, accessFlags := 26, slot := 6, constantValue := 0 }, { name := "twoToTheDoubleScaleUp", type := .double, accessFlags := 8, slot := 7, constantValue := 0 }, { name := "twoToTheDoubleScaleDown", type := .double, accessFlags := 8, slot := 8, constantValue := 0 }, { name := "$assertionsDisabled", type := .boolean, accessFlags := 4120, slot := 9, constantValue := 0 }]
  methods := #[k2m0, k2m1]
  instanceTypes := #[]
  staticTypes := #[.double, .double, .double, .double, .double, .long, .long, .double, .double, .boolean]
  resolved := Array.replicate 460 none
  statics := none }

def pool3 : Array CpInfo := pool [(2, .class_ 4), (1, u "java/lang/Object"), (0, u "<init>"), (0, u "()V"), (1, .class_ 10), (1, u "com/example/vestline/vestline/text/TextFile"), (4, u "startsWithByteOrderMark"), (0, u "([BI)Z"), (131, .fieldref 8 149), (0, .nameAndType 150 151), (0, u "BYTE_ORDER_MARK_BYTES"), (0, u "[B"), (8, u "BYTE_ORDER_MARK_LENGTH"), (0, u "I"), (2, u "INCOMPLETE"), (1, u "BYTE_ORDER_MARK"), (0, u "C"), (0, u "FOLLOWING_LOW"), (1, u "FOLLOWING_HIGH")] 35

def k3m0 : Method := { name := "<init>", desc := "()V", sig := { parameters := [], returnType := none }, accessFlags := 2, code := none }
def k3c1 : Code := { maxStack := 3, maxLocals := 4, code := prog_115_method_10_code, exceptionTable := #[], attributes := #[] }
def k3m1 : Method := { name := "startsWithByteOrderMark", desc := "([BI)Z", sig := { parameters := [(.array .byte), .int], returnType := some .boolean }, accessFlags := 8, code := some k3c1 }
/-- com/example/vestline/vestline/text/TextFile -/
def k3 : Class := { plain "com/example/vestline/vestline/text/TextFile" (some 0) with
  accessFlags := 33
  interfaces := #[]
  cf := some (fileOf pool3 8 #[] #[{ accessFlags := 2, nameIndex := 5, descriptorIndex := 6, attributes := #[] }, { accessFlags := 8, nameIndex := 15, descriptorIndex := 16, attributes := #[] }] 33 2 #[] #[{ accessFlags := 24, nameIndex := 160, descriptorIndex := 161, attributes := #[] }, { accessFlags := 24, nameIndex := 164, descriptorIndex := 161, attributes := #[] }, { accessFlags := 26, nameIndex := 150, descriptorIndex := 151, attributes := #[] }, { accessFlags := 26, nameIndex := 166, descriptorIndex := 167, attributes := #[] }, { accessFlags := 26, nameIndex := 168, descriptorIndex := 161, attributes := #[] }, { accessFlags := 26, nameIndex := 170, descriptorIndex := 161, attributes := #[] }])
  fields := #[{ name := "BYTE_ORDER_MARK_LENGTH", type := .int, accessFlags := 24, slot := 0, constantValue := 0 }, { name := "INCOMPLETE", type := .int, accessFlags := 24, slot := 1, constantValue := 0 }, { name := "BYTE_ORDER_MARK_BYTES", type := (.array .byte), accessFlags := 26, slot := 2, constantValue := 0 }, { name := "BYTE_ORDER_MARK", type := .char, accessFlags := 26, slot := 3, constantValue := 0 }, { name := "FOLLOWING_LOW", type := .int, accessFlags := 26, slot := 4, constantValue := 0 }, { name := "FOLLOWING_HIGH", type := .int, accessFlags := 26, slot := 5, constantValue := 0 }]
  methods := #[k3m0, k3m1]
  instanceTypes := #[]
  staticTypes := #[.int, .int, (.array .byte), .char, .int, .int]
  resolved := Array.replicate 206 none
  statics := some 0 }

def pool4 : Array CpInfo := pool [(1, u "java/lang/Cloneable"), (0, .class_ 1), (0, u "java/lang/Object"), (0, .class_ 3)] 3

/-- java/lang/Cloneable -/
def k4 : Class := { plain "java/lang/Cloneable" (some 0) with
  accessFlags := 1537
  interfaces := #[]
  cf := some (fileOf pool4 2 #[] #[] 1537 4 #[] #[])
  fields := #[]
  methods := #[]
  instanceTypes := #[]
  staticTypes := #[]
  resolved := Array.replicate 8 none
  statics := none }

def pool5 : Array CpInfo := pool [(1, u "java/io/Serializable"), (0, .class_ 1), (0, u "java/lang/Object"), (0, .class_ 3)] 3

/-- java/io/Serializable -/
def k5 : Class := { plain "java/io/Serializable" (some 0) with
  accessFlags := 1537
  interfaces := #[]
  cf := some (fileOf pool5 2 #[] #[] 1537 4 #[] #[])
  fields := #[]
  methods := #[]
  instanceTypes := #[]
  staticTypes := #[]
  resolved := Array.replicate 8 none
  statics := none }

/-- the primitive byte -/
def k6 : Class := { plain "byte" none with kind := .primitive 'B', accessFlags := 0x411 }
/-- [B -/
def k7 : Class := { plain "[B" (some 0) with kind := .array 6 .byte, interfaces := #[4, 5], accessFlags := 1041 }

/-- the primitive int -/
def k8 : Class := { plain "int" none with kind := .primitive 'I', accessFlags := 0x411 }
/-- [I -/
def k9 : Class := { plain "[I" (some 0) with kind := .array 8 .int, interfaces := #[4, 5], accessFlags := 1041 }

def heap : Heap := #[{ cls := 3, slots := #[.int 0, .int 0, .ref 1, .int 0, .int 0, .int 0], vm := .statics 3 },
  { cls := 7, slots := #[.int (-17), .int (-69), .int (-65)], vm := .none }]
def classes : Array Class := #[k0, k1, k2, k3, k4, k5, k6, k7, k8, k9]
def interned : List (Array UInt16 × Addr) := []
def slotsUsed : Nat := 9
def theMethod : MethodId := ⟨1, 1⟩
def args0 : Array Value := #[.int 63, .int 1, .int 2, .int 3, .int 4]
def aboutOver (below : List Frame) : State where
  vm := { classes := classes, interned := interned.toArray }
  heap := heap
  slotsUsed := slotsUsed
  threads := #[{ frames := .invoking theMethod args0 :: below }]
def below0 : List Frame := [.native { method := ⟨0, 0⟩, args := #[] }]
def about1 : State := aboutOver below0
def p0 : Program := .bare "" "" ""
def e0 : Env := launch0.env 0 0 0
theorem w_frames : about1.frames = Frame.invoking theMethod args0 :: below0 := rfl
set_option maxRecDepth 65536 in
theorem w_args : argsFit about1.vm theMethod args0 = true := by decide +kernel
set_option maxRecDepth 65536 in
theorem w_heap : heapFits about1 = true := by decide +kernel
set_option maxRecDepth 65536 in
theorem w_runnable : about1.curStatus? = some .runnable := by decide +kernel
set_option maxRecDepth 65536 in
theorem w_alone : about1.alone = true := by decide +kernel
set_option maxRecDepth 65536 in
theorem w_named : about1.methodNamed? x = some theMethod := by decide +kernel
set_option maxRecDepth 65536 in
theorem w_hears : about1.hears theMethod below0 = true := by decide +kernel
set_option maxRecDepth 65536 in
theorem w_ripe : about1.ripe theMethod args0 below0 = true := by decide +kernel
theorem w_running : about1.status = .running := rfl
set_option maxRecDepth 65536 in
theorem w_room : about1.hasRoom e0.platform room_1 = true :=
  launch0.hasRoom_least _ room_1 (by decide +kernel) (by decide +kernel) (by decide +kernel) (by decide +kernel) (by decide +kernel) (by decide +kernel)
theorem allAtoms_all (ts : List Jvm.Cond) (a : Array Jvm.Value) (st : Jvm.State) : (allAtoms ts).before a st = ts.all (fun c => c.before a st) := by
  induction ts with
  | nil => rfl
  | cons c t ih =>
    show (Jvm.Cond.and c (allAtoms t)).before a st = _
    rw [Jvm.Cond.before_and, ih, List.all_cons]
def words1 : List Jvm.Cond := Jvm.Cond.code x code maxLocals ret :: tables_1
/-- a 'code' word, met by the world's own term for the bytes: nothing is compared byte by byte -/
theorem code_word {y : MethodName} {bytes : ByteArray} {mx : Nat} {rt : Option FieldType} {a : Array Value} {s : State} {m : MethodId} {meth : Method} {c : Code} (h1 : s.methodNamed? y = some m) (h2 : s.vm.method? m = some meth) (h3 : meth.code = some c) (h4 : c.code = bytes)
    (h5 : (c.maxLocals == mx && c.exceptionTable.isEmpty && decide (c.maxStack ≤ mostOperands) && decide (meth.sig.returnType = rt) && !meth.locks && decide (parseMethodDescriptor y.desc = some meth.sig)) = true) : (Jvm.Cond.code y bytes mx rt).before a s = true := by
  simp only [Bool.and_eq_true, beq_iff_eq, Bool.not_eq_true', decide_eq_true_eq] at h5
  obtain ⟨⟨⟨⟨⟨g1, g2⟩, g3⟩, g4⟩, g5⟩, g6⟩ := h5
  simp [Cond.before, Cond.holds, Cond.value, h1, h2, h3, h4, g1, g2, g3, g4, g5, g6]
def isCode : Jvm.Cond → Bool
  | .code _ _ _ _ => true
  | _ => false
theorem all_split {L : List Jvm.Cond} {P : Jvm.Cond → Bool} (h1 : L.all (fun c => isCode c || P c) = true) (h2 : ∀ c ∈ L.filter isCode, P c = true) : L.all P = true := by
  refine List.all_eq_true.mpr fun c hc => ?_
  have h := List.all_eq_true.mp h1 c hc
  rcases Bool.eq_false_or_eq_true (isCode c) with hi | hi
  · exact h2 c (List.mem_filter.mpr ⟨hc, hi⟩)
  · simpa [hi] using h
set_option maxRecDepth 65536 in
theorem w_c0 : (Jvm.Cond.code x code maxLocals ret).before args0 about1 = true := code_word (m := ⟨1, 1⟩) (meth := k1m1) (c := k1c1) (by decide +kernel) rfl rfl rfl (by decide +kernel)
set_option maxRecDepth 65536 in
theorem w_c1 : (Jvm.Cond.code ({ cls := "java/lang/Math", name := "min", desc := "(II)I" } : Jvm.MethodName) jdk_29_method_69_code (2 : Nat) (Option.some Jvm.ClassFile.FieldType.int)).before args0 about1 = true := code_word (m := ⟨2, 1⟩) (meth := k2m1) (c := k2c1) (by decide +kernel) rfl rfl rfl (by decide +kernel)
set_option maxRecDepth 65536 in
theorem w_c2 : (Jvm.Cond.code ({ cls := "com/example/vestline/vestline/text/TextFile", name := "startsWithByteOrderMark", desc := "([BI)Z" } : Jvm.MethodName) prog_115_method_10_code (4 : Nat) (Option.some Jvm.ClassFile.FieldType.boolean)).before args0 about1 = true := code_word (m := ⟨3, 1⟩) (meth := k3m1) (c := k3c1) (by decide +kernel) rfl rfl rfl (by decide +kernel)
def codes1 : List Jvm.Cond := [Jvm.Cond.code x code maxLocals ret, Jvm.Cond.code ({ cls := "java/lang/Math", name := "min", desc := "(II)I" } : Jvm.MethodName) jdk_29_method_69_code (2 : Nat) (Option.some Jvm.ClassFile.FieldType.int), Jvm.Cond.code ({ cls := "com/example/vestline/vestline/text/TextFile", name := "startsWithByteOrderMark", desc := "([BI)Z" } : Jvm.MethodName) prog_115_method_10_code (4 : Nat) (Option.some Jvm.ClassFile.FieldType.boolean)]
set_option maxRecDepth 65536 in
theorem codes_eq : words1.filter isCode = codes1 := rfl
theorem w_codes : ∀ c ∈ words1.filter isCode, c.before args0 about1 = true := by
  rw [codes_eq]
  intro c hc
  simp only [codes1, List.mem_cons, List.not_mem_nil, or_false] at hc
  rcases hc with rfl | rfl | rfl
  · exact w_c0
  · exact w_c1
  · exact w_c2
set_option maxRecDepth 65536 in
theorem w_t1 : words1.all (fun c => isCode c || c.before args0 about1) = true := by decide +kernel
theorem w_tables : (allAtoms (Jvm.Cond.code x code maxLocals ret :: tables_1)).before args0 about1 = true := by
  rw [allAtoms_all]
  show words1.all (fun c => c.before args0 about1) = true
  refine all_split ?_ w_codes
  rw [w_t1]
set_option maxRecDepth 65536 in
theorem w_case : (Jvm.Cond.and given_1 narrow_1).before args0 about1 = true := by decide +kernel
theorem w_applies : (headSpec (Jvm.Cond.code x code maxLocals ret :: tables_1) room_1).applies x e0.platform about1 = true :=
  (Spec.applies_iff w_frames).mpr ⟨w_running, w_runnable, w_alone, w_named, w_hears, w_ripe, w_room, w_tables⟩
theorem atStart : AtStart classFile x code maxLocals ret World_1 tables_1 room_1 Calls_1 rest_1 Pre_1 launch0 p0 e0 about1 theMethod args0 below0 :=
  ⟨lists_1, trivial, launch0.admits_env _ _ _, launch0.least_env, fairChoices_fair.cas, fairChoices_fair.clock, w_frames, w_args, w_heap, w_applies, trivial, trivial, w_case⟩
end start1
theorem witness_1 : WitnessClaimed_1 := ⟨start1.p0, start1.e0, start1.about1, start1.theMethod, start1.args0, start1.below0, start1.atStart⟩
end Jvm.Pilot.@@N@@
