import JvmDerived
import JvmDerived.Pilot.@@N@@Statement
import JvmDerived.Pilot.@@N@@Code
set_option linter.unusedVariables false
set_option linter.unusedSimpArgs false
namespace Jvm.RoadKit
open Sem ClassFile Op Lib Jvm.Stand Jvm.Free Jvm.LawKit
section New
variable {p : Program} {l : Launch} {e : Env} {R : Room} {s : State} {m : MethodId} {args : Array Value} {below : List Frame} {meth : Method} {c : Code} {T : State} {locs : List Loc} {cells slots : Nat}
theorem retI (X : Stand p l e R s m args below meth c T locs cells slots) (hx : p.tables.exec = Jvm.exec) {pc : Nat} {Ls : Array Slot} {z : Int32} {rest : List Value} (hret : meth.sig.returnType = some .int) (hd : decode c.code pc = .ok (.ireturn, 1)) {fs : List Frame}
    (hl : ∀ (f : JFrame) (acts : List Action), f.method = m → f.locked = none → f.entered = [] → (doReturn e (T.setTop f) acts (some (.int z))).1 = T.setFrames fs) : Steps p.tables e below (T.setTop (mkF m pc Ls (.int z :: rest))) (T.setFrames fs) := by
  have hm' : T.vm.method? m = some meth := X.method'
  have hn : narrow .int (.int z) = .int z := rfl
  show Steps p.tables e below (T.setTop { method := m, pc := pc, locals := Ls, stack := _ :: rest, locked := none }) _
  jvm_step X.here [X.here.top, hx, hd, hm', hret, hn]
  first | (intro acts; rw [hl _ acts rfl rfl rfl]) | rw [hl _ _ rfl rfl rfl]
  exact Steps.refl _
end New
end Jvm.RoadKit
namespace Jvm.Pilot.@@N@@
open Jvm Jvm.ClassFile Sem Op Lib Jvm.Free Jvm.Stand Jvm.LawKit Jvm.RoadKit Bundle Jvm.Pilot.@@N@@.Jvm.D
def own_put (φ : Int → Int32) (x : Int) (v : Int32) : Int → Int32 := fun y => if y = x then v else φ y
def own_fill (φ : Int → Int32) (lo hi : Int) (v : Int32) : Int → Int32 := fun y => if lo ≤ y ∧ y < hi then v else φ y
def own_putV (ψ : Int → Value) (x : Int) (v : Value) : Int → Value := fun y => if y = x then v else ψ y
def own_Arf (Z : State) (h : Heap) (a : Addr) (n : Int32) (φ : Int → Int32) : Prop := ∃ c : Cell, Arr Z h a c .int ∧ c.slots.size = n.toNatClampNeg ∧ ¬ n < 0 ∧ ∀ i : Nat, i < c.slots.size → c.slots[i]? = some (.int (φ i))
def own_Aro (Z : State) (h : Heap) (a : Addr) (k : ClassId) (ψ : Int → Value) : Prop := ∃ c : Cell, Arr Z h a c (.object "java/lang/Object") ∧ c.cls = k ∧ c.slots.size = 16 ∧ ∀ i : Nat, i < 16 → c.slots[i]? = some (ψ i)
section Own
variable {Z : State} {h h' : Heap} {a b : Addr} {n j : Int32} {φ φ' : Int → Int32} {ψ : Int → Value} {k : ClassId} {sl : Nat} {v : Value} {ws : List Addr}
theorem own_Arf.lt (F : own_Arf Z h a n φ) : a < h.size := by obtain ⟨c, A, -⟩ := F; exact A.lt
theorem own_Arf.ext (F : own_Arf Z h a n φ) (E : Ext h h') : own_Arf Z h' a n φ := by obtain ⟨c, A, r⟩ := F; exact ⟨c, A.ext E, r⟩
theorem own_Arf.other (F : own_Arf Z h a n φ) (W : Wr h h' b sl v) (q : a ≠ b) : own_Arf Z h' a n φ := by obtain ⟨c, A, r⟩ := F; exact ⟨c, A.other W q, r⟩
theorem own_Arf.keep (F : own_Arf Z h a n φ) (K : Keep h h' ws) (q : a ∉ ws) : own_Arf Z h' a n φ := by obtain ⟨c, A, r⟩ := F; exact ⟨c, ⟨K.2.1 a c A.1 q, A.2⟩, r⟩
theorem own_Arf.to (F : own_Arf Z h a n φ) (e : ∀ x, φ x = φ' x) : own_Arf Z h a n φ' := by obtain ⟨c, A, r1, r2, r3⟩ := F; exact ⟨c, A, r1, r2, fun i hi => by rw [← e]; exact r3 i hi⟩
theorem own_Arf.new (F : Arv Z h a k .int n [] (.int (0 : Int32))) : own_Arf Z h a n (fun _ => 0) := by obtain ⟨c, A, r1, r2, r3, H, G⟩ := F; exact ⟨c, A, r2, r3, fun i hi => H i hi⟩
theorem own_nat {j : Int32} (q : ¬ j < 0) : (j.toNatClampNeg : Int) = j.toInt := (nat_of q).symm
theorem own_Arf.set {c : Cell} {v : Int32} (A : Arr Z h a c .int) (S : c.slots.size = n.toNatClampNeg) (N : ¬ n < 0) (H : ∀ i : Nat, i < c.slots.size → c.slots[i]? = some (.int (φ i))) (W : Wr h h' a j.toNatClampNeg (.int v)) (hj : ¬ (j < 0 ∨ c.slots.size ≤ j.toNatClampNeg)) : own_Arf Z h' a n (own_put φ j.toInt v) := by
  have e := own_nat fun y => hj (Or.inl y)
  refine ⟨_, A.same W, by rw [sz_set]; exact S, N, fun x hx => ?_⟩
  rw [sz_set] at hx
  simp only [own_put]
  split
  · have : j.toNatClampNeg = x := by omega
    subst this; simp [Cell.setSlot, hx]
  · have : j.toNatClampNeg ≠ x := by omega
    simp only [Cell.setSlot]; rw [Array.getElem?_setIfInBounds_ne this]; exact H x hx
theorem own_Arf.at {c : Cell} (H : ∀ i : Nat, i < c.slots.size → c.slots[i]? = some (.int (φ i))) (hj : ¬ (j < 0 ∨ c.slots.size ≤ j.toNatClampNeg)) : c.slots[j.toNatClampNeg]? = some (.int (φ j.toInt)) := by
  rw [← own_nat fun y => hj (Or.inl y)]; exact H _ (Nat.lt_of_not_le fun y => hj (Or.inr y))
theorem own_Aro.lt (F : own_Aro Z h a k ψ) : a < h.size := by obtain ⟨c, A, -⟩ := F; exact A.lt
theorem own_Aro.ext (F : own_Aro Z h a k ψ) (E : Ext h h') : own_Aro Z h' a k ψ := by obtain ⟨c, A, r⟩ := F; exact ⟨c, A.ext E, r⟩
theorem own_Aro.other (F : own_Aro Z h a k ψ) (W : Wr h h' b sl v) (q : a ≠ b) : own_Aro Z h' a k ψ := by obtain ⟨c, A, r⟩ := F; exact ⟨c, A.other W q, r⟩
theorem own_Aro.keep (F : own_Aro Z h a k ψ) (K : Keep h h' ws) (q : a ∉ ws) : own_Aro Z h' a k ψ := by obtain ⟨c, A, r⟩ := F; exact ⟨c, ⟨K.2.1 a c A.1 q, A.2⟩, r⟩
theorem own_Aro.new (F : Arv Z h a k (.object "java/lang/Object") (16 : Int32) [] .null) : own_Aro Z h a k (fun _ => .null) := by
  obtain ⟨c, A, r1, r2, r3, H, G⟩ := F
  have e : (16 : Int32).toNatClampNeg = 16 := rfl
  rw [e] at r2
  exact ⟨c, A, r1, r2, fun i hi => H i (by omega)⟩
theorem own_Aro.set {c : Cell} (A : Arr Z h a c (.object "java/lang/Object")) (q1 : c.cls = k) (S : c.slots.size = 16) (H : ∀ i : Nat, i < 16 → c.slots[i]? = some (ψ i)) (W : Wr h h' a j.toNatClampNeg v) (hj : ¬ (j < 0 ∨ c.slots.size ≤ j.toNatClampNeg)) : own_Aro Z h' a k (own_putV ψ j.toInt v) := by
  have e := own_nat fun y => hj (Or.inl y)
  refine ⟨_, A.same W, q1, by rw [sz_set]; exact S, fun x hx => ?_⟩
  simp only [own_putV]
  split
  · have : j.toNatClampNeg = x := by omega
    subst this; simp [Cell.setSlot, S, hx]
  · have : j.toNatClampNeg ≠ x := by omega
    simp only [Cell.setSlot]; rw [Array.getElem?_setIfInBounds_ne this]; exact H x hx
theorem own_Aro.at {c : Cell} (S : c.slots.size = 16) (H : ∀ i : Nat, i < 16 → c.slots[i]? = some (ψ i)) (hj : ¬ (j < 0 ∨ c.slots.size ≤ j.toNatClampNeg)) (e : ψ j.toInt = v) : c.slots[j.toNatClampNeg]? = some v := by
  rw [← e, ← own_nat fun y => hj (Or.inl y)]; exact H _ (by have := Nat.lt_of_not_le fun y => hj (Or.inr y); omega)
theorem own_in {c : Cell} (S : c.slots.size = n.toNatClampNeg) (N : ¬ n < 0) (h0 : 0 ≤ j.toInt) (h1 : j.toInt < n.toInt) : ¬ (j < 0 ∨ c.slots.size ≤ j.toNatClampNeg) :=
  inb_of S ⟨by rw [Int32.lt_iff_toInt_lt]; have : (0 : Int32).toInt = 0 := rfl; omega, by rw [Int32.lt_iff_toInt_lt]; exact h1⟩
theorem own_in16 {c : Cell} (S : c.slots.size = 16) (h0 : 0 ≤ j.toInt) (h1 : j.toInt < 16) : ¬ (j < 0 ∨ c.slots.size ≤ j.toNatClampNeg) :=
  own_in (n := 16) (by rw [S]; rfl) (by decide) h0 (by have : (16 : Int32).toInt = 16 := rfl; omega)
theorem own_add {x y : Int32} {p q : Int} (hx : x.toInt = p) (hy : y.toInt = q) (h0 : -1000 ≤ p + q) (h1 : p + q ≤ 1000) : (x + y).toInt = p + q := by
  have h := c_iadd x y; have r := rng32 (x + y); omega
theorem own_sub {x y : Int32} {p q : Int} (hx : x.toInt = p) (hy : y.toInt = q) (h0 : -1000 ≤ p - q) (h1 : p - q ≤ 1000) : (x - y).toInt = p - q := by
  have h := c_isub x y; have r := rng32 (x - y); omega
theorem own_mul {x y : Int32} (h0 : -1000 ≤ x.toInt * y.toInt) (h1 : x.toInt * y.toInt ≤ 1000) : (x * y).toInt = x.toInt * y.toInt := by
  have h := c_imul x y; have r := rng32 (x * y); omega
theorem own_prod {w r : Int} (h1 : 1 ≤ w) (h2 : w ≤ 4) (h3 : 0 ≤ r) (h4 : r ≤ 16) : 0 ≤ w * r ∧ w * r ≤ 64 := by
  have : w = 1 ∨ w = 2 ∨ w = 3 ∨ w = 4 := by omega
  rcases this with rfl | rfl | rfl | rfl <;> omega
theorem own_wr {w r : Int32} (h1 : 1 ≤ w.toInt) (h2 : w.toInt ≤ 4) (h3 : 0 ≤ r.toInt) (h4 : r.toInt ≤ 16) : (w * r).toInt = w.toInt * r.toInt := by
  have := own_prod h1 h2 h3 h4; exact own_mul (by omega) (by omega)
end Own
theorem own_len {args : Array Value} {s : State} {t : Jvm.Term} {a : Addr} {cl : Cell} {n : Int32} (ht : t.eval args s none [] s = some (.ref a)) (ha : s.arrayAt? a = some cl) (h : (Jvm.Term.length t).eval args s none [] s = some (.int n)) : cl.slots.size < 2 ^ 31 := by
  by_cases q : cl.slots.size < 2 ^ 31
  · exact q
  · simp [Term.eval, ht, ha, q] at h
theorem pn_13 : plainName "java/lang/Number" = true := by first | (simp [plainName, overriddenIn]; done) | decide +kernel
theorem ef_13 (m : MethodId) (x0 : Addr) : entryFrame m #[(.ref x0)] 1 = mkF m 0 #[.val (.ref x0)] [] := by first | (simp [entryFrame, mkF, argsToLocals, Value.category]; done) | rfl
theorem d13_0 : decode jdk_18_method_1_code 0 = .ok (.aload_n 0, 1) := by decide +kernel
theorem d13_1 : decode jdk_18_method_1_code 1 = .ok (.invokespecial 1, 3) := by decide +kernel
theorem d13_4 : decode jdk_18_method_1_code 4 = .ok (.return_, 1) := by decide +kernel
def Q_num (Z : State) (a1 : Addr) (h0 : Heap) (n0 : Nat) (v : Option Value) (h : Heap) (L : List Loc) : Prop := v = none ∧ Fr n0 L ∧ h = h0
set_option maxRecDepth 65536 in
set_option maxHeartbeats 40000000 in
theorem rm_num (l : Launch) (Z : State) (a0 : Array Value) (hw : ∀ d ∈ tables_1, d.before a0 Z = true) (ws : List Jvm.Cond) (a1 : Addr) (h0 : Heap) (n0 : Nat) (Z0 : n0 ≤ h0.size)  :
    MetFree l (⟨"java/lang/Number", "<init>", "()V"⟩ : MethodName) (head1 (Jvm.Cond.code (⟨"java/lang/Number", "<init>", "()V"⟩ : MethodName) jdk_18_method_1_code 1 none :: ws) ({ frames := 1, cells := 0, slots := 0, locals := 12 } : Room)) (fun a U => a = #[(.ref a1)] ∧ Z.Warmed39 U.vm ∧ U.heap = h0) (fun _ _ _ _ _ => True) (fun _ U o U' => ∃ v L, o = .returned v ∧ Q_num Z a1 h0 n0 v U'.heap L ∧ FrameEnd U o U' L ({ frames := 1, cells := 0, slots := 0, locals := 12 } : Room).cells ({ frames := 1, cells := 0, slots := 0, locals := 12 } : Room).slots) := by
  refine MetFree.of_bodySF (plainFor_of_name pn_13) hisR ?_
  intro p e s m args below meth c s₁ Bd hml0 hP hK
  obtain ⟨rfl, hZ, hh⟩ := hP
  have hx := Bd.exec
  have hby := Bd.bytes
  have hml : c.maxLocals = 1 := hml0
  have hown : s.vm.findClass "java/lang/Number" = some m.cls := findClass_of_methodNamed Bd.named
  have hnm := (name_of_methodNamed Bd.named Bd.method).1
  have X0 : Stand p l e ({ frames := 1, cells := 0, slots := 0, locals := 12 } : Room) s m #[(.ref a1)] below meth c s₁ [] 0 0 := Stand.of_body Bd
  have e0 : s₁.heap = h0 := by rw [← hh, Bd.state]; rfl
  have N0 := Fr.nil n0
  have pre0 : ∀ t, Steps p.tables e below (s₁.setTop (mkF m 0 #[.val (.ref a1)] [])) t → Steps p.tables e below (s₁.setTop (entryFrame m #[(.ref a1)] 1)) t := fun t k => castTop (ef_13 m a1) k
  have P1 : ∀ t, Steps p.tables e below (s₁.setTop (mkF m 1 #[.val (.ref a1)] [(.ref a1)])) t → Steps p.tables e below (s₁.setTop (mkF m 0 #[.val (.ref a1)] [])) t := fun t k => by
    show Steps p.tables e below (s₁.setTop (mkF m 0 #[.val (.ref a1)] [])) t
    refine XS.aloadN X0.here hx rfl (hb hby d13_0) rfl rfl ?_
    exact k
  obtain ⟨T2, X2, e2, st2⟩ := initO X0 hx hZ hown (hw _ (List.mem_of_getElem? (i := 80) rfl)) (hw _ (List.mem_of_getElem? (i := 7) rfl)) (hw _ (List.mem_of_getElem? (i := 8) rfl)) e0 (g := (mkF m 1 #[.val (.ref a1)] [(.ref a1)])) rfl (by rw [hml]; rfl) rfl (hb hby d13_1) (by decide) (W := 0) (by show 2 * 0 + _ ≤ _; exact Nat.le_of_eq rfl) (by decide)
  have P3 : ∀ t, Steps p.tables e below (T2.setTop (mkF m 4 #[.val (.ref a1)] [])) t → Steps p.tables e below (s₁.setTop (mkF m 0 #[.val (.ref a1)] [])) t := fun t k => P1 t (st2 _ k)
  obtain ⟨fs, hr, hrun, hended, hW, hsame⟩ := X2.leave (v := none) (fun _ => rfl)
  refine ⟨_, _, pre0 _ (P3 _ ?_), hrun, hended, _, _, rfl, ?_, ⟨_, rfl⟩, hW, hsame.mono (by decide) (by decide)⟩
  · exact X2.returnOut hx Bd.returns (hb hby d13_4) hr
  · show Q_num Z a1 h0 n0 _ T2.heap _
    rw [e2]
    exact ⟨rfl, N0, rfl⟩
theorem pn_12 : plainName "java/lang/Integer" = true := by first | (simp [plainName, overriddenIn]; done) | decide +kernel
theorem ef_12 (m : MethodId) (x0 : Addr) (x1 : Int32) : entryFrame m #[(.ref x0), (.int x1)] 2 = mkF m 0 #[.val (.ref x0), .val (.int x1)] [] := by first | (simp [entryFrame, mkF, argsToLocals, Value.category]; done) | rfl
theorem d12_0 : decode jdk_33_method_23_code 0 = .ok (.aload_n 0, 1) := by decide +kernel
theorem d12_1 : decode jdk_33_method_23_code 1 = .ok (.invokespecial 202, 3) := by decide +kernel
theorem pd___V : parseMethodDescriptor "()V" = some ⟨[], none⟩ := by decide +kernel
theorem d12_4 : decode jdk_33_method_23_code 4 = .ok (.aload_n 0, 1) := by decide +kernel
theorem d12_5 : decode jdk_33_method_23_code 5 = .ok (.iload_n 1, 1) := by decide +kernel
theorem d12_6 : decode jdk_33_method_23_code 6 = .ok (.putfield 205, 3) := by decide +kernel
theorem d12_9 : decode jdk_33_method_23_code 9 = .ok (.return_, 1) := by decide +kernel
def Q_boxi (Z : State) (a1 : Addr) (p2 : Int32) (h0 : Heap) (n0 : Nat) (v : Option Value) (h : Heap) (L : List Loc) : Prop := v = none ∧ Fr n0 L ∧ Keep h0 h [a1] ∧ Exa Z h a1 "java/lang/Integer" ∧ Fld Z h a1 "java/lang/Integer" "value" "I" (.int p2)
set_option maxRecDepth 65536 in
set_option maxHeartbeats 40000000 in
theorem rm_boxi (l : Launch) (Z : State) (a0 : Array Value) (hw : ∀ d ∈ tables_1, d.before a0 Z = true) (ws : List Jvm.Cond) (a1 : Addr) (p2 : Int32) (h0 : Heap) (n0 : Nat) (Z0 : n0 ≤ h0.size) (E : Exa Z h0 a1 "java/lang/Integer") (F : Fld Z h0 a1 "java/lang/Integer" "value" "I" (.int (0 : Int32))) (g_a1 : n0 ≤ a1) :
    MetFree l (⟨"java/lang/Integer", "<init>", "(I)V"⟩ : MethodName) (head1 (Jvm.Cond.code (⟨"java/lang/Integer", "<init>", "(I)V"⟩ : MethodName) jdk_33_method_23_code 2 none :: ws) ({ frames := 2, cells := 0, slots := 0, locals := 24 } : Room)) (fun a U => a = #[(.ref a1), (.int p2)] ∧ Z.Warmed39 U.vm ∧ U.heap = h0) (fun _ _ _ _ _ => True) (fun _ U o U' => ∃ v L, o = .returned v ∧ Q_boxi Z a1 p2 h0 n0 v U'.heap L ∧ FrameEnd U o U' L ({ frames := 2, cells := 0, slots := 0, locals := 24 } : Room).cells ({ frames := 2, cells := 0, slots := 0, locals := 24 } : Room).slots) := by
  refine MetFree.of_bodySF (plainFor_of_name pn_12) hisR ?_
  intro p e s m args below meth c s₁ Bd hml0 hP hK
  obtain ⟨rfl, hZ, hh⟩ := hP
  have hx := Bd.exec
  have hby := Bd.bytes
  have hml : c.maxLocals = 2 := hml0
  have hown : s.vm.findClass "java/lang/Integer" = some m.cls := findClass_of_methodNamed Bd.named
  have hnm := (name_of_methodNamed Bd.named Bd.method).1
  have X0 : Stand p l e ({ frames := 2, cells := 0, slots := 0, locals := 24 } : Room) s m #[(.ref a1), (.int p2)] below meth c s₁ [] 0 0 := Stand.of_body Bd
  have e0 : s₁.heap = h0 := by rw [← hh, Bd.state]; rfl
  have N0 := Fr.nil n0
  have pre0 : ∀ t, Steps p.tables e below (s₁.setTop (mkF m 0 #[.val (.ref a1), .val (.int p2)] [])) t → Steps p.tables e below (s₁.setTop (entryFrame m #[(.ref a1), (.int p2)] 2)) t := fun t k => castTop (ef_12 m a1 p2) k
  have KR_0 := Keep.refl h0 [a1]
  have P1 : ∀ t, Steps p.tables e below (s₁.setTop (mkF m 1 #[.val (.ref a1), .val (.int p2)] [(.ref a1)])) t → Steps p.tables e below (s₁.setTop (mkF m 0 #[.val (.ref a1), .val (.int p2)] [])) t := fun t k => by
    show Steps p.tables e below (s₁.setTop (mkF m 0 #[.val (.ref a1), .val (.int p2)] [])) t
    refine XS.aloadN X0.here hx rfl (hb hby d12_0) rfl rfl ?_
    exact k
  obtain ⟨_, _, ⟨T2, L2, k2, n2⟩, -, X2, ⟨Lc2, hQ2, l2, y2, z2⟩, st2⟩ := X0.specialBack hx (y := (⟨"java/lang/Number", "<init>", "()V"⟩ : MethodName)) rfl hown (mvT hZ (hw _ (List.mem_of_getElem? (i := 74) rfl))) (mvT hZ (hw _ (List.mem_of_getElem? (i := 75) rfl))) (mvT hZ (hw _ (List.mem_of_getElem? (i := 79) rfl))) (by decide) (backOf (W := 0) (rm_num l Z a0 hw [] a1 h0 n0 Z0) hZ (hw _ (List.mem_of_getElem? (i := 79) rfl)) (hw _ (List.mem_of_getElem? (i := 78) rfl)) (by decide) (by decide)) (g := (mkF m 1 #[.val (.ref a1), .val (.int p2)] [(.ref a1)])) rfl (by rw [hml]; rfl) (Steps.refl _) (a := a1) (argsL := []) (rest := []) (lenOf pd___V rfl) rfl (by show 2 * 0 + _ ≤ _; exact Nat.le_of_eq rfl) (hb hby d12_1) (fun _ _ => ⟨rfl, e0, (by decide : 0 + 0 ≤ _), (by decide : 0 + 0 ≤ _)⟩)
  dsimp only [Pt.U, Pt.locs, Pt.cells, Pt.slots] at X2 l2 y2 z2 st2 hQ2
  subst l2 y2 z2
  obtain ⟨rfl, N2q, e2⟩ := hQ2
  have N2 := Fr.app N0 N2q
  have P3 : ∀ t, Steps p.tables e below (T2.setTop (mkF m 4 #[.val (.ref a1), .val (.int p2)] [])) t → Steps p.tables e below (s₁.setTop (mkF m 0 #[.val (.ref a1), .val (.int p2)] [])) t := fun t k => P1 t (st2.trans k)
  have P4 : ∀ t, Steps p.tables e below (T2.setTop (mkF m 6 #[.val (.ref a1), .val (.int p2)] [(.int p2), (.ref a1)])) t → Steps p.tables e below (s₁.setTop (mkF m 0 #[.val (.ref a1), .val (.int p2)] [])) t := fun t k => by
    refine P3 t ?_
    show Steps p.tables e below (T2.setTop (mkF m 4 #[.val (.ref a1), .val (.int p2)] [])) t
    refine XS.aloadN X2.here hx rfl (hb hby d12_4) rfl rfl ?_
    show Steps p.tables e below (T2.setTop (mkF m 5 #[.val (.ref a1), .val (.int p2)] [(.ref a1)])) t
    refine XS.iloadN X2.here hx rfl (hb hby d12_5) rfl ?_
    exact k
  obtain ⟨T5, h5, X5, e5, W5, st5⟩ := putF X2 hx hZ hown (host := "") (Or.inl (hw _ (List.mem_of_getElem? (i := 81) rfl))) Via.refl e2 F E (Or.inr ⟨(hw _ (List.mem_of_getElem? (i := 82) rfl)), rfl, hnm⟩) (hw _ (List.mem_of_getElem? (i := 69) rfl)) (ty := .int) (by decide) rfl rfl (g := (mkF m 6 #[.val (.ref a1), .val (.int p2)] [(.int p2), (.ref a1)])) rfl rfl (hb hby d12_6)
  have E_5 := E.wr W5
  have F_5 := F.same W5
  have KR_5 := KR_0.wr W5 (Or.inl (List.mem_of_getElem? (i := 0) rfl))
  have Z_6 : n0 ≤ h5.size := Nat.le_trans Z0 (Keep.of_wr W5).1
  have N5 := Fr.snoc X5 N2 g_a1
  have P7 : ∀ t, Steps p.tables e below (T5.setTop (mkF m 9 #[.val (.ref a1), .val (.int p2)] [])) t → Steps p.tables e below (s₁.setTop (mkF m 0 #[.val (.ref a1), .val (.int p2)] [])) t := fun t k => P4 t (st5 _ k)
  obtain ⟨fs, hr, hrun, hended, hW, hsame⟩ := X5.leave (v := none) (fun _ => rfl)
  refine ⟨_, _, pre0 _ (P7 _ ?_), hrun, hended, _, _, rfl, ?_, ⟨_, rfl⟩, hW, hsame.mono (by decide) (by decide)⟩
  · exact X5.returnOut hx Bd.returns (hb hby d12_9) hr
  · show Q_boxi Z a1 p2 h0 n0 _ T5.heap _
    rw [e5]
    exact ⟨rfl, N5, KR_5, E_5, F_5⟩
theorem pn_7 : plainName "java/lang/Integer" = true := by first | (simp [plainName, overriddenIn]; done) | decide +kernel
theorem ef_7 (m : MethodId) (x0 : Int32) : entryFrame m #[(.int x0)] 1 = mkF m 0 #[.val (.int x0)] [] := by first | (simp [entryFrame, mkF, argsToLocals, Value.category]; done) | rfl
theorem d7_0 : decode jdk_33_method_22_code 0 = .ok (.iload_n 0, 1) := by decide +kernel
theorem d7_1 : decode jdk_33_method_22_code 1 = .ok (.bipush (-128), 2) := by decide +kernel
theorem d7_3 : decode jdk_33_method_22_code 3 = .ok (.if_icmp .lt 20, 3) := by decide +kernel
theorem d7_23 : decode jdk_33_method_22_code 23 = .ok (.new 1, 3) := by decide +kernel
theorem d7_26 : decode jdk_33_method_22_code 26 = .ok (.dup, 1) := by decide +kernel
theorem d7_27 : decode jdk_33_method_22_code 27 = .ok (.iload_n 0, 1) := by decide +kernel
theorem d7_28 : decode jdk_33_method_22_code 28 = .ok (.invokespecial 199, 3) := by decide +kernel
theorem pd__I_V : parseMethodDescriptor "(I)V" = some ⟨[.int], none⟩ := by decide +kernel
theorem d7_31 : decode jdk_33_method_22_code 31 = .ok (.areturn, 1) := by decide +kernel
theorem d7_6 : decode jdk_33_method_22_code 6 = .ok (.iload_n 0, 1) := by decide +kernel
theorem d7_7 : decode jdk_33_method_22_code 7 = .ok (.getstatic 191, 3) := by decide +kernel
theorem d7_10 : decode jdk_33_method_22_code 10 = .ok (.if_icmp .gt 13, 3) := by decide +kernel
theorem d7_13 : decode jdk_33_method_22_code 13 = .ok (.getstatic 195, 3) := by decide +kernel
theorem d7_16 : decode jdk_33_method_22_code 16 = .ok (.iload_n 0, 1) := by decide +kernel
theorem d7_17 : decode jdk_33_method_22_code 17 = .ok (.sipush 128, 3) := by decide +kernel
theorem d7_20 : decode jdk_33_method_22_code 20 = .ok (.iadd, 1) := by decide +kernel
theorem d7_21 : decode jdk_33_method_22_code 21 = .ok (.aaload, 1) := by decide +kernel
theorem d7_22 : decode jdk_33_method_22_code 22 = .ok (.areturn, 1) := by decide +kernel
def Q_vo (Z : State) (p1 : Int32) (wC : Addr) (cC : Cell) (h0 : Heap) (n0 : Nat) (v : Option Value) (h : Heap) (L : List Loc) : Prop := ∃ b, v = some (.ref b) ∧ Fr n0 L ∧ Keep h0 h [] ∧ Exa Z h b "java/lang/Integer"
set_option maxRecDepth 65536 in
set_option maxHeartbeats 40000000 in
theorem rm_vo (l : Launch) (Z : State) (a0 : Array Value) (hw : ∀ d ∈ tables_1, d.before a0 Z = true) (ws : List Jvm.Cond) (p1 : Int32) (wC : Addr) (cC : Cell) (h0 : Heap) (n0 : Nat) (Z0 : n0 ≤ h0.size) (OL_0 : Old Z n0 h0) (S_high : Sta Z Z.heap "java/lang/Integer$IntegerCache" "high" "I" (.int (127 : Int32))) (S_cache : Sta Z Z.heap "java/lang/Integer$IntegerCache" "cache" "[Ljava/lang/Integer;" (.ref wC)) (BX : Bxs Z wC cC "java/lang/Integer" "I" (256 : Int32) (fun j => .int (j - 128))) :
    MetFree l (⟨"java/lang/Integer", "valueOf", "(I)Ljava/lang/Integer;"⟩ : MethodName) (head1 (Jvm.Cond.code (⟨"java/lang/Integer", "valueOf", "(I)Ljava/lang/Integer;"⟩ : MethodName) jdk_33_method_22_code 1 (some (.object "java/lang/Integer")) :: ws) ({ frames := 3, cells := 1, slots := 1, locals := 38 } : Room)) (fun a U => a = #[(.int p1)] ∧ Z.Warmed39 U.vm ∧ U.heap = h0) (fun _ _ _ _ _ => True) (fun _ U o U' => ∃ v L, o = .returned v ∧ Q_vo Z p1 wC cC h0 n0 v U'.heap L ∧ FrameEnd U o U' L ({ frames := 3, cells := 1, slots := 1, locals := 38 } : Room).cells ({ frames := 3, cells := 1, slots := 1, locals := 38 } : Room).slots) := by
  refine MetFree.of_bodySF (plainFor_of_name pn_7) hisR ?_
  intro p e s m args below meth c s₁ Bd hml0 hP hK
  obtain ⟨rfl, hZ, hh⟩ := hP
  have hx := Bd.exec
  have hby := Bd.bytes
  have hml : c.maxLocals = 1 := hml0
  have hown : s.vm.findClass "java/lang/Integer" = some m.cls := findClass_of_methodNamed Bd.named
  have hnm := (name_of_methodNamed Bd.named Bd.method).1
  have X0 : Stand p l e ({ frames := 3, cells := 1, slots := 1, locals := 38 } : Room) s m #[(.int p1)] below meth c s₁ [] 0 0 := Stand.of_body Bd
  have e0 : s₁.heap = h0 := by rw [← hh, Bd.state]; rfl
  have N0 := Fr.nil n0
  have pre0 : ∀ t, Steps p.tables e below (s₁.setTop (mkF m 0 #[.val (.int p1)] [])) t → Steps p.tables e below (s₁.setTop (entryFrame m #[(.int p1)] 1)) t := fun t k => castTop (ef_7 m p1) k
  have KR_0 := Keep.refl h0 ([] : List Addr)
  have P1 : ∀ t, Steps p.tables e below (s₁.setTop (mkF m 3 #[.val (.int p1)] [(.int (-128 : Int32)), (.int p1)])) t → Steps p.tables e below (s₁.setTop (mkF m 0 #[.val (.int p1)] [])) t := fun t k => by
    show Steps p.tables e below (s₁.setTop (mkF m 0 #[.val (.int p1)] [])) t
    refine XS.iloadN X0.here hx rfl (hb hby d7_0) rfl ?_
    show Steps p.tables e below (s₁.setTop (mkF m 1 #[.val (.int p1)] [(.int p1)])) t
    refine XS.bipush X0.here hx rfl (hb hby d7_1) ?_
    exact k
  by_cases hc2 : p1 < (-128 : Int32)
  · have P3 : ∀ t, Steps p.tables e below (s₁.setTop (mkF m 23 #[.val (.int p1)] [])) t → Steps p.tables e below (s₁.setTop (mkF m 0 #[.val (.int p1)] [])) t := fun t k => by
      refine P1 t ?_
      show Steps p.tables e below (s₁.setTop (mkF m 3 #[.val (.int p1)] [(.int (-128 : Int32)), (.int p1)])) t
      refine XS.icmpYes X0.here hx rfl (pc0 := 3) (pc' := 23) rfl (hb hby d7_3) rfl (tlt hc2).1 (by decide) (by decide) ?_
      exact k
    obtain ⟨T4, h4, X4, e4, E4, A4, D4, -, st4⟩ := newO X0 hx hZ hown (hw _ (List.mem_of_getElem? (i := 68) rfl)) (hw _ (List.mem_of_getElem? (i := 69) rfl)) (hw _ (List.mem_of_getElem? (i := 42) rfl)) e0 (g := (mkF m 23 #[.val (.int p1)] [])) rfl (hb hby d7_23) (by decide) (by decide)
    obtain ⟨b4, g4⟩ : ∃ z, z = h0.size := ⟨_, rfl⟩
    rw [← g4] at A4 D4 st4
    have g_b4 : n0 ≤ b4 := Nat.le_trans Z0 (Nat.le_of_eq g4.symm)
    have sz_b4 : h0.size ≤ b4 := Nat.le_trans KR_0.1 (Nat.le_of_eq g4.symm)
    have OL_4 := OL_0.ext E4
    have KR_4 := KR_0.ext E4
    have Z_5 : n0 ≤ h4.size := Nat.le_trans Z0 E4.1
    have F_value_b4 : Fld Z h4 b4 "java/lang/Integer" "value" "I" (.int (0 : Int32)) := D4 (Or.inr (hw _ (List.mem_of_getElem? (i := 82) rfl))) (ty := .int) (by decide)
    have P6 : ∀ t, Steps p.tables e below (T4.setTop (mkF m 26 #[.val (.int p1)] [(.ref b4)])) t → Steps p.tables e below (s₁.setTop (mkF m 0 #[.val (.int p1)] [])) t := fun t k => P3 t (st4 _ k)
    have P7 : ∀ t, Steps p.tables e below (T4.setTop (mkF m 28 #[.val (.int p1)] [(.int p1), (.ref b4), (.ref b4)])) t → Steps p.tables e below (s₁.setTop (mkF m 0 #[.val (.int p1)] [])) t := fun t k => by
      refine P6 t ?_
      show Steps p.tables e below (T4.setTop (mkF m 26 #[.val (.int p1)] [(.ref b4)])) t
      refine XS.dup X4.here hx rfl (hb hby d7_26) rfl rfl ?_
      show Steps p.tables e below (T4.setTop (mkF m 27 #[.val (.int p1)] [(.ref b4), (.ref b4)])) t
      refine XS.iloadN X4.here hx rfl (hb hby d7_27) rfl ?_
      exact k
    obtain ⟨_, _, ⟨T8, L8, k8, n8⟩, -, X8, ⟨Lc8, hQ8, l8, y8, z8⟩, st8⟩ := X4.specialBack hx (y := (⟨"java/lang/Integer", "<init>", "(I)V"⟩ : MethodName)) rfl hown (mvT hZ (hw _ (List.mem_of_getElem? (i := 70) rfl))) (mvT hZ (hw _ (List.mem_of_getElem? (i := 71) rfl))) (mvT hZ (hw _ (List.mem_of_getElem? (i := 73) rfl))) (by decide) (backOf (W := 1) (rm_boxi l Z a0 hw [] b4 p1 h4 n0 Z_5 A4 F_value_b4 g_b4) hZ (hw _ (List.mem_of_getElem? (i := 73) rfl)) (hw _ (List.mem_of_getElem? (i := 42) rfl)) (by decide) (by decide)) (g := (mkF m 28 #[.val (.int p1)] [(.int p1), (.ref b4), (.ref b4)])) rfl (by rw [hml]; rfl) (Steps.refl _) (a := b4) (argsL := [(.int p1)]) (rest := [(.ref b4)]) (lenOf pd__I_V rfl) rfl (by show 2 * 0 + _ ≤ _; exact Nat.le_of_eq rfl) (hb hby d7_28) (fun _ _ => ⟨rfl, e4, (by decide : 1 + 0 ≤ _), (by decide : 1 + 0 ≤ _)⟩)
    dsimp only [Pt.U, Pt.locs, Pt.cells, Pt.slots] at X8 l8 y8 z8 st8 hQ8
    subst l8 y8 z8
    obtain ⟨rfl, N8q, K8, E8x, F8x⟩ := hQ8
    have OL_8 := OL_4.keep K8 (allS g_b4 all0)
    have KR_8 := KR_4.trans K8 (allS (Or.inr sz_b4) all0)
    have A4_8 := A4.keep K8
    have Z_9 : n0 ≤ T8.heap.size := Nat.le_trans Z_5 K8.1
    have N8 := Fr.app N0 N8q
    have P10 : ∀ t, Steps p.tables e below (T8.setTop (mkF m 31 #[.val (.int p1)] [(.ref b4)])) t → Steps p.tables e below (s₁.setTop (mkF m 0 #[.val (.int p1)] [])) t := fun t k => P7 t (st8.trans k)
    obtain ⟨fs, hr, hrun, hended, hW, hsame⟩ := X8.leave (v := some (.ref b4)) (fun h => by rw [Bd.returns] at h; cases h)
    refine ⟨_, _, pre0 _ (P10 _ ?_), hrun, hended, _, _, rfl, ?_, ⟨_, rfl⟩, hW, hsame.mono (by decide) (by decide)⟩
    · jvm_step X8.here [X8.here.top, hx, (hb hby d7_31), X8.method', Bd.returns, Value.isRef, FieldType.isReference]
      first | (intro acts; rw [hr _ acts rfl rfl rfl]) | rw [hr _ _ rfl rfl rfl]
      exact Steps.refl _
    · show Q_vo Z p1 wC cC h0 n0 _ T8.heap _
      exact ⟨b4, rfl, N8, KR_8, A4_8⟩
  · have P11 : ∀ t, Steps p.tables e below (s₁.setTop (mkF m 7 #[.val (.int p1)] [(.int p1)])) t → Steps p.tables e below (s₁.setTop (mkF m 0 #[.val (.int p1)] [])) t := fun t k => by
      refine P1 t ?_
      show Steps p.tables e below (s₁.setTop (mkF m 3 #[.val (.int p1)] [(.int (-128 : Int32)), (.int p1)])) t
      refine XS.icmpNo X0.here hx rfl (hb hby d7_3) rfl (flt hc2).1 ?_
      show Steps p.tables e below (s₁.setTop (mkF m 6 #[.val (.int p1)] [])) t
      refine XS.iloadN X0.here hx rfl (hb hby d7_6) rfl ?_
      exact k
    obtain ⟨T12, X12, e12, st12⟩ := getS2 X0 hx hZ hown (host := "") (Or.inl (hw _ (List.mem_of_getElem? (i := 44) rfl))) Via.refl e0 (S_high.ext OL_0.2) (g := (mkF m 7 #[.val (.int p1)] [(.int p1)])) rfl (hb hby d7_7)
    have P13 : ∀ t, Steps p.tables e below (T12.setTop (mkF m 10 #[.val (.int p1)] [(.int (127 : Int32)), (.int p1)])) t → Steps p.tables e below (s₁.setTop (mkF m 0 #[.val (.int p1)] [])) t := fun t k => P11 t (st12 _ k)
    by_cases hc14 : (127 : Int32) < p1
    · have P15 : ∀ t, Steps p.tables e below (T12.setTop (mkF m 23 #[.val (.int p1)] [])) t → Steps p.tables e below (s₁.setTop (mkF m 0 #[.val (.int p1)] [])) t := fun t k => by
        refine P13 t ?_
        show Steps p.tables e below (T12.setTop (mkF m 10 #[.val (.int p1)] [(.int (127 : Int32)), (.int p1)])) t
        refine XS.icmpYes X12.here hx rfl (pc0 := 10) (pc' := 23) rfl (hb hby d7_10) rfl (tlt hc14).2.2.1 (by decide) (by decide) ?_
        exact k
      obtain ⟨T16, h16, X16, e16, E16, A16, D16, -, st16⟩ := newO X12 hx hZ hown (hw _ (List.mem_of_getElem? (i := 68) rfl)) (hw _ (List.mem_of_getElem? (i := 69) rfl)) (hw _ (List.mem_of_getElem? (i := 42) rfl)) e12 (g := (mkF m 23 #[.val (.int p1)] [])) rfl (hb hby d7_23) (by decide) (by decide)
      obtain ⟨b16, g16⟩ : ∃ z, z = h0.size := ⟨_, rfl⟩
      rw [← g16] at A16 D16 st16
      have g_b16 : n0 ≤ b16 := Nat.le_trans Z0 (Nat.le_of_eq g16.symm)
      have sz_b16 : h0.size ≤ b16 := Nat.le_trans KR_0.1 (Nat.le_of_eq g16.symm)
      have OL_16 := OL_0.ext E16
      have KR_16 := KR_0.ext E16
      have Z_17 : n0 ≤ h16.size := Nat.le_trans Z0 E16.1
      have F_value_b16 : Fld Z h16 b16 "java/lang/Integer" "value" "I" (.int (0 : Int32)) := D16 (Or.inr (hw _ (List.mem_of_getElem? (i := 82) rfl))) (ty := .int) (by decide)
      have P18 : ∀ t, Steps p.tables e below (T16.setTop (mkF m 26 #[.val (.int p1)] [(.ref b16)])) t → Steps p.tables e below (s₁.setTop (mkF m 0 #[.val (.int p1)] [])) t := fun t k => P15 t (st16 _ k)
      have P19 : ∀ t, Steps p.tables e below (T16.setTop (mkF m 28 #[.val (.int p1)] [(.int p1), (.ref b16), (.ref b16)])) t → Steps p.tables e below (s₁.setTop (mkF m 0 #[.val (.int p1)] [])) t := fun t k => by
        refine P18 t ?_
        show Steps p.tables e below (T16.setTop (mkF m 26 #[.val (.int p1)] [(.ref b16)])) t
        refine XS.dup X16.here hx rfl (hb hby d7_26) rfl rfl ?_
        show Steps p.tables e below (T16.setTop (mkF m 27 #[.val (.int p1)] [(.ref b16), (.ref b16)])) t
        refine XS.iloadN X16.here hx rfl (hb hby d7_27) rfl ?_
        exact k
      obtain ⟨_, _, ⟨T20, L20, k20, n20⟩, -, X20, ⟨Lc20, hQ20, l20, y20, z20⟩, st20⟩ := X16.specialBack hx (y := (⟨"java/lang/Integer", "<init>", "(I)V"⟩ : MethodName)) rfl hown (mvT hZ (hw _ (List.mem_of_getElem? (i := 70) rfl))) (mvT hZ (hw _ (List.mem_of_getElem? (i := 71) rfl))) (mvT hZ (hw _ (List.mem_of_getElem? (i := 73) rfl))) (by decide) (backOf (W := 1) (rm_boxi l Z a0 hw [] b16 p1 h16 n0 Z_17 A16 F_value_b16 g_b16) hZ (hw _ (List.mem_of_getElem? (i := 73) rfl)) (hw _ (List.mem_of_getElem? (i := 42) rfl)) (by decide) (by decide)) (g := (mkF m 28 #[.val (.int p1)] [(.int p1), (.ref b16), (.ref b16)])) rfl (by rw [hml]; rfl) (Steps.refl _) (a := b16) (argsL := [(.int p1)]) (rest := [(.ref b16)]) (lenOf pd__I_V rfl) rfl (by show 2 * 0 + _ ≤ _; exact Nat.le_of_eq rfl) (hb hby d7_28) (fun _ _ => ⟨rfl, e16, (by decide : 1 + 0 ≤ _), (by decide : 1 + 0 ≤ _)⟩)
      dsimp only [Pt.U, Pt.locs, Pt.cells, Pt.slots] at X20 l20 y20 z20 st20 hQ20
      subst l20 y20 z20
      obtain ⟨rfl, N20q, K20, E20x, F20x⟩ := hQ20
      have OL_20 := OL_16.keep K20 (allS g_b16 all0)
      have KR_20 := KR_16.trans K20 (allS (Or.inr sz_b16) all0)
      have A16_20 := A16.keep K20
      have Z_21 : n0 ≤ T20.heap.size := Nat.le_trans Z_17 K20.1
      have N20 := Fr.app N0 N20q
      have P22 : ∀ t, Steps p.tables e below (T20.setTop (mkF m 31 #[.val (.int p1)] [(.ref b16)])) t → Steps p.tables e below (s₁.setTop (mkF m 0 #[.val (.int p1)] [])) t := fun t k => P19 t (st20.trans k)
      obtain ⟨fs, hr, hrun, hended, hW, hsame⟩ := X20.leave (v := some (.ref b16)) (fun h => by rw [Bd.returns] at h; cases h)
      refine ⟨_, _, pre0 _ (P22 _ ?_), hrun, hended, _, _, rfl, ?_, ⟨_, rfl⟩, hW, hsame.mono (by decide) (by decide)⟩
      · jvm_step X20.here [X20.here.top, hx, (hb hby d7_31), X20.method', Bd.returns, Value.isRef, FieldType.isReference]
        first | (intro acts; rw [hr _ acts rfl rfl rfl]) | rw [hr _ _ rfl rfl rfl]
        exact Steps.refl _
      · show Q_vo Z p1 wC cC h0 n0 _ T20.heap _
        exact ⟨b16, rfl, N20, KR_20, A16_20⟩
    · have P23 : ∀ t, Steps p.tables e below (T12.setTop (mkF m 13 #[.val (.int p1)] [])) t → Steps p.tables e below (s₁.setTop (mkF m 0 #[.val (.int p1)] [])) t := fun t k => by
        refine P13 t ?_
        show Steps p.tables e below (T12.setTop (mkF m 10 #[.val (.int p1)] [(.int (127 : Int32)), (.int p1)])) t
        refine XS.icmpNo X12.here hx rfl (hb hby d7_10) rfl (flt hc14).2.2.1 ?_
        exact k
      obtain ⟨T24, X24, e24, st24⟩ := getS2 X12 hx hZ hown (host := "") (Or.inl (hw _ (List.mem_of_getElem? (i := 46) rfl))) Via.refl e12 (S_cache.ext OL_0.2) (g := (mkF m 13 #[.val (.int p1)] [])) rfl (hb hby d7_13)
      have P25 : ∀ t, Steps p.tables e below (T24.setTop (mkF m 16 #[.val (.int p1)] [(.ref wC)])) t → Steps p.tables e below (s₁.setTop (mkF m 0 #[.val (.int p1)] [])) t := fun t k => P23 t (st24 _ k)
      have hpl := (Jvm.Free.IntBox.place_ok p1 hc2 hc14).1
      have hin : ¬ ((p1 + (128 : Int32)) < 0 ∨ cC.slots.size ≤ ((p1 + (128 : Int32))).toNatClampNeg) := by
        have e := BX.2.1; rw [show (256 : Int32).toNatClampNeg = 256 from rfl] at e; rw [e]; exact hpl
      obtain ⟨bx, hbx, EX, -⟩ := BX.2.2.2 _ hin
      have ArC := BX.1.ext OL_0.2
      have EXh := EX.ext OL_0.2
      have P26 : ∀ t, Steps p.tables e below (T24.setTop (mkF m 22 #[.val (.int p1)] [(.ref bx)])) t → Steps p.tables e below (s₁.setTop (mkF m 0 #[.val (.int p1)] [])) t := fun t k => by
        refine P25 t ?_
        show Steps p.tables e below (T24.setTop (mkF m 16 #[.val (.int p1)] [(.ref wC)])) t
        refine XS.iloadN X24.here hx rfl (hb hby d7_16) rfl ?_
        show Steps p.tables e below (T24.setTop (mkF m 17 #[.val (.int p1)] [(.int p1), (.ref wC)])) t
        refine XS.sipush X24.here hx rfl (hb hby d7_17) ?_
        show Steps p.tables e below (T24.setTop (mkF m 20 #[.val (.int p1)] [(.int (128 : Int32)), (.int p1), (.ref wC)])) t
        refine XS.iadd X24.here hx rfl (hb hby d7_20) rfl ?_
        show Steps p.tables e below (T24.setTop (mkF m 21 #[.val (.int p1)] [(.int (p1 + (128 : Int32))), (.ref wC)])) t
        refine X24.aaload hx (j := (p1 + (128 : Int32))) (v := (.ref bx)) (by rw [e24]; exact ArC.1) (State.isArrayOf_alike hZ.alike ArC.2.1) rfl ArC.2.2 hin hbx (g := (mkF m 21 #[.val (.int p1)] [(.int (p1 + (128 : Int32))), (.ref wC)])) rfl rfl (hb hby d7_21) _ ?_
        exact k
      obtain ⟨fs, hr, hrun, hended, hW, hsame⟩ := X24.leave (v := some (.ref bx)) (fun h => by rw [Bd.returns] at h; cases h)
      refine ⟨_, _, pre0 _ (P26 _ ?_), hrun, hended, _, _, rfl, ?_, ⟨_, rfl⟩, hW, hsame.mono (by decide) (by decide)⟩
      · jvm_step X24.here [X24.here.top, hx, (hb hby d7_22), X24.method', Bd.returns, Value.isRef, FieldType.isReference]
        first | (intro acts; rw [hr _ acts rfl rfl rfl]) | rw [hr _ _ rfl rfl rfl]
        exact Steps.refl _
      · show Q_vo Z p1 wC cC h0 n0 _ T24.heap _
        rw [e24]
        exact ⟨bx, rfl, N0, KR_0, EXh⟩
theorem pn_5 : plainName "java/util/Arrays" = true := by first | (simp [plainName, overriddenIn]; done) | decide +kernel
theorem ef_5 (m : MethodId) (x0 : Int32) (x1 : Int32) (x2 : Int32) : entryFrame m #[(.int x0), (.int x1), (.int x2)] 3 = mkF m 0 #[.val (.int x0), .val (.int x1), .val (.int x2)] [] := by first | (simp [entryFrame, mkF, argsToLocals, Value.category]; done) | rfl
theorem d5_0 : decode jdk_65_method_30_code 0 = .ok (.iload_n 1, 1) := by decide +kernel
theorem d5_1 : decode jdk_65_method_30_code 1 = .ok (.iload_n 2, 1) := by decide +kernel
theorem d5_2 : decode jdk_65_method_30_code 2 = .ok (.if_icmp .le 44, 3) := by decide +kernel
theorem d5_46 : decode jdk_65_method_30_code 46 = .ok (.iload_n 1, 1) := by decide +kernel
theorem d5_47 : decode jdk_65_method_30_code 47 = .ok (.ifCond .ge 12, 3) := by decide +kernel
theorem d5_59 : decode jdk_65_method_30_code 59 = .ok (.iload_n 2, 1) := by decide +kernel
theorem d5_60 : decode jdk_65_method_30_code 60 = .ok (.iload_n 0, 1) := by decide +kernel
theorem d5_61 : decode jdk_65_method_30_code 61 = .ok (.if_icmp .le 12, 3) := by decide +kernel
theorem d5_73 : decode jdk_65_method_30_code 73 = .ok (.return_, 1) := by decide +kernel
def Q_rc (Z : State) (p1 p2 p3 : Int32) (h0 : Heap) (n0 : Nat) (v : Option Value) (h : Heap) (L : List Loc) : Prop := v = none ∧ Fr n0 L ∧ h = h0
set_option maxRecDepth 65536 in
set_option maxHeartbeats 40000000 in
theorem rm_rc (l : Launch) (Z : State) (a0 : Array Value) (hw : ∀ d ∈ tables_1, d.before a0 Z = true) (ws : List Jvm.Cond) (p1 p2 p3 : Int32) (h0 : Heap) (n0 : Nat) (Z0 : n0 ≤ h0.size) (h1 : ¬ p3 < p2) (h2 : ¬ p2 < (0 : Int32)) (h3 : ¬ p1 < p3) :
    MetFree l (⟨"java/util/Arrays", "rangeCheck", "(III)V"⟩ : MethodName) (head1 (Jvm.Cond.code (⟨"java/util/Arrays", "rangeCheck", "(III)V"⟩ : MethodName) jdk_65_method_30_code 3 none :: ws) ({ frames := 0, cells := 0, slots := 0, locals := 0 } : Room)) (fun a U => a = #[(.int p1), (.int p2), (.int p3)] ∧ Z.Warmed39 U.vm ∧ U.heap = h0) (fun _ _ _ _ _ => True) (fun _ U o U' => ∃ v L, o = .returned v ∧ Q_rc Z p1 p2 p3 h0 n0 v U'.heap L ∧ FrameEnd U o U' L ({ frames := 0, cells := 0, slots := 0, locals := 0 } : Room).cells ({ frames := 0, cells := 0, slots := 0, locals := 0 } : Room).slots) := by
  refine MetFree.of_bodySF (plainFor_of_name pn_5) hisR ?_
  intro p e s m args below meth c s₁ Bd hml0 hP hK
  obtain ⟨rfl, hZ, hh⟩ := hP
  have hx := Bd.exec
  have hby := Bd.bytes
  have hml : c.maxLocals = 3 := hml0
  have hown : s.vm.findClass "java/util/Arrays" = some m.cls := findClass_of_methodNamed Bd.named
  have hnm := (name_of_methodNamed Bd.named Bd.method).1
  have X0 : Stand p l e ({ frames := 0, cells := 0, slots := 0, locals := 0 } : Room) s m #[(.int p1), (.int p2), (.int p3)] below meth c s₁ [] 0 0 := Stand.of_body Bd
  have e0 : s₁.heap = h0 := by rw [← hh, Bd.state]; rfl
  have N0 := Fr.nil n0
  have pre0 : ∀ t, Steps p.tables e below (s₁.setTop (mkF m 0 #[.val (.int p1), .val (.int p2), .val (.int p3)] [])) t → Steps p.tables e below (s₁.setTop (entryFrame m #[(.int p1), (.int p2), (.int p3)] 3)) t := fun t k => castTop (ef_5 m p1 p2 p3) k
  have P1 : ∀ t, Steps p.tables e below (s₁.setTop (mkF m 73 #[.val (.int p1), .val (.int p2), .val (.int p3)] [])) t → Steps p.tables e below (s₁.setTop (mkF m 0 #[.val (.int p1), .val (.int p2), .val (.int p3)] [])) t := fun t k => by
    show Steps p.tables e below (s₁.setTop (mkF m 0 #[.val (.int p1), .val (.int p2), .val (.int p3)] [])) t
    refine XS.iloadN X0.here hx rfl (hb hby d5_0) rfl ?_
    show Steps p.tables e below (s₁.setTop (mkF m 1 #[.val (.int p1), .val (.int p2), .val (.int p3)] [(.int p2)])) t
    refine XS.iloadN X0.here hx rfl (hb hby d5_1) rfl ?_
    show Steps p.tables e below (s₁.setTop (mkF m 2 #[.val (.int p1), .val (.int p2), .val (.int p3)] [(.int p3), (.int p2)])) t
    refine XS.icmpYes X0.here hx rfl (pc0 := 2) (pc' := 46) rfl (hb hby d5_2) rfl (flt h1).2.2.2 (by decide) (by decide) ?_
    show Steps p.tables e below (s₁.setTop (mkF m 46 #[.val (.int p1), .val (.int p2), .val (.int p3)] [])) t
    refine XS.iloadN X0.here hx rfl (hb hby d5_46) rfl ?_
    show Steps p.tables e below (s₁.setTop (mkF m 47 #[.val (.int p1), .val (.int p2), .val (.int p3)] [(.int p2)])) t
    refine XS.ifYes X0.here hx rfl (pc0 := 47) (pc' := 59) rfl (hb hby d5_47) rfl ((if0 _ _).trans (flt h2).2.1) (by decide) (by decide) ?_
    show Steps p.tables e below (s₁.setTop (mkF m 59 #[.val (.int p1), .val (.int p2), .val (.int p3)] [])) t
    refine XS.iloadN X0.here hx rfl (hb hby d5_59) rfl ?_
    show Steps p.tables e below (s₁.setTop (mkF m 60 #[.val (.int p1), .val (.int p2), .val (.int p3)] [(.int p3)])) t
    refine XS.iloadN X0.here hx rfl (hb hby d5_60) rfl ?_
    show Steps p.tables e below (s₁.setTop (mkF m 61 #[.val (.int p1), .val (.int p2), .val (.int p3)] [(.int p1), (.int p3)])) t
    refine XS.icmpYes X0.here hx rfl (pc0 := 61) (pc' := 73) rfl (hb hby d5_61) rfl (flt h3).2.2.2 (by decide) (by decide) ?_
    exact k
  obtain ⟨fs, hr, hrun, hended, hW, hsame⟩ := X0.leave (v := none) (fun _ => rfl)
  refine ⟨_, _, pre0 _ (P1 _ ?_), hrun, hended, _, _, rfl, ?_, ⟨_, rfl⟩, hW, hsame.mono (by decide) (by decide)⟩
  · exact X0.returnOut hx Bd.returns (hb hby d5_73) hr
  · show Q_rc Z p1 p2 p3 h0 n0 _ s₁.heap _
    rw [e0]
    exact ⟨rfl, N0, rfl⟩
theorem d4_10 : decode jdk_65_method_104_code 10 = .ok (.iload 4, 2) := by decide +kernel
theorem d4_12 : decode jdk_65_method_104_code 12 = .ok (.iload_n 2, 1) := by decide +kernel
theorem d4_13 : decode jdk_65_method_104_code 13 = .ok (.if_icmp .ge 14, 3) := by decide +kernel
theorem d4_16 : decode jdk_65_method_104_code 16 = .ok (.aload_n 0, 1) := by decide +kernel
theorem d4_17 : decode jdk_65_method_104_code 17 = .ok (.iload 4, 2) := by decide +kernel
theorem d4_19 : decode jdk_65_method_104_code 19 = .ok (.iload_n 3, 1) := by decide +kernel
theorem d4_20 : decode jdk_65_method_104_code 20 = .ok (.iastore, 1) := by decide +kernel
theorem d4_21 : decode jdk_65_method_104_code 21 = .ok (.iinc 4 1, 3) := by decide +kernel
theorem d4_24 : decode jdk_65_method_104_code 24 = .ok (.goto (-14), 3) := by decide +kernel
set_option maxRecDepth 65536 in
set_option maxHeartbeats 40000000 in
theorem own_turn {p : Program} {l : Launch} {e : Env} {R : Room} {s : State} {m : MethodId} {args : Array Value} {below : List Frame} {meth : Method} {c : Code} {cells slots : Nat} {Z : State} {T0 : State} {locs : List Loc} {h0 : Heap} {n0 : Nat} (a1 : Addr) (p2 p3 p4 i : Int32) (X0 : Stand p l e R s m args below meth c T0 locs cells slots) (hx : p.tables.exec = Jvm.exec) (hZ : Z.Warmed39 s.vm) (hby : c.code = jdk_65_method_104_code) (e0 : T0.heap = h0) (hlt : i < p3) {cl : Cell} (A : Arr Z h0 a1 cl .int) (hin : ¬ (i < 0 ∨ cl.slots.size ≤ i.toNatClampNeg)) (N0 : Fr n0 locs) (g_a1 : n0 ≤ a1) :
    ∃ (T' : State) (h' : Heap), Stand p l e R s m args below meth c T' (locs ++ [⟨a1, i.toNatClampNeg⟩]) cells slots ∧ T'.heap = h' ∧ Wr h0 h' a1 i.toNatClampNeg (.int p4) ∧ ∀ t, Steps p.tables e below (T'.setTop (mkF m 10 #[.val (.ref a1), .val (.int p2), .val (.int p3), .val (.int p4), .val (.int (i + (1 : Int32)))] [])) t → Steps p.tables e below (T0.setTop (mkF m 10 #[.val (.ref a1), .val (.int p2), .val (.int p3), .val (.int p4), .val (.int i)] [])) t := by
  have P1 : ∀ t, Steps p.tables e below (T0.setTop (mkF m 20 #[.val (.ref a1), .val (.int p2), .val (.int p3), .val (.int p4), .val (.int i)] [(.int p4), (.int i), (.ref a1)])) t → Steps p.tables e below (T0.setTop (mkF m 10 #[.val (.ref a1), .val (.int p2), .val (.int p3), .val (.int p4), .val (.int i)] [])) t := fun t k => by
    show Steps p.tables e below (T0.setTop (mkF m 10 #[.val (.ref a1), .val (.int p2), .val (.int p3), .val (.int p4), .val (.int i)] [])) t
    refine XS.iload X0.here hx rfl (hb hby d4_10) rfl ?_
    show Steps p.tables e below (T0.setTop (mkF m 12 #[.val (.ref a1), .val (.int p2), .val (.int p3), .val (.int p4), .val (.int i)] [(.int i)])) t
    refine XS.iloadN X0.here hx rfl (hb hby d4_12) rfl ?_
    show Steps p.tables e below (T0.setTop (mkF m 13 #[.val (.ref a1), .val (.int p2), .val (.int p3), .val (.int p4), .val (.int i)] [(.int p3), (.int i)])) t
    refine XS.icmpNo X0.here hx rfl (hb hby d4_13) rfl (tlt hlt).2.1 ?_
    show Steps p.tables e below (T0.setTop (mkF m 16 #[.val (.ref a1), .val (.int p2), .val (.int p3), .val (.int p4), .val (.int i)] [])) t
    refine XS.aloadN X0.here hx rfl (hb hby d4_16) rfl rfl ?_
    show Steps p.tables e below (T0.setTop (mkF m 17 #[.val (.ref a1), .val (.int p2), .val (.int p3), .val (.int p4), .val (.int i)] [(.ref a1)])) t
    refine XS.iload X0.here hx rfl (hb hby d4_17) rfl ?_
    show Steps p.tables e below (T0.setTop (mkF m 19 #[.val (.ref a1), .val (.int p2), .val (.int p3), .val (.int p4), .val (.int i)] [(.int i), (.ref a1)])) t
    refine XS.iloadN X0.here hx rfl (hb hby d4_19) rfl ?_
    exact k
  obtain ⟨T2, h2, X2, e2, W2, st2⟩ := stI X0 hx hZ e0 A (j := i) hin (g := (mkF m 20 #[.val (.ref a1), .val (.int p2), .val (.int p3), .val (.int p4), .val (.int i)] [(.int p4), (.int i), (.ref a1)])) rfl rfl (hb hby d4_20)
  have N2 := Fr.snoc X2 N0 g_a1
  have P3 : ∀ t, Steps p.tables e below (T2.setTop (mkF m 21 #[.val (.ref a1), .val (.int p2), .val (.int p3), .val (.int p4), .val (.int i)] [])) t → Steps p.tables e below (T0.setTop (mkF m 10 #[.val (.ref a1), .val (.int p2), .val (.int p3), .val (.int p4), .val (.int i)] [])) t := fun t k => P1 t (st2 _ k)
  have P4 : ∀ t, Steps p.tables e below (T2.setTop (mkF m 10 #[.val (.ref a1), .val (.int p2), .val (.int p3), .val (.int p4), .val (.int (i + (1 : Int32)))] [])) t → Steps p.tables e below (T0.setTop (mkF m 10 #[.val (.ref a1), .val (.int p2), .val (.int p3), .val (.int p4), .val (.int i)] [])) t := fun t k => by
    refine P3 t ?_
    show Steps p.tables e below (T2.setTop (mkF m 21 #[.val (.ref a1), .val (.int p2), .val (.int p3), .val (.int p4), .val (.int i)] [])) t
    refine XS.iinc X2.here hx rfl (hb hby d4_21) rfl (l' := #[.val (.ref a1), .val (.int p2), .val (.int p3), .val (.int p4), .val (.int (i + (1 : Int32)))]) rfl ?_
    show Steps p.tables e below (T2.setTop (mkF m 24 #[.val (.ref a1), .val (.int p2), .val (.int p3), .val (.int p4), .val (.int (i + (1 : Int32)))] [])) t
    refine XS.goto X2.here hx rfl (pc0 := 24) (pc' := 10) rfl (hb hby d4_24) (by decide) (by decide) ?_
    exact k
  exact ⟨T2, h2, X2, e2, W2, P4⟩
set_option maxRecDepth 65536 in
set_option maxHeartbeats 40000000 in
theorem own_out {p : Program} {l : Launch} {e : Env} {R : Room} {s : State} {m : MethodId} {args : Array Value} {below : List Frame} {meth : Method} {c : Code} {cells slots : Nat} {Z : State} {T0 : State} {locs : List Loc} {h0 : Heap} {n0 : Nat} (a1 : Addr) (p2 p3 p4 i : Int32) (X0 : Stand p l e R s m args below meth c T0 locs cells slots) (hx : p.tables.exec = Jvm.exec) (hZ : Z.Warmed39 s.vm) (hby : c.code = jdk_65_method_104_code) (e0 : T0.heap = h0) (hge : ¬ i < p3) :
    ∀ t, Steps p.tables e below (T0.setTop (mkF m 27 #[.val (.ref a1), .val (.int p2), .val (.int p3), .val (.int p4), .val (.int i)] [])) t → Steps p.tables e below (T0.setTop (mkF m 10 #[.val (.ref a1), .val (.int p2), .val (.int p3), .val (.int p4), .val (.int i)] [])) t := by
  have P1 : ∀ t, Steps p.tables e below (T0.setTop (mkF m 27 #[.val (.ref a1), .val (.int p2), .val (.int p3), .val (.int p4), .val (.int i)] [])) t → Steps p.tables e below (T0.setTop (mkF m 10 #[.val (.ref a1), .val (.int p2), .val (.int p3), .val (.int p4), .val (.int i)] [])) t := fun t k => by
    show Steps p.tables e below (T0.setTop (mkF m 10 #[.val (.ref a1), .val (.int p2), .val (.int p3), .val (.int p4), .val (.int i)] [])) t
    refine XS.iload X0.here hx rfl (hb hby d4_10) rfl ?_
    show Steps p.tables e below (T0.setTop (mkF m 12 #[.val (.ref a1), .val (.int p2), .val (.int p3), .val (.int p4), .val (.int i)] [(.int i)])) t
    refine XS.iloadN X0.here hx rfl (hb hby d4_12) rfl ?_
    show Steps p.tables e below (T0.setTop (mkF m 13 #[.val (.ref a1), .val (.int p2), .val (.int p3), .val (.int p4), .val (.int i)] [(.int p3), (.int i)])) t
    refine XS.icmpYes X0.here hx rfl (pc0 := 13) (pc' := 27) rfl (hb hby d4_13) rfl (flt hge).2.1 (by decide) (by decide) ?_
    exact k
  exact P1
set_option maxHeartbeats 4000000 in
theorem own_loop {p : Program} {l : Launch} {e : Env} {R : Room} {s : State} {m : MethodId} {args : Array Value} {below : List Frame} {meth : Method} {c : Code} {cells slots : Nat} {Z : State} {n0 : Nat} (a1 : Addr) (p2 p3 p4 n : Int32) (hx : p.tables.exec = Jvm.exec) (hZ : Z.Warmed39 s.vm) (hby : c.code = jdk_65_method_104_code) (g_a1 : n0 ≤ a1) (hn : p3.toInt ≤ n.toInt) :
    ∀ (k : Nat) (i : Int32) (T0 : State) (locs : List Loc) (h0 : Heap) (φ : Int → Int32), (p3.toInt - i.toInt).toNat = k → 0 ≤ i.toInt → i.toInt ≤ p3.toInt → Stand p l e R s m args below meth c T0 locs cells slots → T0.heap = h0 → own_Arf Z h0 a1 n φ → Fr n0 locs →
      ∃ (T' : State) (h' : Heap) (locs' : List Loc), Stand p l e R s m args below meth c T' locs' cells slots ∧ T'.heap = h' ∧ Fr n0 locs' ∧ Keep h0 h' [a1] ∧ own_Arf Z h' a1 n (own_fill φ i.toInt p3.toInt p4) ∧ ∀ t, Steps p.tables e below (T'.setTop (mkF m 27 #[.val (.ref a1), .val (.int p2), .val (.int p3), .val (.int p4), .val (.int p3)] [])) t → Steps p.tables e below (T0.setTop (mkF m 10 #[.val (.ref a1), .val (.int p2), .val (.int p3), .val (.int p4), .val (.int i)] [])) t := by
  intro k
  induction k with
  | zero =>
    intro i T0 locs h0 φ hk h0i hip X0 e0 F N0
    have e1 : i = p3 := Int32.toInt_inj.mp (by omega)
    subst e1
    refine ⟨T0, h0, locs, X0, e0, N0, Keep.refl _ _, F.to fun x => ?_, own_out a1 p2 i p4 i X0 hx hZ hby e0 (by rw [Int32.lt_iff_toInt_lt]; omega) (n0 := n0)⟩
    simp only [own_fill]; rw [if_neg (by omega)]
  | succ k ih =>
    intro i T0 locs h0 φ hk h0i hip X0 e0 F N0
    obtain ⟨cl, A, S, N, H⟩ := F
    have hin := own_in (j := i) S N h0i (by omega)
    have hlt : i < p3 := by rw [Int32.lt_iff_toInt_lt]; omega
    obtain ⟨T1, h1, X1, e1, W1, st1⟩ := own_turn a1 p2 p3 p4 i X0 hx hZ hby e0 hlt A hin N0 g_a1
    have e2 : (i + (1 : Int32)).toInt = i.toInt + 1 := by
      have q := c_iadd i 1; have r := rng32 (i + 1); have r3 := rng32 p3; have : (1 : Int32).toInt = 1 := rfl; omega
    have N1 := Fr.snoc X1 N0 g_a1
    obtain ⟨T2, h2, locs2, X2, e3, N2, K2, F2, st2⟩ := ih (i + (1 : Int32)) T1 _ h1 _ (by omega) (by omega) (by omega) X1 e1 (own_Arf.set A S N H W1 hin) N1
    refine ⟨T2, h2, locs2, X2, e3, N2, (Keep.of_wr W1).trans K2 (fun x hx => Or.inl hx), F2.to fun x => ?_, fun t q => st1 t (st2 t q)⟩
    simp only [own_fill, own_put]
    rw [e2]
    by_cases q1 : i.toInt + 1 ≤ x ∧ x < p3.toInt
    · rw [if_pos q1, if_pos (by omega)]
    · rw [if_neg q1]
      by_cases q2 : x = i.toInt
      · rw [if_pos q2, if_pos (by omega)]
      · rw [if_neg q2, if_neg (by omega)]
theorem pn_4 : plainName "java/util/Arrays" = true := by first | (simp [plainName, overriddenIn]; done) | decide +kernel
theorem ef_4 (m : MethodId) (x0 : Addr) (x1 : Int32) (x2 : Int32) (x3 : Int32) : entryFrame m #[(.ref x0), (.int x1), (.int x2), (.int x3)] 5 = mkF m 0 #[.val (.ref x0), .val (.int x1), .val (.int x2), .val (.int x3), .unset] [] := by first | (simp [entryFrame, mkF, argsToLocals, Value.category]; done) | rfl
theorem d4_0 : decode jdk_65_method_104_code 0 = .ok (.aload_n 0, 1) := by decide +kernel
theorem d4_1 : decode jdk_65_method_104_code 1 = .ok (.arraylength, 1) := by decide +kernel
theorem d4_2 : decode jdk_65_method_104_code 2 = .ok (.iload_n 1, 1) := by decide +kernel
theorem d4_3 : decode jdk_65_method_104_code 3 = .ok (.iload_n 2, 1) := by decide +kernel
theorem d4_4 : decode jdk_65_method_104_code 4 = .ok (.invokestatic 13, 3) := by decide +kernel
theorem pd__III_V : parseMethodDescriptor "(III)V" = some ⟨[.int, .int, .int], none⟩ := by decide +kernel
theorem d4_7 : decode jdk_65_method_104_code 7 = .ok (.iload_n 1, 1) := by decide +kernel
theorem d4_8 : decode jdk_65_method_104_code 8 = .ok (.istore 4, 2) := by decide +kernel
theorem d4_27 : decode jdk_65_method_104_code 27 = .ok (.return_, 1) := by decide +kernel
def Q_fill (Z : State) (a1 : Addr) (p2 p3 p4 n : Int32) (φ : Int → Int32) (h0 : Heap) (n0 : Nat) (v : Option Value) (h : Heap) (L : List Loc) : Prop := v = none ∧ Fr n0 L ∧ Keep h0 h [a1] ∧ own_Arf Z h a1 n (own_fill φ p2.toInt p3.toInt p4)
set_option maxRecDepth 65536 in
set_option maxHeartbeats 40000000 in
theorem rm_fill (l : Launch) (Z : State) (a0 : Array Value) (hw : ∀ d ∈ tables_1, d.before a0 Z = true) (ws : List Jvm.Cond) (a1 : Addr) (p2 p3 p4 n : Int32) (φ : Int → Int32) (h0 : Heap) (n0 : Nat) (Z0 : n0 ≤ h0.size) (F : own_Arf Z h0 a1 n φ) (g_a1 : n0 ≤ a1) (h2 : 0 ≤ p2.toInt) (h23 : p2.toInt ≤ p3.toInt) (hn : p3.toInt ≤ n.toInt) :
    MetFree l (⟨"java/util/Arrays", "fill", "([IIII)V"⟩ : MethodName) (head1 (Jvm.Cond.code (⟨"java/util/Arrays", "fill", "([IIII)V"⟩ : MethodName) jdk_65_method_104_code 5 none :: ws) ({ frames := 1, cells := 0, slots := 0, locals := 14 } : Room)) (fun a U => a = #[(.ref a1), (.int p2), (.int p3), (.int p4)] ∧ Z.Warmed39 U.vm ∧ U.heap = h0) (fun _ _ _ _ _ => True) (fun _ U o U' => ∃ v L, o = .returned v ∧ Q_fill Z a1 p2 p3 p4 n φ h0 n0 v U'.heap L ∧ FrameEnd U o U' L ({ frames := 1, cells := 0, slots := 0, locals := 14 } : Room).cells ({ frames := 1, cells := 0, slots := 0, locals := 14 } : Room).slots) := by
  refine MetFree.of_bodySF (plainFor_of_name pn_4) hisR ?_
  intro p e s m args below meth c s₁ Bd hml0 hP hK
  obtain ⟨rfl, hZ, hh⟩ := hP
  have hx := Bd.exec
  have hby := Bd.bytes
  have hml : c.maxLocals = 5 := hml0
  have hown : s.vm.findClass "java/util/Arrays" = some m.cls := findClass_of_methodNamed Bd.named
  have hnm := (name_of_methodNamed Bd.named Bd.method).1
  have X0 : Stand p l e ({ frames := 1, cells := 0, slots := 0, locals := 14 } : Room) s m #[(.ref a1), (.int p2), (.int p3), (.int p4)] below meth c s₁ [] 0 0 := Stand.of_body Bd
  have e0 : s₁.heap = h0 := by rw [← hh, Bd.state]; rfl
  have N0 := Fr.nil n0
  have pre0 : ∀ t, Steps p.tables e below (s₁.setTop (mkF m 0 #[.val (.ref a1), .val (.int p2), .val (.int p3), .val (.int p4), .unset] [])) t → Steps p.tables e below (s₁.setTop (entryFrame m #[(.ref a1), (.int p2), (.int p3), (.int p4)] 5)) t := fun t k => castTop (ef_4 m a1 p2 p3 p4) k
  obtain ⟨cl, A, S, N, H⟩ := F
  have F : own_Arf Z h0 a1 n φ := ⟨cl, A, S, N, H⟩
  have P1 : ∀ t, Steps p.tables e below (s₁.setTop (mkF m 4 #[.val (.ref a1), .val (.int p2), .val (.int p3), .val (.int p4), .unset] [(.int p3), (.int p2), (.int n)])) t → Steps p.tables e below (s₁.setTop (mkF m 0 #[.val (.ref a1), .val (.int p2), .val (.int p3), .val (.int p4), .unset] [])) t := fun t k => by
    show Steps p.tables e below (s₁.setTop (mkF m 0 #[.val (.ref a1), .val (.int p2), .val (.int p3), .val (.int p4), .unset] [])) t
    refine XS.aloadN X0.here hx rfl (hb hby d4_0) rfl rfl ?_
    show Steps p.tables e below (s₁.setTop (mkF m 1 #[.val (.ref a1), .val (.int p2), .val (.int p3), .val (.int p4), .unset] [(.ref a1)])) t
    refine X0.arraylength hx (by rw [e0]; exact A.1) (State.isArrayOf_alike hZ.alike A.2.1) (g := (mkF m 1 #[.val (.ref a1), .val (.int p2), .val (.int p3), .val (.int p4), .unset] [(.ref a1)])) rfl rfl (hb hby d4_1) _ ?_
    rw [len_of S N]
    show Steps p.tables e below (s₁.setTop (mkF m 2 #[.val (.ref a1), .val (.int p2), .val (.int p3), .val (.int p4), .unset] [(.int n)])) t
    refine XS.iloadN X0.here hx rfl (hb hby d4_2) rfl ?_
    show Steps p.tables e below (s₁.setTop (mkF m 3 #[.val (.ref a1), .val (.int p2), .val (.int p3), .val (.int p4), .unset] [(.int p2), (.int n)])) t
    refine XS.iloadN X0.here hx rfl (hb hby d4_3) rfl ?_
    exact k
  obtain ⟨_, _, ⟨T2, L2, k2, n2⟩, -, X2, ⟨Lc2, hQ2, l2, y2, z2⟩, st2⟩ := Jvm.LawKit.callS X0 hx (y := (⟨"java/util/Arrays", "rangeCheck", "(III)V"⟩ : MethodName)) hown (mvT hZ (hw _ (List.mem_of_getElem? (i := 31) rfl))) (mvT hZ (hw _ (List.mem_of_getElem? (i := 32) rfl))) (mvT hZ (hw _ (List.mem_of_getElem? (i := 29) rfl))) (mvT hZ (hw _ (List.mem_of_getElem? (i := 33) rfl))) (by decide) (backOf (W := 0) (rm_rc l Z a0 hw [] n p2 p3 h0 n0 Z0 (by rw [Int32.lt_iff_toInt_lt]; omega) (by rw [Int32.lt_iff_toInt_lt]; have : (0 : Int32).toInt = 0 := rfl; omega) (by rw [Int32.lt_iff_toInt_lt]; omega)) hZ (hw _ (List.mem_of_getElem? (i := 33) rfl)) (hw _ (List.mem_of_getElem? (i := 29) rfl)) (by decide) (by decide)) (g := (mkF m 4 #[.val (.ref a1), .val (.int p2), .val (.int p3), .val (.int p4), .unset] [(.int p3), (.int p2), (.int n)])) rfl (by rw [hml]; rfl) (argsL := [(.int n), (.int p2), (.int p3)]) (rest := []) (lenOf pd__III_V rfl) rfl (by show 2 * 0 + _ ≤ _; exact Nat.le_of_eq rfl) (hb hby d4_4) (fun _ _ => ⟨rfl, e0, (by decide : 0 + 0 ≤ _), (by decide : 0 + 0 ≤ _)⟩)
  dsimp only [Pt.U, Pt.locs, Pt.cells, Pt.slots] at X2 l2 y2 z2 st2 hQ2
  subst l2 y2 z2
  obtain ⟨rfl, N2q, e2⟩ := hQ2
  have N2 := Fr.app N0 N2q
  have P3 : ∀ t, Steps p.tables e below (T2.setTop (mkF m 7 #[.val (.ref a1), .val (.int p2), .val (.int p3), .val (.int p4), .unset] [])) t → Steps p.tables e below (s₁.setTop (mkF m 0 #[.val (.ref a1), .val (.int p2), .val (.int p3), .val (.int p4), .unset] [])) t := fun t k => P1 t (st2 _ k)
  have P4 : ∀ t, Steps p.tables e below (T2.setTop (mkF m 10 #[.val (.ref a1), .val (.int p2), .val (.int p3), .val (.int p4), .val (.int p2)] [])) t → Steps p.tables e below (s₁.setTop (mkF m 0 #[.val (.ref a1), .val (.int p2), .val (.int p3), .val (.int p4), .unset] [])) t := fun t k => by
    refine P3 t ?_
    show Steps p.tables e below (T2.setTop (mkF m 7 #[.val (.ref a1), .val (.int p2), .val (.int p3), .val (.int p4), .unset] [])) t
    refine XS.iloadN X2.here hx rfl (hb hby d4_7) rfl ?_
    show Steps p.tables e below (T2.setTop (mkF m 8 #[.val (.ref a1), .val (.int p2), .val (.int p3), .val (.int p4), .unset] [(.int p2)])) t
    refine XS.istore X2.here hx rfl (hb hby d4_8) rfl (l' := #[.val (.ref a1), .val (.int p2), .val (.int p3), .val (.int p4), .val (.int p2)]) rfl ?_
    exact k
  obtain ⟨T9, h9, L9, X9, e9, N9, K9, F9, st9⟩ := own_loop (n0 := n0) a1 p2 p3 p4 n hx hZ hby g_a1 hn _ p2 T2 _ h0 φ rfl h2 h23 X2 e2 F N2
  have P5 : ∀ t, Steps p.tables e below (T9.setTop (mkF m 27 #[.val (.ref a1), .val (.int p2), .val (.int p3), .val (.int p4), .val (.int p3)] [])) t → Steps p.tables e below (s₁.setTop (mkF m 0 #[.val (.ref a1), .val (.int p2), .val (.int p3), .val (.int p4), .unset] [])) t := fun t k => P4 t (st9 _ k)
  obtain ⟨fs, hr, hrun, hended, hW, hsame⟩ := X9.leave (v := none) (fun _ => rfl)
  refine ⟨_, _, pre0 _ (P5 _ ?_), hrun, hended, _, _, rfl, ?_, ⟨_, rfl⟩, hW, hsame.mono (by decide) (by decide)⟩
  · exact X9.returnOut hx Bd.returns (hb hby d4_27) hr
  · show Q_fill Z a1 p2 p3 p4 n φ h0 n0 _ T9.heap _
    rw [e9]
    exact ⟨rfl, N9, K9, F9⟩
theorem pn_1 : plainName "com/example/weftwork/weftwork/Rows" = true := by first | (simp [plainName, overriddenIn]; done) | decide +kernel
theorem ef_1 (m : MethodId) (x0 : Addr) (x1 : Int32) (x2 : Int32) : entryFrame m #[(.ref x0), (.int x1), (.int x2)] 3 = mkF m 0 #[.val (.ref x0), .val (.int x1), .val (.int x2)] [] := by first | (simp [entryFrame, mkF, argsToLocals, Value.category]; done) | rfl
theorem d1_0 : decode prog_69_method_1_code 0 = .ok (.aload_n 0, 1) := by decide +kernel
theorem d1_1 : decode prog_69_method_1_code 1 = .ok (.invokespecial 1, 3) := by decide +kernel
theorem d1_4 : decode prog_69_method_1_code 4 = .ok (.aload_n 0, 1) := by decide +kernel
theorem d1_5 : decode prog_69_method_1_code 5 = .ok (.iconst (-1), 1) := by decide +kernel
theorem d1_6 : decode prog_69_method_1_code 6 = .ok (.putfield 9, 3) := by decide +kernel
theorem d1_9 : decode prog_69_method_1_code 9 = .ok (.aload_n 0, 1) := by decide +kernel
theorem d1_10 : decode prog_69_method_1_code 10 = .ok (.iload_n 1, 1) := by decide +kernel
theorem d1_11 : decode prog_69_method_1_code 11 = .ok (.putfield 13, 3) := by decide +kernel
theorem d1_14 : decode prog_69_method_1_code 14 = .ok (.aload_n 0, 1) := by decide +kernel
theorem d1_15 : decode prog_69_method_1_code 15 = .ok (.iload_n 1, 1) := by decide +kernel
theorem d1_16 : decode prog_69_method_1_code 16 = .ok (.bipush 16, 2) := by decide +kernel
theorem d1_18 : decode prog_69_method_1_code 18 = .ok (.imul, 1) := by decide +kernel
theorem d1_19 : decode prog_69_method_1_code 19 = .ok (.newarray .int, 2) := by decide +kernel
theorem d1_21 : decode prog_69_method_1_code 21 = .ok (.putfield 16, 3) := by decide +kernel
theorem d1_24 : decode prog_69_method_1_code 24 = .ok (.aload_n 0, 1) := by decide +kernel
theorem d1_25 : decode prog_69_method_1_code 25 = .ok (.iload_n 2, 1) := by decide +kernel
theorem d1_26 : decode prog_69_method_1_code 26 = .ok (.ifCond .eq 11, 3) := by decide +kernel
theorem d1_29 : decode prog_69_method_1_code 29 = .ok (.bipush 16, 2) := by decide +kernel
theorem d1_31 : decode prog_69_method_1_code 31 = .ok (.anewarray 2, 3) := by decide +kernel
theorem d1_34 : decode prog_69_method_1_code 34 = .ok (.goto 4, 3) := by decide +kernel
theorem d1_38 : decode prog_69_method_1_code 38 = .ok (.putfield 20, 3) := by decide +kernel
theorem d1_41 : decode prog_69_method_1_code 41 = .ok (.return_, 1) := by decide +kernel
def Q1o (Z : State) (a1 : Addr) (p2 p3 : Int32) (h0 : Heap) (n0 : Nat) (v : Option Value) (h : Heap) (L : List Loc) : Prop := ∃ fa oa : Addr, v = none ∧ Fr n0 L ∧ Keep h0 h [a1] ∧ Exa Z h a1 "com/example/weftwork/weftwork/Rows" ∧ Fld Z h a1 "com/example/weftwork/weftwork/Rows" "free" "I" (.int (-1 : Int32)) ∧ Fld Z h a1 "com/example/weftwork/weftwork/Rows" "width" "I" (.int p2) ∧ Fld Z h a1 "com/example/weftwork/weftwork/Rows" "fields" "[I" (.ref fa) ∧ Fld Z h a1 "com/example/weftwork/weftwork/Rows" "objects" "[Ljava/lang/Object;" (.ref oa) ∧ Fld Z h a1 "com/example/weftwork/weftwork/Rows" "made" "I" (.int (0 : Int32)) ∧ own_Arf Z h fa (p2 * (16 : Int32)) (fun _ => 0) ∧ a1 ≠ fa ∧ n0 ≤ fa ∧ a1 ≠ oa ∧ n0 ≤ oa ∧ fa ≠ oa ∧ ∃ ko, own_Aro Z h oa ko (fun _ => .null) ∧ Ovr Z ko "java/lang/Object"
set_option maxRecDepth 65536 in
set_option maxHeartbeats 40000000 in
theorem rm1o (l : Launch) (Z : State) (a0 : Array Value) (hw : ∀ d ∈ tables_1, d.before a0 Z = true) (ws : List Jvm.Cond) (a1 : Addr) (p2 p3 : Int32) (h0 : Heap) (n0 : Nat) (Z0 : n0 ≤ h0.size) (E : Exa Z h0 a1 "com/example/weftwork/weftwork/Rows") (F_free : Fld Z h0 a1 "com/example/weftwork/weftwork/Rows" "free" "I" (.int (0 : Int32))) (F_width : Fld Z h0 a1 "com/example/weftwork/weftwork/Rows" "width" "I" (.int (0 : Int32))) (F_fields : Fld Z h0 a1 "com/example/weftwork/weftwork/Rows" "fields" "[I" .null) (F_objects : Fld Z h0 a1 "com/example/weftwork/weftwork/Rows" "objects" "[Ljava/lang/Object;" .null) (F_made : Fld Z h0 a1 "com/example/weftwork/weftwork/Rows" "made" "I" (.int (0 : Int32))) (g_a1 : n0 ≤ a1) (hneg : ¬ (p2 * (16 : Int32)) < 0) (hcap : (p2 * (16 : Int32)).toNatClampNeg ≤ 64) (hp : ¬ p3 = (0 : Int32)) :
    MetFree l (⟨"com/example/weftwork/weftwork/Rows", "<init>", "(IZ)V"⟩ : MethodName) (head1 (Jvm.Cond.code (⟨"com/example/weftwork/weftwork/Rows", "<init>", "(IZ)V"⟩ : MethodName) prog_69_method_1_code 3 none :: ws) ({ frames := 1, cells := 2, slots := 80, locals := 12 } : Room)) (fun a U => a = #[(.ref a1), (.int p2), (.int p3)] ∧ Z.Warmed39 U.vm ∧ U.heap = h0) (fun _ _ _ _ _ => True) (fun _ U o U' => ∃ v L, o = .returned v ∧ Q1o Z a1 p2 p3 h0 n0 v U'.heap L ∧ FrameEnd U o U' L ({ frames := 1, cells := 2, slots := 80, locals := 12 } : Room).cells ({ frames := 1, cells := 2, slots := 80, locals := 12 } : Room).slots) := by
  refine MetFree.of_bodySF (plainFor_of_name pn_1) hisR ?_
  intro p e s m args below meth c s₁ Bd hml0 hP hK
  obtain ⟨rfl, hZ, hh⟩ := hP
  have hx := Bd.exec
  have hby := Bd.bytes
  have hml : c.maxLocals = 3 := hml0
  have hown : s.vm.findClass "com/example/weftwork/weftwork/Rows" = some m.cls := findClass_of_methodNamed Bd.named
  have hnm := (name_of_methodNamed Bd.named Bd.method).1
  have X0 : Stand p l e ({ frames := 1, cells := 2, slots := 80, locals := 12 } : Room) s m #[(.ref a1), (.int p2), (.int p3)] below meth c s₁ [] 0 0 := Stand.of_body Bd
  have e0 : s₁.heap = h0 := by rw [← hh, Bd.state]; rfl
  have N0 := Fr.nil n0
  have pre0 : ∀ t, Steps p.tables e below (s₁.setTop (mkF m 0 #[.val (.ref a1), .val (.int p2), .val (.int p3)] [])) t → Steps p.tables e below (s₁.setTop (entryFrame m #[(.ref a1), (.int p2), (.int p3)] 3)) t := fun t k => castTop (ef_1 m a1 p2 p3) k
  have KR_0 := Keep.refl h0 [a1]
  have P1 : ∀ t, Steps p.tables e below (s₁.setTop (mkF m 1 #[.val (.ref a1), .val (.int p2), .val (.int p3)] [(.ref a1)])) t → Steps p.tables e below (s₁.setTop (mkF m 0 #[.val (.ref a1), .val (.int p2), .val (.int p3)] [])) t := fun t k => by
    show Steps p.tables e below (s₁.setTop (mkF m 0 #[.val (.ref a1), .val (.int p2), .val (.int p3)] [])) t
    refine XS.aloadN X0.here hx rfl (hb hby d1_0) rfl rfl ?_
    exact k
  obtain ⟨T2, X2, e2, st2⟩ := initO X0 hx hZ hown (hw _ (List.mem_of_getElem? (i := 6) rfl)) (hw _ (List.mem_of_getElem? (i := 7) rfl)) (hw _ (List.mem_of_getElem? (i := 8) rfl)) e0 (g := (mkF m 1 #[.val (.ref a1), .val (.int p2), .val (.int p3)] [(.ref a1)])) rfl (by rw [hml]; rfl) rfl (hb hby d1_1) (by decide) (W := 0) (by show 2 * 0 + _ ≤ _; exact Nat.le_of_eq rfl) (by decide)
  have P3 : ∀ t, Steps p.tables e below (T2.setTop (mkF m 4 #[.val (.ref a1), .val (.int p2), .val (.int p3)] [])) t → Steps p.tables e below (s₁.setTop (mkF m 0 #[.val (.ref a1), .val (.int p2), .val (.int p3)] [])) t := fun t k => P1 t (st2 _ k)
  have P4 : ∀ t, Steps p.tables e below (T2.setTop (mkF m 6 #[.val (.ref a1), .val (.int p2), .val (.int p3)] [(.int (-1 : Int32)), (.ref a1)])) t → Steps p.tables e below (s₁.setTop (mkF m 0 #[.val (.ref a1), .val (.int p2), .val (.int p3)] [])) t := fun t k => by
    refine P3 t ?_
    show Steps p.tables e below (T2.setTop (mkF m 4 #[.val (.ref a1), .val (.int p2), .val (.int p3)] [])) t
    refine XS.aloadN X2.here hx rfl (hb hby d1_4) rfl rfl ?_
    show Steps p.tables e below (T2.setTop (mkF m 5 #[.val (.ref a1), .val (.int p2), .val (.int p3)] [(.ref a1)])) t
    refine XS.iconst X2.here hx rfl (hb hby d1_5) ?_
    exact k
  obtain ⟨T5, h5, X5, e5, W5, st5⟩ := putF X2 hx hZ hown (host := "") (Or.inl (hw _ (List.mem_of_getElem? (i := 9) rfl))) Via.refl e2 F_free E (Or.inl (hw _ (List.mem_of_getElem? (i := 10) rfl))) (hw _ (List.mem_of_getElem? (i := 1) rfl)) (ty := .int) (by decide) rfl rfl (g := (mkF m 6 #[.val (.ref a1), .val (.int p2), .val (.int p3)] [(.int (-1 : Int32)), (.ref a1)])) rfl rfl (hb hby d1_6)
  have E_5 := E.wr W5
  have KR_5 := KR_0.wr W5 (Or.inl (List.mem_of_getElem? (i := 0) rfl))
  have F_free_5 := F_free.same W5
  have F_width_5 := F_width.other W5 (Or.inr (slot_ne (Or.inr (hw _ (List.mem_of_getElem? (i := 12) rfl))) (Or.inl (hw _ (List.mem_of_getElem? (i := 10) rfl))) (by decide) (t := .int) (t' := .int) (by decide) (by decide)))
  have F_fields_5 := F_fields.other W5 (Or.inr (slot_ne (Or.inl (hw _ (List.mem_of_getElem? (i := 15) rfl))) (Or.inl (hw _ (List.mem_of_getElem? (i := 10) rfl))) (by decide) (t := (.array .int)) (t' := .int) (by decide) (by decide)))
  have F_objects_5 := F_objects.other W5 (Or.inr (slot_ne (Or.inl (hw _ (List.mem_of_getElem? (i := 19) rfl))) (Or.inl (hw _ (List.mem_of_getElem? (i := 10) rfl))) (by decide) (t := (.array (.object "java/lang/Object"))) (t' := .int) (by decide) (by decide)))
  have F_made_5 := F_made.other W5 (Or.inr (slot_ne (Or.inl (hw _ (List.mem_of_getElem? (i := 26) rfl))) (Or.inl (hw _ (List.mem_of_getElem? (i := 10) rfl))) (by decide) (t := .int) (t' := .int) (by decide) (by decide)))
  have Z_6 : n0 ≤ h5.size := Nat.le_trans Z0 (Keep.of_wr W5).1
  have N5 := Fr.snoc X5 N0 g_a1
  have P7 : ∀ t, Steps p.tables e below (T5.setTop (mkF m 9 #[.val (.ref a1), .val (.int p2), .val (.int p3)] [])) t → Steps p.tables e below (s₁.setTop (mkF m 0 #[.val (.ref a1), .val (.int p2), .val (.int p3)] [])) t := fun t k => P4 t (st5 _ k)
  have P8 : ∀ t, Steps p.tables e below (T5.setTop (mkF m 11 #[.val (.ref a1), .val (.int p2), .val (.int p3)] [(.int p2), (.ref a1)])) t → Steps p.tables e below (s₁.setTop (mkF m 0 #[.val (.ref a1), .val (.int p2), .val (.int p3)] [])) t := fun t k => by
    refine P7 t ?_
    show Steps p.tables e below (T5.setTop (mkF m 9 #[.val (.ref a1), .val (.int p2), .val (.int p3)] [])) t
    refine XS.aloadN X5.here hx rfl (hb hby d1_9) rfl rfl ?_
    show Steps p.tables e below (T5.setTop (mkF m 10 #[.val (.ref a1), .val (.int p2), .val (.int p3)] [(.ref a1)])) t
    refine XS.iloadN X5.here hx rfl (hb hby d1_10) rfl ?_
    exact k
  obtain ⟨T9, h9, X9, e9, W9, st9⟩ := putF X5 hx hZ hown (host := "") (Or.inl (hw _ (List.mem_of_getElem? (i := 11) rfl))) Via.refl e5 F_width_5 E_5 (Or.inr ⟨(hw _ (List.mem_of_getElem? (i := 12) rfl)), rfl, hnm⟩) (hw _ (List.mem_of_getElem? (i := 1) rfl)) (ty := .int) (by decide) rfl rfl (g := (mkF m 11 #[.val (.ref a1), .val (.int p2), .val (.int p3)] [(.int p2), (.ref a1)])) rfl rfl (hb hby d1_11)
  have E_9 := E_5.wr W9
  have KR_9 := KR_5.wr W9 (Or.inl (List.mem_of_getElem? (i := 0) rfl))
  have F_free_9 := F_free_5.other W9 (Or.inr (slot_ne (Or.inl (hw _ (List.mem_of_getElem? (i := 10) rfl))) (Or.inr (hw _ (List.mem_of_getElem? (i := 12) rfl))) (by decide) (t := .int) (t' := .int) (by decide) (by decide)))
  have F_width_9 := F_width_5.same W9
  have F_fields_9 := F_fields_5.other W9 (Or.inr (slot_ne (Or.inl (hw _ (List.mem_of_getElem? (i := 15) rfl))) (Or.inr (hw _ (List.mem_of_getElem? (i := 12) rfl))) (by decide) (t := (.array .int)) (t' := .int) (by decide) (by decide)))
  have F_objects_9 := F_objects_5.other W9 (Or.inr (slot_ne (Or.inl (hw _ (List.mem_of_getElem? (i := 19) rfl))) (Or.inr (hw _ (List.mem_of_getElem? (i := 12) rfl))) (by decide) (t := (.array (.object "java/lang/Object"))) (t' := .int) (by decide) (by decide)))
  have F_made_9 := F_made_5.other W9 (Or.inr (slot_ne (Or.inl (hw _ (List.mem_of_getElem? (i := 26) rfl))) (Or.inr (hw _ (List.mem_of_getElem? (i := 12) rfl))) (by decide) (t := .int) (t' := .int) (by decide) (by decide)))
  have Z_10 : n0 ≤ h9.size := Nat.le_trans Z_6 (Keep.of_wr W9).1
  have N9 := Fr.snoc X9 N5 g_a1
  have P11 : ∀ t, Steps p.tables e below (T9.setTop (mkF m 14 #[.val (.ref a1), .val (.int p2), .val (.int p3)] [])) t → Steps p.tables e below (s₁.setTop (mkF m 0 #[.val (.ref a1), .val (.int p2), .val (.int p3)] [])) t := fun t k => P8 t (st9 _ k)
  have P12 : ∀ t, Steps p.tables e below (T9.setTop (mkF m 19 #[.val (.ref a1), .val (.int p2), .val (.int p3)] [(.int (p2 * (16 : Int32))), (.ref a1)])) t → Steps p.tables e below (s₁.setTop (mkF m 0 #[.val (.ref a1), .val (.int p2), .val (.int p3)] [])) t := fun t k => by
    refine P11 t ?_
    show Steps p.tables e below (T9.setTop (mkF m 14 #[.val (.ref a1), .val (.int p2), .val (.int p3)] [])) t
    refine XS.aloadN X9.here hx rfl (hb hby d1_14) rfl rfl ?_
    show Steps p.tables e below (T9.setTop (mkF m 15 #[.val (.ref a1), .val (.int p2), .val (.int p3)] [(.ref a1)])) t
    refine XS.iloadN X9.here hx rfl (hb hby d1_15) rfl ?_
    show Steps p.tables e below (T9.setTop (mkF m 16 #[.val (.ref a1), .val (.int p2), .val (.int p3)] [(.int p2), (.ref a1)])) t
    refine XS.bipush X9.here hx rfl (hb hby d1_16) ?_
    show Steps p.tables e below (T9.setTop (mkF m 18 #[.val (.ref a1), .val (.int p2), .val (.int p3)] [(.int (16 : Int32)), (.int p2), (.ref a1)])) t
    refine XS.imul X9.here hx rfl (hb hby d1_18) rfl ?_
    exact k
  obtain ⟨T13, h13, k13, X13, e13, E13, A13, st13⟩ := newP X9 hx hZ (hw _ (List.mem_of_getElem? (i := 13) rfl)) e9 (g := (mkF m 19 #[.val (.ref a1), .val (.int p2), .val (.int p3)] [(.int (p2 * (16 : Int32))), (.ref a1)])) rfl (hb hby d1_19) rfl hneg (cap := 64) hcap (by decide) (by decide) (by decide)
  obtain ⟨b13, g13⟩ : ∃ z, z = h9.size := ⟨_, rfl⟩
  rw [← g13] at A13 st13
  have ne_a1_b13 : a1 ≠ b13 := Nat.ne_of_lt (Nat.lt_of_lt_of_le E_9.lt (Nat.le_of_eq g13.symm))
  have g_b13 : n0 ≤ b13 := Nat.le_trans Z_10 (Nat.le_of_eq g13.symm)
  have sz_b13 : h0.size ≤ b13 := Nat.le_trans KR_9.1 (Nat.le_of_eq g13.symm)
  have E_13 := E_9.ext E13
  have KR_13 := KR_9.ext E13
  have F_free_13 := F_free_9.ext E13
  have F_width_13 := F_width_9.ext E13
  have F_fields_13 := F_fields_9.ext E13
  have F_objects_13 := F_objects_9.ext E13
  have F_made_13 := F_made_9.ext E13
  have Z_14 : n0 ≤ h13.size := Nat.le_trans Z_10 E13.1
  have V_b13_0 := Arv.new A13 hneg
  have P15 : ∀ t, Steps p.tables e below (T13.setTop (mkF m 21 #[.val (.ref a1), .val (.int p2), .val (.int p3)] [(.ref b13), (.ref a1)])) t → Steps p.tables e below (s₁.setTop (mkF m 0 #[.val (.ref a1), .val (.int p2), .val (.int p3)] [])) t := fun t k => P12 t (st13 _ k)
  have V_b13_a := own_Arf.new V_b13_0
  obtain ⟨T16, h16, X16, e16, W16, st16⟩ := putF X13 hx hZ hown (host := "") (Or.inl (hw _ (List.mem_of_getElem? (i := 14) rfl))) Via.refl e13 F_fields_13 E_13 (Or.inl (hw _ (List.mem_of_getElem? (i := 15) rfl))) (hw _ (List.mem_of_getElem? (i := 1) rfl)) (ty := (.array .int)) (by decide) rfl rfl (g := (mkF m 21 #[.val (.ref a1), .val (.int p2), .val (.int p3)] [(.ref b13), (.ref a1)])) rfl rfl (hb hby d1_21)
  have E_16 := E_13.wr W16
  have KR_16 := KR_13.wr W16 (Or.inl (List.mem_of_getElem? (i := 0) rfl))
  have F_free_16 := F_free_13.other W16 (Or.inr (slot_ne (Or.inl (hw _ (List.mem_of_getElem? (i := 10) rfl))) (Or.inl (hw _ (List.mem_of_getElem? (i := 15) rfl))) (by decide) (t := .int) (t' := (.array .int)) (by decide) (by decide)))
  have F_width_16 := F_width_13.other W16 (Or.inr (slot_ne (Or.inr (hw _ (List.mem_of_getElem? (i := 12) rfl))) (Or.inl (hw _ (List.mem_of_getElem? (i := 15) rfl))) (by decide) (t := .int) (t' := (.array .int)) (by decide) (by decide)))
  have F_fields_16 := F_fields_13.same W16
  have F_objects_16 := F_objects_13.other W16 (Or.inr (slot_ne (Or.inl (hw _ (List.mem_of_getElem? (i := 19) rfl))) (Or.inl (hw _ (List.mem_of_getElem? (i := 15) rfl))) (by decide) (t := (.array (.object "java/lang/Object"))) (t' := (.array .int)) (by decide) (by decide)))
  have F_made_16 := F_made_13.other W16 (Or.inr (slot_ne (Or.inl (hw _ (List.mem_of_getElem? (i := 26) rfl))) (Or.inl (hw _ (List.mem_of_getElem? (i := 15) rfl))) (by decide) (t := .int) (t' := (.array .int)) (by decide) (by decide)))
  have V_b13_a_16 := V_b13_a.other W16 (Ne.symm ne_a1_b13)
  have Z_17 : n0 ≤ h16.size := Nat.le_trans Z_14 (Keep.of_wr W16).1
  have N16 := Fr.snoc X16 N9 g_a1
  have P18 : ∀ t, Steps p.tables e below (T16.setTop (mkF m 24 #[.val (.ref a1), .val (.int p2), .val (.int p3)] [])) t → Steps p.tables e below (s₁.setTop (mkF m 0 #[.val (.ref a1), .val (.int p2), .val (.int p3)] [])) t := fun t k => P15 t (st16 _ k)
  have P19 : ∀ t, Steps p.tables e below (T16.setTop (mkF m 31 #[.val (.ref a1), .val (.int p2), .val (.int p3)] [(.int (16 : Int32)), (.ref a1)])) t → Steps p.tables e below (s₁.setTop (mkF m 0 #[.val (.ref a1), .val (.int p2), .val (.int p3)] [])) t := fun t k => by
    refine P18 t ?_
    show Steps p.tables e below (T16.setTop (mkF m 24 #[.val (.ref a1), .val (.int p2), .val (.int p3)] [])) t
    refine XS.aloadN X16.here hx rfl (hb hby d1_24) rfl rfl ?_
    show Steps p.tables e below (T16.setTop (mkF m 25 #[.val (.ref a1), .val (.int p2), .val (.int p3)] [(.ref a1)])) t
    refine XS.iloadN X16.here hx rfl (hb hby d1_25) rfl ?_
    show Steps p.tables e below (T16.setTop (mkF m 26 #[.val (.ref a1), .val (.int p2), .val (.int p3)] [(.int p3), (.ref a1)])) t
    refine XS.ifNo X16.here hx rfl (hb hby d1_26) rfl ((if0 _ _).trans (feq hp).1) ?_
    show Steps p.tables e below (T16.setTop (mkF m 29 #[.val (.ref a1), .val (.int p2), .val (.int p3)] [(.ref a1)])) t
    refine XS.bipush X16.here hx rfl (hb hby d1_29) ?_
    exact k
  obtain ⟨T20, h20, k20, X20, e20, E20, A20, O20, st20⟩ := newR X16 hx hZ hown (hw _ (List.mem_of_getElem? (i := 16) rfl)) (hw _ (List.mem_of_getElem? (i := 17) rfl)) e16 (g := (mkF m 31 #[.val (.ref a1), .val (.int p2), .val (.int p3)] [(.int (16 : Int32)), (.ref a1)])) rfl (hb hby d1_31) rfl (by decide) (cap := 16) (by decide) (by decide) (by decide) (by decide)
  obtain ⟨b20, g20⟩ : ∃ z, z = h16.size := ⟨_, rfl⟩
  rw [← g20] at A20 st20
  have ne_a1_b20 : a1 ≠ b20 := Nat.ne_of_lt (Nat.lt_of_lt_of_le E_16.lt (Nat.le_of_eq g20.symm))
  have ne_b13_b20 : b13 ≠ b20 := Nat.ne_of_lt (Nat.lt_of_lt_of_le V_b13_a_16.lt (Nat.le_of_eq g20.symm))
  have g_b20 : n0 ≤ b20 := Nat.le_trans Z_17 (Nat.le_of_eq g20.symm)
  have sz_b20 : h0.size ≤ b20 := Nat.le_trans KR_16.1 (Nat.le_of_eq g20.symm)
  have E_20 := E_16.ext E20
  have KR_20 := KR_16.ext E20
  have F_free_20 := F_free_16.ext E20
  have F_width_20 := F_width_16.ext E20
  have F_fields_20 := F_fields_16.ext E20
  have F_objects_20 := F_objects_16.ext E20
  have F_made_20 := F_made_16.ext E20
  have V_b13_a_20 := V_b13_a_16.ext E20
  have Z_21 : n0 ≤ h20.size := Nat.le_trans Z_17 E20.1
  have V_b20_0 := Arv.new A20 (by decide)
  have P22 : ∀ t, Steps p.tables e below (T20.setTop (mkF m 34 #[.val (.ref a1), .val (.int p2), .val (.int p3)] [(.ref b20), (.ref a1)])) t → Steps p.tables e below (s₁.setTop (mkF m 0 #[.val (.ref a1), .val (.int p2), .val (.int p3)] [])) t := fun t k => P19 t (st20 _ k)
  have V_b20_a := own_Aro.new V_b20_0
  have P23 : ∀ t, Steps p.tables e below (T20.setTop (mkF m 38 #[.val (.ref a1), .val (.int p2), .val (.int p3)] [(.ref b20), (.ref a1)])) t → Steps p.tables e below (s₁.setTop (mkF m 0 #[.val (.ref a1), .val (.int p2), .val (.int p3)] [])) t := fun t k => by
    refine P22 t ?_
    show Steps p.tables e below (T20.setTop (mkF m 34 #[.val (.ref a1), .val (.int p2), .val (.int p3)] [(.ref b20), (.ref a1)])) t
    refine XS.goto X20.here hx rfl (pc0 := 34) (pc' := 38) rfl (hb hby d1_34) (by decide) (by decide) ?_
    exact k
  obtain ⟨T24, h24, X24, e24, W24, st24⟩ := putF X20 hx hZ hown (host := "") (Or.inl (hw _ (List.mem_of_getElem? (i := 18) rfl))) Via.refl e20 F_objects_20 E_20 (Or.inl (hw _ (List.mem_of_getElem? (i := 19) rfl))) (hw _ (List.mem_of_getElem? (i := 1) rfl)) (ty := (.array (.object "java/lang/Object"))) (by decide) rfl rfl (g := (mkF m 38 #[.val (.ref a1), .val (.int p2), .val (.int p3)] [(.ref b20), (.ref a1)])) rfl rfl (hb hby d1_38)
  have E_24 := E_20.wr W24
  have KR_24 := KR_20.wr W24 (Or.inl (List.mem_of_getElem? (i := 0) rfl))
  have F_free_24 := F_free_20.other W24 (Or.inr (slot_ne (Or.inl (hw _ (List.mem_of_getElem? (i := 10) rfl))) (Or.inl (hw _ (List.mem_of_getElem? (i := 19) rfl))) (by decide) (t := .int) (t' := (.array (.object "java/lang/Object"))) (by decide) (by decide)))
  have F_width_24 := F_width_20.other W24 (Or.inr (slot_ne (Or.inr (hw _ (List.mem_of_getElem? (i := 12) rfl))) (Or.inl (hw _ (List.mem_of_getElem? (i := 19) rfl))) (by decide) (t := .int) (t' := (.array (.object "java/lang/Object"))) (by decide) (by decide)))
  have F_fields_24 := F_fields_20.other W24 (Or.inr (slot_ne (Or.inl (hw _ (List.mem_of_getElem? (i := 15) rfl))) (Or.inl (hw _ (List.mem_of_getElem? (i := 19) rfl))) (by decide) (t := (.array .int)) (t' := (.array (.object "java/lang/Object"))) (by decide) (by decide)))
  have F_objects_24 := F_objects_20.same W24
  have F_made_24 := F_made_20.other W24 (Or.inr (slot_ne (Or.inl (hw _ (List.mem_of_getElem? (i := 26) rfl))) (Or.inl (hw _ (List.mem_of_getElem? (i := 19) rfl))) (by decide) (t := .int) (t' := (.array (.object "java/lang/Object"))) (by decide) (by decide)))
  have V_b13_a_24 := V_b13_a_20.other W24 (Ne.symm ne_a1_b13)
  have V_b20_a_24 := V_b20_a.other W24 (Ne.symm ne_a1_b20)
  have Z_25 : n0 ≤ h24.size := Nat.le_trans Z_21 (Keep.of_wr W24).1
  have N24 := Fr.snoc X24 N16 g_a1
  have P26 : ∀ t, Steps p.tables e below (T24.setTop (mkF m 41 #[.val (.ref a1), .val (.int p2), .val (.int p3)] [])) t → Steps p.tables e below (s₁.setTop (mkF m 0 #[.val (.ref a1), .val (.int p2), .val (.int p3)] [])) t := fun t k => P23 t (st24 _ k)
  obtain ⟨fs, hr, hrun, hended, hW, hsame⟩ := X24.leave (v := none) (fun _ => rfl)
  refine ⟨_, _, pre0 _ (P26 _ ?_), hrun, hended, _, _, rfl, ?_, ⟨_, rfl⟩, hW, hsame.mono (by decide) (by decide)⟩
  · exact X24.returnOut hx Bd.returns (hb hby d1_41) hr
  · show Q1o Z a1 p2 p3 h0 n0 _ T24.heap _
    rw [e24]
    exact ⟨b13, b20, rfl, N24, KR_24, E_24, F_free_24, F_width_24, F_fields_24, F_objects_24, F_made_24, V_b13_a_24, ne_a1_b13, g_b13, ne_a1_b20, g_b20, ne_b13_b20, _, V_b20_a_24, O20⟩
theorem d1_37 : decode prog_69_method_1_code 37 = .ok (.aconst_null, 1) := by decide +kernel
def Q1n (Z : State) (a1 : Addr) (p2 p3 : Int32) (h0 : Heap) (n0 : Nat) (v : Option Value) (h : Heap) (L : List Loc) : Prop := ∃ fa : Addr, v = none ∧ Fr n0 L ∧ Keep h0 h [a1] ∧ Exa Z h a1 "com/example/weftwork/weftwork/Rows" ∧ Fld Z h a1 "com/example/weftwork/weftwork/Rows" "free" "I" (.int (-1 : Int32)) ∧ Fld Z h a1 "com/example/weftwork/weftwork/Rows" "width" "I" (.int p2) ∧ Fld Z h a1 "com/example/weftwork/weftwork/Rows" "fields" "[I" (.ref fa) ∧ Fld Z h a1 "com/example/weftwork/weftwork/Rows" "objects" "[Ljava/lang/Object;" .null ∧ Fld Z h a1 "com/example/weftwork/weftwork/Rows" "made" "I" (.int (0 : Int32)) ∧ own_Arf Z h fa (p2 * (16 : Int32)) (fun _ => 0) ∧ a1 ≠ fa ∧ n0 ≤ fa
set_option maxRecDepth 65536 in
set_option maxHeartbeats 40000000 in
theorem rm1n (l : Launch) (Z : State) (a0 : Array Value) (hw : ∀ d ∈ tables_1, d.before a0 Z = true) (ws : List Jvm.Cond) (a1 : Addr) (p2 p3 : Int32) (h0 : Heap) (n0 : Nat) (Z0 : n0 ≤ h0.size) (E : Exa Z h0 a1 "com/example/weftwork/weftwork/Rows") (F_free : Fld Z h0 a1 "com/example/weftwork/weftwork/Rows" "free" "I" (.int (0 : Int32))) (F_width : Fld Z h0 a1 "com/example/weftwork/weftwork/Rows" "width" "I" (.int (0 : Int32))) (F_fields : Fld Z h0 a1 "com/example/weftwork/weftwork/Rows" "fields" "[I" .null) (F_objects : Fld Z h0 a1 "com/example/weftwork/weftwork/Rows" "objects" "[Ljava/lang/Object;" .null) (F_made : Fld Z h0 a1 "com/example/weftwork/weftwork/Rows" "made" "I" (.int (0 : Int32))) (g_a1 : n0 ≤ a1) (hneg : ¬ (p2 * (16 : Int32)) < 0) (hcap : (p2 * (16 : Int32)).toNatClampNeg ≤ 64) (hp : p3 = (0 : Int32)) :
    MetFree l (⟨"com/example/weftwork/weftwork/Rows", "<init>", "(IZ)V"⟩ : MethodName) (head1 (Jvm.Cond.code (⟨"com/example/weftwork/weftwork/Rows", "<init>", "(IZ)V"⟩ : MethodName) prog_69_method_1_code 3 none :: ws) ({ frames := 1, cells := 1, slots := 64, locals := 12 } : Room)) (fun a U => a = #[(.ref a1), (.int p2), (.int p3)] ∧ Z.Warmed39 U.vm ∧ U.heap = h0) (fun _ _ _ _ _ => True) (fun _ U o U' => ∃ v L, o = .returned v ∧ Q1n Z a1 p2 p3 h0 n0 v U'.heap L ∧ FrameEnd U o U' L ({ frames := 1, cells := 1, slots := 64, locals := 12 } : Room).cells ({ frames := 1, cells := 1, slots := 64, locals := 12 } : Room).slots) := by
  refine MetFree.of_bodySF (plainFor_of_name pn_1) hisR ?_
  intro p e s m args below meth c s₁ Bd hml0 hP hK
  obtain ⟨rfl, hZ, hh⟩ := hP
  have hx := Bd.exec
  have hby := Bd.bytes
  have hml : c.maxLocals = 3 := hml0
  have hown : s.vm.findClass "com/example/weftwork/weftwork/Rows" = some m.cls := findClass_of_methodNamed Bd.named
  have hnm := (name_of_methodNamed Bd.named Bd.method).1
  have X0 : Stand p l e ({ frames := 1, cells := 1, slots := 64, locals := 12 } : Room) s m #[(.ref a1), (.int p2), (.int p3)] below meth c s₁ [] 0 0 := Stand.of_body Bd
  have e0 : s₁.heap = h0 := by rw [← hh, Bd.state]; rfl
  have N0 := Fr.nil n0
  have pre0 : ∀ t, Steps p.tables e below (s₁.setTop (mkF m 0 #[.val (.ref a1), .val (.int p2), .val (.int p3)] [])) t → Steps p.tables e below (s₁.setTop (entryFrame m #[(.ref a1), (.int p2), (.int p3)] 3)) t := fun t k => castTop (ef_1 m a1 p2 p3) k
  have KR_0 := Keep.refl h0 [a1]
  have P1 : ∀ t, Steps p.tables e below (s₁.setTop (mkF m 1 #[.val (.ref a1), .val (.int p2), .val (.int p3)] [(.ref a1)])) t → Steps p.tables e below (s₁.setTop (mkF m 0 #[.val (.ref a1), .val (.int p2), .val (.int p3)] [])) t := fun t k => by
    show Steps p.tables e below (s₁.setTop (mkF m 0 #[.val (.ref a1), .val (.int p2), .val (.int p3)] [])) t
    refine XS.aloadN X0.here hx rfl (hb hby d1_0) rfl rfl ?_
    exact k
  obtain ⟨T2, X2, e2, st2⟩ := initO X0 hx hZ hown (hw _ (List.mem_of_getElem? (i := 6) rfl)) (hw _ (List.mem_of_getElem? (i := 7) rfl)) (hw _ (List.mem_of_getElem? (i := 8) rfl)) e0 (g := (mkF m 1 #[.val (.ref a1), .val (.int p2), .val (.int p3)] [(.ref a1)])) rfl (by rw [hml]; rfl) rfl (hb hby d1_1) (by decide) (W := 0) (by show 2 * 0 + _ ≤ _; exact Nat.le_of_eq rfl) (by decide)
  have P3 : ∀ t, Steps p.tables e below (T2.setTop (mkF m 4 #[.val (.ref a1), .val (.int p2), .val (.int p3)] [])) t → Steps p.tables e below (s₁.setTop (mkF m 0 #[.val (.ref a1), .val (.int p2), .val (.int p3)] [])) t := fun t k => P1 t (st2 _ k)
  have P4 : ∀ t, Steps p.tables e below (T2.setTop (mkF m 6 #[.val (.ref a1), .val (.int p2), .val (.int p3)] [(.int (-1 : Int32)), (.ref a1)])) t → Steps p.tables e below (s₁.setTop (mkF m 0 #[.val (.ref a1), .val (.int p2), .val (.int p3)] [])) t := fun t k => by
    refine P3 t ?_
    show Steps p.tables e below (T2.setTop (mkF m 4 #[.val (.ref a1), .val (.int p2), .val (.int p3)] [])) t
    refine XS.aloadN X2.here hx rfl (hb hby d1_4) rfl rfl ?_
    show Steps p.tables e below (T2.setTop (mkF m 5 #[.val (.ref a1), .val (.int p2), .val (.int p3)] [(.ref a1)])) t
    refine XS.iconst X2.here hx rfl (hb hby d1_5) ?_
    exact k
  obtain ⟨T5, h5, X5, e5, W5, st5⟩ := putF X2 hx hZ hown (host := "") (Or.inl (hw _ (List.mem_of_getElem? (i := 9) rfl))) Via.refl e2 F_free E (Or.inl (hw _ (List.mem_of_getElem? (i := 10) rfl))) (hw _ (List.mem_of_getElem? (i := 1) rfl)) (ty := .int) (by decide) rfl rfl (g := (mkF m 6 #[.val (.ref a1), .val (.int p2), .val (.int p3)] [(.int (-1 : Int32)), (.ref a1)])) rfl rfl (hb hby d1_6)
  have E_5 := E.wr W5
  have KR_5 := KR_0.wr W5 (Or.inl (List.mem_of_getElem? (i := 0) rfl))
  have F_free_5 := F_free.same W5
  have F_width_5 := F_width.other W5 (Or.inr (slot_ne (Or.inr (hw _ (List.mem_of_getElem? (i := 12) rfl))) (Or.inl (hw _ (List.mem_of_getElem? (i := 10) rfl))) (by decide) (t := .int) (t' := .int) (by decide) (by decide)))
  have F_fields_5 := F_fields.other W5 (Or.inr (slot_ne (Or.inl (hw _ (List.mem_of_getElem? (i := 15) rfl))) (Or.inl (hw _ (List.mem_of_getElem? (i := 10) rfl))) (by decide) (t := (.array .int)) (t' := .int) (by decide) (by decide)))
  have F_objects_5 := F_objects.other W5 (Or.inr (slot_ne (Or.inl (hw _ (List.mem_of_getElem? (i := 19) rfl))) (Or.inl (hw _ (List.mem_of_getElem? (i := 10) rfl))) (by decide) (t := (.array (.object "java/lang/Object"))) (t' := .int) (by decide) (by decide)))
  have F_made_5 := F_made.other W5 (Or.inr (slot_ne (Or.inl (hw _ (List.mem_of_getElem? (i := 26) rfl))) (Or.inl (hw _ (List.mem_of_getElem? (i := 10) rfl))) (by decide) (t := .int) (t' := .int) (by decide) (by decide)))
  have Z_6 : n0 ≤ h5.size := Nat.le_trans Z0 (Keep.of_wr W5).1
  have N5 := Fr.snoc X5 N0 g_a1
  have P7 : ∀ t, Steps p.tables e below (T5.setTop (mkF m 9 #[.val (.ref a1), .val (.int p2), .val (.int p3)] [])) t → Steps p.tables e below (s₁.setTop (mkF m 0 #[.val (.ref a1), .val (.int p2), .val (.int p3)] [])) t := fun t k => P4 t (st5 _ k)
  have P8 : ∀ t, Steps p.tables e below (T5.setTop (mkF m 11 #[.val (.ref a1), .val (.int p2), .val (.int p3)] [(.int p2), (.ref a1)])) t → Steps p.tables e below (s₁.setTop (mkF m 0 #[.val (.ref a1), .val (.int p2), .val (.int p3)] [])) t := fun t k => by
    refine P7 t ?_
    show Steps p.tables e below (T5.setTop (mkF m 9 #[.val (.ref a1), .val (.int p2), .val (.int p3)] [])) t
    refine XS.aloadN X5.here hx rfl (hb hby d1_9) rfl rfl ?_
    show Steps p.tables e below (T5.setTop (mkF m 10 #[.val (.ref a1), .val (.int p2), .val (.int p3)] [(.ref a1)])) t
    refine XS.iloadN X5.here hx rfl (hb hby d1_10) rfl ?_
    exact k
  obtain ⟨T9, h9, X9, e9, W9, st9⟩ := putF X5 hx hZ hown (host := "") (Or.inl (hw _ (List.mem_of_getElem? (i := 11) rfl))) Via.refl e5 F_width_5 E_5 (Or.inr ⟨(hw _ (List.mem_of_getElem? (i := 12) rfl)), rfl, hnm⟩) (hw _ (List.mem_of_getElem? (i := 1) rfl)) (ty := .int) (by decide) rfl rfl (g := (mkF m 11 #[.val (.ref a1), .val (.int p2), .val (.int p3)] [(.int p2), (.ref a1)])) rfl rfl (hb hby d1_11)
  have E_9 := E_5.wr W9
  have KR_9 := KR_5.wr W9 (Or.inl (List.mem_of_getElem? (i := 0) rfl))
  have F_free_9 := F_free_5.other W9 (Or.inr (slot_ne (Or.inl (hw _ (List.mem_of_getElem? (i := 10) rfl))) (Or.inr (hw _ (List.mem_of_getElem? (i := 12) rfl))) (by decide) (t := .int) (t' := .int) (by decide) (by decide)))
  have F_width_9 := F_width_5.same W9
  have F_fields_9 := F_fields_5.other W9 (Or.inr (slot_ne (Or.inl (hw _ (List.mem_of_getElem? (i := 15) rfl))) (Or.inr (hw _ (List.mem_of_getElem? (i := 12) rfl))) (by decide) (t := (.array .int)) (t' := .int) (by decide) (by decide)))
  have F_objects_9 := F_objects_5.other W9 (Or.inr (slot_ne (Or.inl (hw _ (List.mem_of_getElem? (i := 19) rfl))) (Or.inr (hw _ (List.mem_of_getElem? (i := 12) rfl))) (by decide) (t := (.array (.object "java/lang/Object"))) (t' := .int) (by decide) (by decide)))
  have F_made_9 := F_made_5.other W9 (Or.inr (slot_ne (Or.inl (hw _ (List.mem_of_getElem? (i := 26) rfl))) (Or.inr (hw _ (List.mem_of_getElem? (i := 12) rfl))) (by decide) (t := .int) (t' := .int) (by decide) (by decide)))
  have Z_10 : n0 ≤ h9.size := Nat.le_trans Z_6 (Keep.of_wr W9).1
  have N9 := Fr.snoc X9 N5 g_a1
  have P11 : ∀ t, Steps p.tables e below (T9.setTop (mkF m 14 #[.val (.ref a1), .val (.int p2), .val (.int p3)] [])) t → Steps p.tables e below (s₁.setTop (mkF m 0 #[.val (.ref a1), .val (.int p2), .val (.int p3)] [])) t := fun t k => P8 t (st9 _ k)
  have P12 : ∀ t, Steps p.tables e below (T9.setTop (mkF m 19 #[.val (.ref a1), .val (.int p2), .val (.int p3)] [(.int (p2 * (16 : Int32))), (.ref a1)])) t → Steps p.tables e below (s₁.setTop (mkF m 0 #[.val (.ref a1), .val (.int p2), .val (.int p3)] [])) t := fun t k => by
    refine P11 t ?_
    show Steps p.tables e below (T9.setTop (mkF m 14 #[.val (.ref a1), .val (.int p2), .val (.int p3)] [])) t
    refine XS.aloadN X9.here hx rfl (hb hby d1_14) rfl rfl ?_
    show Steps p.tables e below (T9.setTop (mkF m 15 #[.val (.ref a1), .val (.int p2), .val (.int p3)] [(.ref a1)])) t
    refine XS.iloadN X9.here hx rfl (hb hby d1_15) rfl ?_
    show Steps p.tables e below (T9.setTop (mkF m 16 #[.val (.ref a1), .val (.int p2), .val (.int p3)] [(.int p2), (.ref a1)])) t
    refine XS.bipush X9.here hx rfl (hb hby d1_16) ?_
    show Steps p.tables e below (T9.setTop (mkF m 18 #[.val (.ref a1), .val (.int p2), .val (.int p3)] [(.int (16 : Int32)), (.int p2), (.ref a1)])) t
    refine XS.imul X9.here hx rfl (hb hby d1_18) rfl ?_
    exact k
  obtain ⟨T13, h13, k13, X13, e13, E13, A13, st13⟩ := newP X9 hx hZ (hw _ (List.mem_of_getElem? (i := 13) rfl)) e9 (g := (mkF m 19 #[.val (.ref a1), .val (.int p2), .val (.int p3)] [(.int (p2 * (16 : Int32))), (.ref a1)])) rfl (hb hby d1_19) rfl hneg (cap := 64) hcap (by decide) (by decide) (by decide)
  obtain ⟨b13, g13⟩ : ∃ z, z = h9.size := ⟨_, rfl⟩
  rw [← g13] at A13 st13
  have ne_a1_b13 : a1 ≠ b13 := Nat.ne_of_lt (Nat.lt_of_lt_of_le E_9.lt (Nat.le_of_eq g13.symm))
  have g_b13 : n0 ≤ b13 := Nat.le_trans Z_10 (Nat.le_of_eq g13.symm)
  have sz_b13 : h0.size ≤ b13 := Nat.le_trans KR_9.1 (Nat.le_of_eq g13.symm)
  have E_13 := E_9.ext E13
  have KR_13 := KR_9.ext E13
  have F_free_13 := F_free_9.ext E13
  have F_width_13 := F_width_9.ext E13
  have F_fields_13 := F_fields_9.ext E13
  have F_objects_13 := F_objects_9.ext E13
  have F_made_13 := F_made_9.ext E13
  have Z_14 : n0 ≤ h13.size := Nat.le_trans Z_10 E13.1
  have V_b13_0 := Arv.new A13 hneg
  have P15 : ∀ t, Steps p.tables e below (T13.setTop (mkF m 21 #[.val (.ref a1), .val (.int p2), .val (.int p3)] [(.ref b13), (.ref a1)])) t → Steps p.tables e below (s₁.setTop (mkF m 0 #[.val (.ref a1), .val (.int p2), .val (.int p3)] [])) t := fun t k => P12 t (st13 _ k)
  have V_b13_a := own_Arf.new V_b13_0
  obtain ⟨T16, h16, X16, e16, W16, st16⟩ := putF X13 hx hZ hown (host := "") (Or.inl (hw _ (List.mem_of_getElem? (i := 14) rfl))) Via.refl e13 F_fields_13 E_13 (Or.inl (hw _ (List.mem_of_getElem? (i := 15) rfl))) (hw _ (List.mem_of_getElem? (i := 1) rfl)) (ty := (.array .int)) (by decide) rfl rfl (g := (mkF m 21 #[.val (.ref a1), .val (.int p2), .val (.int p3)] [(.ref b13), (.ref a1)])) rfl rfl (hb hby d1_21)
  have E_16 := E_13.wr W16
  have KR_16 := KR_13.wr W16 (Or.inl (List.mem_of_getElem? (i := 0) rfl))
  have F_free_16 := F_free_13.other W16 (Or.inr (slot_ne (Or.inl (hw _ (List.mem_of_getElem? (i := 10) rfl))) (Or.inl (hw _ (List.mem_of_getElem? (i := 15) rfl))) (by decide) (t := .int) (t' := (.array .int)) (by decide) (by decide)))
  have F_width_16 := F_width_13.other W16 (Or.inr (slot_ne (Or.inr (hw _ (List.mem_of_getElem? (i := 12) rfl))) (Or.inl (hw _ (List.mem_of_getElem? (i := 15) rfl))) (by decide) (t := .int) (t' := (.array .int)) (by decide) (by decide)))
  have F_fields_16 := F_fields_13.same W16
  have F_objects_16 := F_objects_13.other W16 (Or.inr (slot_ne (Or.inl (hw _ (List.mem_of_getElem? (i := 19) rfl))) (Or.inl (hw _ (List.mem_of_getElem? (i := 15) rfl))) (by decide) (t := (.array (.object "java/lang/Object"))) (t' := (.array .int)) (by decide) (by decide)))
  have F_made_16 := F_made_13.other W16 (Or.inr (slot_ne (Or.inl (hw _ (List.mem_of_getElem? (i := 26) rfl))) (Or.inl (hw _ (List.mem_of_getElem? (i := 15) rfl))) (by decide) (t := .int) (t' := (.array .int)) (by decide) (by decide)))
  have V_b13_a_16 := V_b13_a.other W16 (Ne.symm ne_a1_b13)
  have Z_17 : n0 ≤ h16.size := Nat.le_trans Z_14 (Keep.of_wr W16).1
  have N16 := Fr.snoc X16 N9 g_a1
  have P18 : ∀ t, Steps p.tables e below (T16.setTop (mkF m 24 #[.val (.ref a1), .val (.int p2), .val (.int p3)] [])) t → Steps p.tables e below (s₁.setTop (mkF m 0 #[.val (.ref a1), .val (.int p2), .val (.int p3)] [])) t := fun t k => P15 t (st16 _ k)
  have P19 : ∀ t, Steps p.tables e below (T16.setTop (mkF m 38 #[.val (.ref a1), .val (.int p2), .val (.int p3)] [.null, (.ref a1)])) t → Steps p.tables e below (s₁.setTop (mkF m 0 #[.val (.ref a1), .val (.int p2), .val (.int p3)] [])) t := fun t k => by
    refine P18 t ?_
    show Steps p.tables e below (T16.setTop (mkF m 24 #[.val (.ref a1), .val (.int p2), .val (.int p3)] [])) t
    refine XS.aloadN X16.here hx rfl (hb hby d1_24) rfl rfl ?_
    show Steps p.tables e below (T16.setTop (mkF m 25 #[.val (.ref a1), .val (.int p2), .val (.int p3)] [(.ref a1)])) t
    refine XS.iloadN X16.here hx rfl (hb hby d1_25) rfl ?_
    show Steps p.tables e below (T16.setTop (mkF m 26 #[.val (.ref a1), .val (.int p2), .val (.int p3)] [(.int p3), (.ref a1)])) t
    refine XS.ifYes X16.here hx rfl (pc0 := 26) (pc' := 37) rfl (hb hby d1_26) rfl ((if0 _ _).trans (teq hp).1) (by decide) (by decide) ?_
    show Steps p.tables e below (T16.setTop (mkF m 37 #[.val (.ref a1), .val (.int p2), .val (.int p3)] [(.ref a1)])) t
    refine XS.aconstNull X16.here hx rfl (hb hby d1_37) ?_
    exact k
  obtain ⟨T20, h20, X20, e20, W20, st20⟩ := putF X16 hx hZ hown (host := "") (Or.inl (hw _ (List.mem_of_getElem? (i := 18) rfl))) Via.refl e16 F_objects_16 E_16 (Or.inl (hw _ (List.mem_of_getElem? (i := 19) rfl))) (hw _ (List.mem_of_getElem? (i := 1) rfl)) (ty := (.array (.object "java/lang/Object"))) (by decide) rfl rfl (g := (mkF m 38 #[.val (.ref a1), .val (.int p2), .val (.int p3)] [.null, (.ref a1)])) rfl rfl (hb hby d1_38)
  have E_20 := E_16.wr W20
  have KR_20 := KR_16.wr W20 (Or.inl (List.mem_of_getElem? (i := 0) rfl))
  have F_free_20 := F_free_16.other W20 (Or.inr (slot_ne (Or.inl (hw _ (List.mem_of_getElem? (i := 10) rfl))) (Or.inl (hw _ (List.mem_of_getElem? (i := 19) rfl))) (by decide) (t := .int) (t' := (.array (.object "java/lang/Object"))) (by decide) (by decide)))
  have F_width_20 := F_width_16.other W20 (Or.inr (slot_ne (Or.inr (hw _ (List.mem_of_getElem? (i := 12) rfl))) (Or.inl (hw _ (List.mem_of_getElem? (i := 19) rfl))) (by decide) (t := .int) (t' := (.array (.object "java/lang/Object"))) (by decide) (by decide)))
  have F_fields_20 := F_fields_16.other W20 (Or.inr (slot_ne (Or.inl (hw _ (List.mem_of_getElem? (i := 15) rfl))) (Or.inl (hw _ (List.mem_of_getElem? (i := 19) rfl))) (by decide) (t := (.array .int)) (t' := (.array (.object "java/lang/Object"))) (by decide) (by decide)))
  have F_objects_20 := F_objects_16.same W20
  have F_made_20 := F_made_16.other W20 (Or.inr (slot_ne (Or.inl (hw _ (List.mem_of_getElem? (i := 26) rfl))) (Or.inl (hw _ (List.mem_of_getElem? (i := 19) rfl))) (by decide) (t := .int) (t' := (.array (.object "java/lang/Object"))) (by decide) (by decide)))
  have V_b13_a_20 := V_b13_a_16.other W20 (Ne.symm ne_a1_b13)
  have Z_21 : n0 ≤ h20.size := Nat.le_trans Z_17 (Keep.of_wr W20).1
  have N20 := Fr.snoc X20 N16 g_a1
  have P22 : ∀ t, Steps p.tables e below (T20.setTop (mkF m 41 #[.val (.ref a1), .val (.int p2), .val (.int p3)] [])) t → Steps p.tables e below (s₁.setTop (mkF m 0 #[.val (.ref a1), .val (.int p2), .val (.int p3)] [])) t := fun t k => P19 t (st20 _ k)
  obtain ⟨fs, hr, hrun, hended, hW, hsame⟩ := X20.leave (v := none) (fun _ => rfl)
  refine ⟨_, _, pre0 _ (P22 _ ?_), hrun, hended, _, _, rfl, ?_, ⟨_, rfl⟩, hW, hsame.mono (by decide) (by decide)⟩
  · exact X20.returnOut hx Bd.returns (hb hby d1_41) hr
  · show Q1n Z a1 p2 p3 h0 n0 _ T20.heap _
    rw [e20]
    exact ⟨b13, rfl, N20, KR_20, E_20, F_free_20, F_width_20, F_fields_20, F_objects_20, F_made_20, V_b13_a_20, ne_a1_b13, g_b13⟩
theorem own_n16 {w : Int32} (h1 : 1 ≤ w.toInt) (h2 : w.toInt ≤ 4) : (w * (16 : Int32)).toInt = w.toInt * 16 := own_wr h1 h2 (r := 16) (by decide) (by decide)
theorem own_cong {A B : Int} (h : (A - B) % 18446744073709551616 = 0) (r1 : -9223372036854775808 ≤ A) (r2 : A < 9223372036854775808) (b1 : 0 ≤ B) (b2 : B ≤ 1000) : A = B := by omega
theorem own_long {w m : Int32} (h1 : 1 ≤ w.toInt) (h2 : w.toInt ≤ 4) (h3 : 0 ≤ m.toInt) (h4 : m.toInt ≤ 15) : ¬ (0 : Int32) < (lcmpW (w.toInt64 * (m + (1 : Int32)).toInt64) ((w * (16 : Int32)).toInt64)) := fun q => by
  have q := (lw_gt _ _).mp q
  rw [Int64.lt_iff_toInt_lt] at q
  have e1 : (m + (1 : Int32)).toInt = m.toInt + 1 := own_add rfl (q := 1) rfl (by omega) (by omega)
  have e2 := own_n16 h1 h2
  have e3 := c_lmul w.toInt64 (m + (1 : Int32)).toInt64
  have r := rng64 (w.toInt64 * (m + (1 : Int32)).toInt64)
  rw [c_i2l, c_i2l, e1] at e3
  rw [c_i2l, e2] at q
  have : w.toInt = 1 ∨ w.toInt = 2 ∨ w.toInt = 3 ∨ w.toInt = 4 := by omega
  have e4 := own_cong e3 r.1 r.2 (by rcases this with h | h | h | h <;> rw [h] <;> omega) (by rcases this with h | h | h | h <;> rw [h] <;> omega)
  rw [e4] at q
  rcases this with h | h | h | h <;> rw [h] at q <;> omega
theorem own_row {w r : Int} (h1 : 1 ≤ w) (h4 : r ≤ 15) : w * r < w * 16 := Int.mul_lt_mul_of_pos_left (by omega) (by omega)
theorem own_row1 {w r : Int} (h1 : 1 ≤ w) (h4 : r ≤ 15) : w * (r + 1) ≤ w * 16 := Int.mul_le_mul_of_nonneg_left (by omega) (by omega)
theorem own_row0 {w r : Int} (h1 : 1 ≤ w) : w * r ≤ w * (r + 1) := Int.mul_le_mul_of_nonneg_left (by omega) (by omega)
theorem pn_3 : plainName "com/example/weftwork/weftwork/Rows" = true := by first | (simp [plainName, overriddenIn]; done) | decide +kernel
theorem ef_3 (m : MethodId) (x0 : Addr) : entryFrame m #[(.ref x0)] 4 = mkF m 0 #[.val (.ref x0), .unset, .unset, .unset] [] := by first | (simp [entryFrame, mkF, argsToLocals, Value.category]; done) | rfl
theorem d3_0 : decode prog_69_method_2_code 0 = .ok (.aload_n 0, 1) := by decide +kernel
theorem d3_1 : decode prog_69_method_2_code 1 = .ok (.getfield 9, 3) := by decide +kernel
theorem d3_4 : decode prog_69_method_2_code 4 = .ok (.iconst (-1), 1) := by decide +kernel
theorem d3_5 : decode prog_69_method_2_code 5 = .ok (.if_icmp .eq 26, 3) := by decide +kernel
theorem d3_31 : decode prog_69_method_2_code 31 = .ok (.aload_n 0, 1) := by decide +kernel
theorem d3_32 : decode prog_69_method_2_code 32 = .ok (.getfield 13, 3) := by decide +kernel
theorem d3_35 : decode prog_69_method_2_code 35 = .ok (.i2l, 1) := by decide +kernel
theorem d3_36 : decode prog_69_method_2_code 36 = .ok (.aload_n 0, 1) := by decide +kernel
theorem d3_37 : decode prog_69_method_2_code 37 = .ok (.getfield 24, 3) := by decide +kernel
theorem d3_40 : decode prog_69_method_2_code 40 = .ok (.iconst 1, 1) := by decide +kernel
theorem d3_41 : decode prog_69_method_2_code 41 = .ok (.iadd, 1) := by decide +kernel
theorem d3_42 : decode prog_69_method_2_code 42 = .ok (.i2l, 1) := by decide +kernel
theorem d3_43 : decode prog_69_method_2_code 43 = .ok (.lmul, 1) := by decide +kernel
theorem d3_44 : decode prog_69_method_2_code 44 = .ok (.lstore_n 2, 1) := by decide +kernel
theorem d3_45 : decode prog_69_method_2_code 45 = .ok (.lload_n 2, 1) := by decide +kernel
theorem d3_46 : decode prog_69_method_2_code 46 = .ok (.aload_n 0, 1) := by decide +kernel
theorem d3_47 : decode prog_69_method_2_code 47 = .ok (.getfield 16, 3) := by decide +kernel
theorem d3_50 : decode prog_69_method_2_code 50 = .ok (.arraylength, 1) := by decide +kernel
theorem d3_51 : decode prog_69_method_2_code 51 = .ok (.i2l, 1) := by decide +kernel
theorem d3_52 : decode prog_69_method_2_code 52 = .ok (.lcmp, 1) := by decide +kernel
theorem d3_53 : decode prog_69_method_2_code 53 = .ok (.ifCond .le 8, 3) := by decide +kernel
theorem d3_61 : decode prog_69_method_2_code 61 = .ok (.aload_n 0, 1) := by decide +kernel
theorem d3_62 : decode prog_69_method_2_code 62 = .ok (.getfield 24, 3) := by decide +kernel
theorem d3_65 : decode prog_69_method_2_code 65 = .ok (.istore_n 1, 1) := by decide +kernel
theorem d3_66 : decode prog_69_method_2_code 66 = .ok (.aload_n 0, 1) := by decide +kernel
theorem d3_67 : decode prog_69_method_2_code 67 = .ok (.dup, 1) := by decide +kernel
theorem d3_68 : decode prog_69_method_2_code 68 = .ok (.getfield 24, 3) := by decide +kernel
theorem d3_71 : decode prog_69_method_2_code 71 = .ok (.iconst 1, 1) := by decide +kernel
theorem d3_72 : decode prog_69_method_2_code 72 = .ok (.iadd, 1) := by decide +kernel
theorem d3_73 : decode prog_69_method_2_code 73 = .ok (.putfield 24, 3) := by decide +kernel
theorem d3_76 : decode prog_69_method_2_code 76 = .ok (.aload_n 0, 1) := by decide +kernel
theorem d3_77 : decode prog_69_method_2_code 77 = .ok (.getfield 16, 3) := by decide +kernel
theorem d3_80 : decode prog_69_method_2_code 80 = .ok (.aload_n 0, 1) := by decide +kernel
theorem d3_81 : decode prog_69_method_2_code 81 = .ok (.getfield 13, 3) := by decide +kernel
theorem d3_84 : decode prog_69_method_2_code 84 = .ok (.iload_n 1, 1) := by decide +kernel
theorem d3_85 : decode prog_69_method_2_code 85 = .ok (.imul, 1) := by decide +kernel
theorem d3_86 : decode prog_69_method_2_code 86 = .ok (.aload_n 0, 1) := by decide +kernel
theorem d3_87 : decode prog_69_method_2_code 87 = .ok (.getfield 13, 3) := by decide +kernel
theorem d3_90 : decode prog_69_method_2_code 90 = .ok (.iload_n 1, 1) := by decide +kernel
theorem d3_91 : decode prog_69_method_2_code 91 = .ok (.iconst 1, 1) := by decide +kernel
theorem d3_92 : decode prog_69_method_2_code 92 = .ok (.iadd, 1) := by decide +kernel
theorem d3_93 : decode prog_69_method_2_code 93 = .ok (.imul, 1) := by decide +kernel
theorem d3_94 : decode prog_69_method_2_code 94 = .ok (.iconst (-1), 1) := by decide +kernel
theorem d3_95 : decode prog_69_method_2_code 95 = .ok (.invokestatic 31, 3) := by decide +kernel
theorem pd___IIII_V : parseMethodDescriptor "([IIII)V" = some ⟨[(.array .int), .int, .int, .int], none⟩ := by decide +kernel
theorem d3_98 : decode prog_69_method_2_code 98 = .ok (.iload_n 1, 1) := by decide +kernel
theorem d3_99 : decode prog_69_method_2_code 99 = .ok (.ireturn, 1) := by decide +kernel
def Q2f (Z : State) (a1 fa : Addr) (ob : Value) (ww md : Int32) (φ : Int → Int32) (h0 : Heap) (n0 : Nat) (v : Option Value) (h : Heap) (L : List Loc) : Prop := v = some (.int md) ∧ Fr n0 L ∧ Keep h0 h [a1, fa] ∧ Exa Z h a1 "com/example/weftwork/weftwork/Rows" ∧ Fld Z h a1 "com/example/weftwork/weftwork/Rows" "free" "I" (.int (-1 : Int32)) ∧ Fld Z h a1 "com/example/weftwork/weftwork/Rows" "width" "I" (.int ww) ∧ Fld Z h a1 "com/example/weftwork/weftwork/Rows" "fields" "[I" (.ref fa) ∧ Fld Z h a1 "com/example/weftwork/weftwork/Rows" "objects" "[Ljava/lang/Object;" ob ∧ Fld Z h a1 "com/example/weftwork/weftwork/Rows" "made" "I" (.int (md + (1 : Int32))) ∧ own_Arf Z h fa (ww * (16 : Int32)) (own_fill φ (ww * md).toInt (ww * (md + (1 : Int32))).toInt (-1 : Int32))
set_option maxRecDepth 65536 in
set_option maxHeartbeats 40000000 in
theorem rm2f (l : Launch) (Z : State) (a0 : Array Value) (hw : ∀ d ∈ tables_1, d.before a0 Z = true) (ws : List Jvm.Cond) (a1 fa : Addr) (ob : Value) (ww md : Int32) (φ : Int → Int32) (h0 : Heap) (n0 : Nat) (Z0 : n0 ≤ h0.size) (E : Exa Z h0 a1 "com/example/weftwork/weftwork/Rows") (F_free : Fld Z h0 a1 "com/example/weftwork/weftwork/Rows" "free" "I" (.int (-1 : Int32))) (F_width : Fld Z h0 a1 "com/example/weftwork/weftwork/Rows" "width" "I" (.int ww)) (F_fields : Fld Z h0 a1 "com/example/weftwork/weftwork/Rows" "fields" "[I" (.ref fa)) (F_objects : Fld Z h0 a1 "com/example/weftwork/weftwork/Rows" "objects" "[Ljava/lang/Object;" ob) (F_made : Fld Z h0 a1 "com/example/weftwork/weftwork/Rows" "made" "I" (.int md)) (VA : own_Arf Z h0 fa (ww * (16 : Int32)) φ) (ne_a1_fa : a1 ≠ fa) (g_a1 : n0 ≤ a1) (g_fa : n0 ≤ fa) (w1 : 1 ≤ ww.toInt) (w4 : ww.toInt ≤ 4) (f0 : 0 ≤ md.toInt) (f15 : md.toInt ≤ 15) :
    MetFree l (⟨"com/example/weftwork/weftwork/Rows", "make", "()I"⟩ : MethodName) (head1 (Jvm.Cond.code (⟨"com/example/weftwork/weftwork/Rows", "make", "()I"⟩ : MethodName) prog_69_method_2_code 4 (some .int) :: ws) ({ frames := 2, cells := 0, slots := 0, locals := 30 } : Room)) (fun a U => a = #[(.ref a1)] ∧ Z.Warmed39 U.vm ∧ U.heap = h0) (fun _ _ _ _ _ => True) (fun _ U o U' => ∃ v L, o = .returned v ∧ Q2f Z a1 fa ob ww md φ h0 n0 v U'.heap L ∧ FrameEnd U o U' L ({ frames := 2, cells := 0, slots := 0, locals := 30 } : Room).cells ({ frames := 2, cells := 0, slots := 0, locals := 30 } : Room).slots) := by
  refine MetFree.of_bodySF (plainFor_of_name pn_3) hisR ?_
  intro p e s m args below meth c s₁ Bd hml0 hP hK
  obtain ⟨rfl, hZ, hh⟩ := hP
  have hx := Bd.exec
  have hby := Bd.bytes
  have hml : c.maxLocals = 4 := hml0
  have hown : s.vm.findClass "com/example/weftwork/weftwork/Rows" = some m.cls := findClass_of_methodNamed Bd.named
  have hnm := (name_of_methodNamed Bd.named Bd.method).1
  have X0 : Stand p l e ({ frames := 2, cells := 0, slots := 0, locals := 30 } : Room) s m #[(.ref a1)] below meth c s₁ [] 0 0 := Stand.of_body Bd
  have e0 : s₁.heap = h0 := by rw [← hh, Bd.state]; rfl
  have N0 := Fr.nil n0
  have pre0 : ∀ t, Steps p.tables e below (s₁.setTop (mkF m 0 #[.val (.ref a1), .unset, .unset, .unset] [])) t → Steps p.tables e below (s₁.setTop (entryFrame m #[(.ref a1)] 4)) t := fun t k => castTop (ef_3 m a1) k
  have KR_0 := Keep.refl h0 [a1, fa]
  have P1 : ∀ t, Steps p.tables e below (s₁.setTop (mkF m 1 #[.val (.ref a1), .unset, .unset, .unset] [(.ref a1)])) t → Steps p.tables e below (s₁.setTop (mkF m 0 #[.val (.ref a1), .unset, .unset, .unset] [])) t := fun t k => by
    show Steps p.tables e below (s₁.setTop (mkF m 0 #[.val (.ref a1), .unset, .unset, .unset] [])) t
    refine XS.aloadN X0.here hx rfl (hb hby d3_0) rfl rfl ?_
    exact k
  obtain ⟨T2, X2, e2, st2⟩ := getF X0 hx hZ hown (host := "") (Or.inl (hw _ (List.mem_of_getElem? (i := 9) rfl))) Via.refl e0 F_free (g := (mkF m 1 #[.val (.ref a1), .unset, .unset, .unset] [(.ref a1)])) rfl rfl (hb hby d3_1)
  have P3 : ∀ t, Steps p.tables e below (T2.setTop (mkF m 4 #[.val (.ref a1), .unset, .unset, .unset] [(.int (-1 : Int32))])) t → Steps p.tables e below (s₁.setTop (mkF m 0 #[.val (.ref a1), .unset, .unset, .unset] [])) t := fun t k => P1 t (st2 _ k)
  have P4 : ∀ t, Steps p.tables e below (T2.setTop (mkF m 32 #[.val (.ref a1), .unset, .unset, .unset] [(.ref a1)])) t → Steps p.tables e below (s₁.setTop (mkF m 0 #[.val (.ref a1), .unset, .unset, .unset] [])) t := fun t k => by
    refine P3 t ?_
    show Steps p.tables e below (T2.setTop (mkF m 4 #[.val (.ref a1), .unset, .unset, .unset] [(.int (-1 : Int32))])) t
    refine XS.iconst X2.here hx rfl (hb hby d3_4) ?_
    show Steps p.tables e below (T2.setTop (mkF m 5 #[.val (.ref a1), .unset, .unset, .unset] [(.int (-1 : Int32)), (.int (-1 : Int32))])) t
    refine XS.icmpYes X2.here hx rfl (pc0 := 5) (pc' := 31) rfl (hb hby d3_5) rfl (teq rfl).1 (by decide) (by decide) ?_
    show Steps p.tables e below (T2.setTop (mkF m 31 #[.val (.ref a1), .unset, .unset, .unset] [])) t
    refine XS.aloadN X2.here hx rfl (hb hby d3_31) rfl rfl ?_
    exact k
  obtain ⟨T5, X5, e5, st5⟩ := getF X2 hx hZ hown (host := "") (Or.inl (hw _ (List.mem_of_getElem? (i := 11) rfl))) Via.refl e2 F_width (g := (mkF m 32 #[.val (.ref a1), .unset, .unset, .unset] [(.ref a1)])) rfl rfl (hb hby d3_32)
  have P6 : ∀ t, Steps p.tables e below (T5.setTop (mkF m 35 #[.val (.ref a1), .unset, .unset, .unset] [(.int ww)])) t → Steps p.tables e below (s₁.setTop (mkF m 0 #[.val (.ref a1), .unset, .unset, .unset] [])) t := fun t k => P4 t (st5 _ k)
  have P7 : ∀ t, Steps p.tables e below (T5.setTop (mkF m 37 #[.val (.ref a1), .unset, .unset, .unset] [(.ref a1), (.long (ww.toInt64))])) t → Steps p.tables e below (s₁.setTop (mkF m 0 #[.val (.ref a1), .unset, .unset, .unset] [])) t := fun t k => by
    refine P6 t ?_
    show Steps p.tables e below (T5.setTop (mkF m 35 #[.val (.ref a1), .unset, .unset, .unset] [(.int ww)])) t
    refine XS.i2l X5.here hx rfl (hb hby d3_35) rfl ?_
    show Steps p.tables e below (T5.setTop (mkF m 36 #[.val (.ref a1), .unset, .unset, .unset] [(.long (ww.toInt64))])) t
    refine XS.aloadN X5.here hx rfl (hb hby d3_36) rfl rfl ?_
    exact k
  obtain ⟨T8, X8, e8, st8⟩ := getF X5 hx hZ hown (host := "") (Or.inl (hw _ (List.mem_of_getElem? (i := 25) rfl))) Via.refl e5 F_made (g := (mkF m 37 #[.val (.ref a1), .unset, .unset, .unset] [(.ref a1), (.long (ww.toInt64))])) rfl rfl (hb hby d3_37)
  have P9 : ∀ t, Steps p.tables e below (T8.setTop (mkF m 40 #[.val (.ref a1), .unset, .unset, .unset] [(.int md), (.long (ww.toInt64))])) t → Steps p.tables e below (s₁.setTop (mkF m 0 #[.val (.ref a1), .unset, .unset, .unset] [])) t := fun t k => P7 t (st8 _ k)
  have P10 : ∀ t, Steps p.tables e below (T8.setTop (mkF m 47 #[.val (.ref a1), .unset, .val (.long ((ww.toInt64) * ((md + (1 : Int32)).toInt64))), .second] [(.ref a1), (.long ((ww.toInt64) * ((md + (1 : Int32)).toInt64)))])) t → Steps p.tables e below (s₁.setTop (mkF m 0 #[.val (.ref a1), .unset, .unset, .unset] [])) t := fun t k => by
    refine P9 t ?_
    show Steps p.tables e below (T8.setTop (mkF m 40 #[.val (.ref a1), .unset, .unset, .unset] [(.int md), (.long (ww.toInt64))])) t
    refine XS.iconst X8.here hx rfl (hb hby d3_40) ?_
    show Steps p.tables e below (T8.setTop (mkF m 41 #[.val (.ref a1), .unset, .unset, .unset] [(.int (1 : Int32)), (.int md), (.long (ww.toInt64))])) t
    refine XS.iadd X8.here hx rfl (hb hby d3_41) rfl ?_
    show Steps p.tables e below (T8.setTop (mkF m 42 #[.val (.ref a1), .unset, .unset, .unset] [(.int (md + (1 : Int32))), (.long (ww.toInt64))])) t
    refine XS.i2l X8.here hx rfl (hb hby d3_42) rfl ?_
    show Steps p.tables e below (T8.setTop (mkF m 43 #[.val (.ref a1), .unset, .unset, .unset] [(.long ((md + (1 : Int32)).toInt64)), (.long (ww.toInt64))])) t
    refine XS.lmul X8.here hx rfl (hb hby d3_43) rfl ?_
    show Steps p.tables e below (T8.setTop (mkF m 44 #[.val (.ref a1), .unset, .unset, .unset] [(.long ((ww.toInt64) * ((md + (1 : Int32)).toInt64)))])) t
    refine XS.lstoreN X8.here hx rfl (hb hby d3_44) rfl (l' := #[.val (.ref a1), .unset, .val (.long ((ww.toInt64) * ((md + (1 : Int32)).toInt64))), .second]) rfl ?_
    show Steps p.tables e below (T8.setTop (mkF m 45 #[.val (.ref a1), .unset, .val (.long ((ww.toInt64) * ((md + (1 : Int32)).toInt64))), .second] [])) t
    refine XS.lloadN X8.here hx rfl (hb hby d3_45) rfl ?_
    show Steps p.tables e below (T8.setTop (mkF m 46 #[.val (.ref a1), .unset, .val (.long ((ww.toInt64) * ((md + (1 : Int32)).toInt64))), .second] [(.long ((ww.toInt64) * ((md + (1 : Int32)).toInt64)))])) t
    refine XS.aloadN X8.here hx rfl (hb hby d3_46) rfl rfl ?_
    exact k
  obtain ⟨T11, X11, e11, st11⟩ := getF X8 hx hZ hown (host := "") (Or.inl (hw _ (List.mem_of_getElem? (i := 14) rfl))) Via.refl e8 F_fields (g := (mkF m 47 #[.val (.ref a1), .unset, .val (.long ((ww.toInt64) * ((md + (1 : Int32)).toInt64))), .second] [(.ref a1), (.long ((ww.toInt64) * ((md + (1 : Int32)).toInt64)))])) rfl rfl (hb hby d3_47)
  have P12 : ∀ t, Steps p.tables e below (T11.setTop (mkF m 50 #[.val (.ref a1), .unset, .val (.long ((ww.toInt64) * ((md + (1 : Int32)).toInt64))), .second] [(.ref fa), (.long ((ww.toInt64) * ((md + (1 : Int32)).toInt64)))])) t → Steps p.tables e below (s₁.setTop (mkF m 0 #[.val (.ref a1), .unset, .unset, .unset] [])) t := fun t k => P10 t (st11 _ k)
  obtain ⟨cl13, A13_, S13_, N13_, H13_⟩ := id VA
  have P14 : ∀ t, Steps p.tables e below (T11.setTop (mkF m 62 #[.val (.ref a1), .unset, .val (.long ((ww.toInt64) * ((md + (1 : Int32)).toInt64))), .second] [(.ref a1)])) t → Steps p.tables e below (s₁.setTop (mkF m 0 #[.val (.ref a1), .unset, .unset, .unset] [])) t := fun t k => by
    refine P12 t ?_
    show Steps p.tables e below (T11.setTop (mkF m 50 #[.val (.ref a1), .unset, .val (.long ((ww.toInt64) * ((md + (1 : Int32)).toInt64))), .second] [(.ref fa), (.long ((ww.toInt64) * ((md + (1 : Int32)).toInt64)))])) t
    refine X11.arraylength hx (by rw [e11]; exact A13_.1) (State.isArrayOf_alike hZ.alike A13_.2.1) (g := (mkF m 50 #[.val (.ref a1), .unset, .val (.long ((ww.toInt64) * ((md + (1 : Int32)).toInt64))), .second] [(.ref fa), (.long ((ww.toInt64) * ((md + (1 : Int32)).toInt64)))])) rfl rfl (hb hby d3_50) _ ?_
    rw [len_of S13_ N13_]
    show Steps p.tables e below (T11.setTop (mkF m 51 #[.val (.ref a1), .unset, .val (.long ((ww.toInt64) * ((md + (1 : Int32)).toInt64))), .second] [(.int (ww * (16 : Int32))), (.long ((ww.toInt64) * ((md + (1 : Int32)).toInt64)))])) t
    refine XS.i2l X11.here hx rfl (hb hby d3_51) rfl ?_
    show Steps p.tables e below (T11.setTop (mkF m 52 #[.val (.ref a1), .unset, .val (.long ((ww.toInt64) * ((md + (1 : Int32)).toInt64))), .second] [(.long ((ww * (16 : Int32)).toInt64)), (.long ((ww.toInt64) * ((md + (1 : Int32)).toInt64)))])) t
    refine XS.lcmp X11.here hx rfl (hb hby d3_52) rfl ?_
    show Steps p.tables e below (T11.setTop (mkF m 53 #[.val (.ref a1), .unset, .val (.long ((ww.toInt64) * ((md + (1 : Int32)).toInt64))), .second] [(.int (lcmpW ((ww.toInt64) * ((md + (1 : Int32)).toInt64)) ((ww * (16 : Int32)).toInt64)))])) t
    refine XS.ifYes X11.here hx rfl (pc0 := 53) (pc' := 61) rfl (hb hby d3_53) rfl ((if0 _ _).trans (flt (own_long w1 w4 f0 f15)).2.2.2) (by decide) (by decide) ?_
    show Steps p.tables e below (T11.setTop (mkF m 61 #[.val (.ref a1), .unset, .val (.long ((ww.toInt64) * ((md + (1 : Int32)).toInt64))), .second] [])) t
    refine XS.aloadN X11.here hx rfl (hb hby d3_61) rfl rfl ?_
    exact k
  obtain ⟨T15, X15, e15, st15⟩ := getF X11 hx hZ hown (host := "") (Or.inl (hw _ (List.mem_of_getElem? (i := 25) rfl))) Via.refl e11 F_made (g := (mkF m 62 #[.val (.ref a1), .unset, .val (.long ((ww.toInt64) * ((md + (1 : Int32)).toInt64))), .second] [(.ref a1)])) rfl rfl (hb hby d3_62)
  have P16 : ∀ t, Steps p.tables e below (T15.setTop (mkF m 65 #[.val (.ref a1), .unset, .val (.long ((ww.toInt64) * ((md + (1 : Int32)).toInt64))), .second] [(.int md)])) t → Steps p.tables e below (s₁.setTop (mkF m 0 #[.val (.ref a1), .unset, .unset, .unset] [])) t := fun t k => P14 t (st15 _ k)
  have P17 : ∀ t, Steps p.tables e below (T15.setTop (mkF m 68 #[.val (.ref a1), .val (.int md), .val (.long ((ww.toInt64) * ((md + (1 : Int32)).toInt64))), .second] [(.ref a1), (.ref a1)])) t → Steps p.tables e below (s₁.setTop (mkF m 0 #[.val (.ref a1), .unset, .unset, .unset] [])) t := fun t k => by
    refine P16 t ?_
    show Steps p.tables e below (T15.setTop (mkF m 65 #[.val (.ref a1), .unset, .val (.long ((ww.toInt64) * ((md + (1 : Int32)).toInt64))), .second] [(.int md)])) t
    refine XS.istoreN X15.here hx rfl (hb hby d3_65) rfl (l' := #[.val (.ref a1), .val (.int md), .val (.long ((ww.toInt64) * ((md + (1 : Int32)).toInt64))), .second]) rfl ?_
    show Steps p.tables e below (T15.setTop (mkF m 66 #[.val (.ref a1), .val (.int md), .val (.long ((ww.toInt64) * ((md + (1 : Int32)).toInt64))), .second] [])) t
    refine XS.aloadN X15.here hx rfl (hb hby d3_66) rfl rfl ?_
    show Steps p.tables e below (T15.setTop (mkF m 67 #[.val (.ref a1), .val (.int md), .val (.long ((ww.toInt64) * ((md + (1 : Int32)).toInt64))), .second] [(.ref a1)])) t
    refine XS.dup X15.here hx rfl (hb hby d3_67) rfl rfl ?_
    exact k
  obtain ⟨T18, X18, e18, st18⟩ := getF X15 hx hZ hown (host := "") (Or.inl (hw _ (List.mem_of_getElem? (i := 25) rfl))) Via.refl e15 F_made (g := (mkF m 68 #[.val (.ref a1), .val (.int md), .val (.long ((ww.toInt64) * ((md + (1 : Int32)).toInt64))), .second] [(.ref a1), (.ref a1)])) rfl rfl (hb hby d3_68)
  have P19 : ∀ t, Steps p.tables e below (T18.setTop (mkF m 71 #[.val (.ref a1), .val (.int md), .val (.long ((ww.toInt64) * ((md + (1 : Int32)).toInt64))), .second] [(.int md), (.ref a1)])) t → Steps p.tables e below (s₁.setTop (mkF m 0 #[.val (.ref a1), .unset, .unset, .unset] [])) t := fun t k => P17 t (st18 _ k)
  have P20 : ∀ t, Steps p.tables e below (T18.setTop (mkF m 73 #[.val (.ref a1), .val (.int md), .val (.long ((ww.toInt64) * ((md + (1 : Int32)).toInt64))), .second] [(.int (md + (1 : Int32))), (.ref a1)])) t → Steps p.tables e below (s₁.setTop (mkF m 0 #[.val (.ref a1), .unset, .unset, .unset] [])) t := fun t k => by
    refine P19 t ?_
    show Steps p.tables e below (T18.setTop (mkF m 71 #[.val (.ref a1), .val (.int md), .val (.long ((ww.toInt64) * ((md + (1 : Int32)).toInt64))), .second] [(.int md), (.ref a1)])) t
    refine XS.iconst X18.here hx rfl (hb hby d3_71) ?_
    show Steps p.tables e below (T18.setTop (mkF m 72 #[.val (.ref a1), .val (.int md), .val (.long ((ww.toInt64) * ((md + (1 : Int32)).toInt64))), .second] [(.int (1 : Int32)), (.int md), (.ref a1)])) t
    refine XS.iadd X18.here hx rfl (hb hby d3_72) rfl ?_
    exact k
  obtain ⟨T21, h21, X21, e21, W21, st21⟩ := putF X18 hx hZ hown (host := "") (Or.inl (hw _ (List.mem_of_getElem? (i := 25) rfl))) Via.refl e18 F_made E (Or.inl (hw _ (List.mem_of_getElem? (i := 26) rfl))) (hw _ (List.mem_of_getElem? (i := 1) rfl)) (ty := .int) (by decide) rfl rfl (g := (mkF m 73 #[.val (.ref a1), .val (.int md), .val (.long ((ww.toInt64) * ((md + (1 : Int32)).toInt64))), .second] [(.int (md + (1 : Int32))), (.ref a1)])) rfl rfl (hb hby d3_73)
  have E_21 := E.wr W21
  have KR_21 := KR_0.wr W21 (Or.inl (List.mem_of_getElem? (i := 0) rfl))
  have VA_21 := VA.other W21 (Ne.symm ne_a1_fa)
  have F_free_21 := F_free.other W21 (Or.inr (slot_ne (Or.inl (hw _ (List.mem_of_getElem? (i := 10) rfl))) (Or.inl (hw _ (List.mem_of_getElem? (i := 26) rfl))) (by decide) (t := .int) (t' := .int) (by decide) (by decide)))
  have F_width_21 := F_width.other W21 (Or.inr (slot_ne (Or.inr (hw _ (List.mem_of_getElem? (i := 12) rfl))) (Or.inl (hw _ (List.mem_of_getElem? (i := 26) rfl))) (by decide) (t := .int) (t' := .int) (by decide) (by decide)))
  have F_fields_21 := F_fields.other W21 (Or.inr (slot_ne (Or.inl (hw _ (List.mem_of_getElem? (i := 15) rfl))) (Or.inl (hw _ (List.mem_of_getElem? (i := 26) rfl))) (by decide) (t := (.array .int)) (t' := .int) (by decide) (by decide)))
  have F_made_21 := F_made.same W21
  have F_objects_21 := F_objects.other W21 (Or.inr (slot_ne (Or.inl (hw _ (List.mem_of_getElem? (i := 19) rfl))) (Or.inl (hw _ (List.mem_of_getElem? (i := 26) rfl))) (by decide) (t := (.array (.object "java/lang/Object"))) (t' := .int) (by decide) (by decide)))
  have Z_22 : n0 ≤ h21.size := Nat.le_trans Z0 (Keep.of_wr W21).1
  have N21 := Fr.snoc X21 N0 g_a1
  have P23 : ∀ t, Steps p.tables e below (T21.setTop (mkF m 76 #[.val (.ref a1), .val (.int md), .val (.long ((ww.toInt64) * ((md + (1 : Int32)).toInt64))), .second] [])) t → Steps p.tables e below (s₁.setTop (mkF m 0 #[.val (.ref a1), .unset, .unset, .unset] [])) t := fun t k => P20 t (st21 _ k)
  have P24 : ∀ t, Steps p.tables e below (T21.setTop (mkF m 77 #[.val (.ref a1), .val (.int md), .val (.long ((ww.toInt64) * ((md + (1 : Int32)).toInt64))), .second] [(.ref a1)])) t → Steps p.tables e below (s₁.setTop (mkF m 0 #[.val (.ref a1), .unset, .unset, .unset] [])) t := fun t k => by
    refine P23 t ?_
    show Steps p.tables e below (T21.setTop (mkF m 76 #[.val (.ref a1), .val (.int md), .val (.long ((ww.toInt64) * ((md + (1 : Int32)).toInt64))), .second] [])) t
    refine XS.aloadN X21.here hx rfl (hb hby d3_76) rfl rfl ?_
    exact k
  obtain ⟨T25, X25, e25, st25⟩ := getF X21 hx hZ hown (host := "") (Or.inl (hw _ (List.mem_of_getElem? (i := 14) rfl))) Via.refl e21 F_fields_21 (g := (mkF m 77 #[.val (.ref a1), .val (.int md), .val (.long ((ww.toInt64) * ((md + (1 : Int32)).toInt64))), .second] [(.ref a1)])) rfl rfl (hb hby d3_77)
  have P26 : ∀ t, Steps p.tables e below (T25.setTop (mkF m 80 #[.val (.ref a1), .val (.int md), .val (.long ((ww.toInt64) * ((md + (1 : Int32)).toInt64))), .second] [(.ref fa)])) t → Steps p.tables e below (s₁.setTop (mkF m 0 #[.val (.ref a1), .unset, .unset, .unset] [])) t := fun t k => P24 t (st25 _ k)
  have P27 : ∀ t, Steps p.tables e below (T25.setTop (mkF m 81 #[.val (.ref a1), .val (.int md), .val (.long ((ww.toInt64) * ((md + (1 : Int32)).toInt64))), .second] [(.ref a1), (.ref fa)])) t → Steps p.tables e below (s₁.setTop (mkF m 0 #[.val (.ref a1), .unset, .unset, .unset] [])) t := fun t k => by
    refine P26 t ?_
    show Steps p.tables e below (T25.setTop (mkF m 80 #[.val (.ref a1), .val (.int md), .val (.long ((ww.toInt64) * ((md + (1 : Int32)).toInt64))), .second] [(.ref fa)])) t
    refine XS.aloadN X25.here hx rfl (hb hby d3_80) rfl rfl ?_
    exact k
  obtain ⟨T28, X28, e28, st28⟩ := getF X25 hx hZ hown (host := "") (Or.inl (hw _ (List.mem_of_getElem? (i := 11) rfl))) Via.refl e25 F_width_21 (g := (mkF m 81 #[.val (.ref a1), .val (.int md), .val (.long ((ww.toInt64) * ((md + (1 : Int32)).toInt64))), .second] [(.ref a1), (.ref fa)])) rfl rfl (hb hby d3_81)
  have P29 : ∀ t, Steps p.tables e below (T28.setTop (mkF m 84 #[.val (.ref a1), .val (.int md), .val (.long ((ww.toInt64) * ((md + (1 : Int32)).toInt64))), .second] [(.int ww), (.ref fa)])) t → Steps p.tables e below (s₁.setTop (mkF m 0 #[.val (.ref a1), .unset, .unset, .unset] [])) t := fun t k => P27 t (st28 _ k)
  have P30 : ∀ t, Steps p.tables e below (T28.setTop (mkF m 87 #[.val (.ref a1), .val (.int md), .val (.long ((ww.toInt64) * ((md + (1 : Int32)).toInt64))), .second] [(.ref a1), (.int (ww * md)), (.ref fa)])) t → Steps p.tables e below (s₁.setTop (mkF m 0 #[.val (.ref a1), .unset, .unset, .unset] [])) t := fun t k => by
    refine P29 t ?_
    show Steps p.tables e below (T28.setTop (mkF m 84 #[.val (.ref a1), .val (.int md), .val (.long ((ww.toInt64) * ((md + (1 : Int32)).toInt64))), .second] [(.int ww), (.ref fa)])) t
    refine XS.iloadN X28.here hx rfl (hb hby d3_84) rfl ?_
    show Steps p.tables e below (T28.setTop (mkF m 85 #[.val (.ref a1), .val (.int md), .val (.long ((ww.toInt64) * ((md + (1 : Int32)).toInt64))), .second] [(.int md), (.int ww), (.ref fa)])) t
    refine XS.imul X28.here hx rfl (hb hby d3_85) rfl ?_
    show Steps p.tables e below (T28.setTop (mkF m 86 #[.val (.ref a1), .val (.int md), .val (.long ((ww.toInt64) * ((md + (1 : Int32)).toInt64))), .second] [(.int (ww * md)), (.ref fa)])) t
    refine XS.aloadN X28.here hx rfl (hb hby d3_86) rfl rfl ?_
    exact k
  obtain ⟨T31, X31, e31, st31⟩ := getF X28 hx hZ hown (host := "") (Or.inl (hw _ (List.mem_of_getElem? (i := 11) rfl))) Via.refl e28 F_width_21 (g := (mkF m 87 #[.val (.ref a1), .val (.int md), .val (.long ((ww.toInt64) * ((md + (1 : Int32)).toInt64))), .second] [(.ref a1), (.int (ww * md)), (.ref fa)])) rfl rfl (hb hby d3_87)
  have P32 : ∀ t, Steps p.tables e below (T31.setTop (mkF m 90 #[.val (.ref a1), .val (.int md), .val (.long ((ww.toInt64) * ((md + (1 : Int32)).toInt64))), .second] [(.int ww), (.int (ww * md)), (.ref fa)])) t → Steps p.tables e below (s₁.setTop (mkF m 0 #[.val (.ref a1), .unset, .unset, .unset] [])) t := fun t k => P30 t (st31 _ k)
  have P33 : ∀ t, Steps p.tables e below (T31.setTop (mkF m 95 #[.val (.ref a1), .val (.int md), .val (.long ((ww.toInt64) * ((md + (1 : Int32)).toInt64))), .second] [(.int (-1 : Int32)), (.int (ww * (md + (1 : Int32)))), (.int (ww * md)), (.ref fa)])) t → Steps p.tables e below (s₁.setTop (mkF m 0 #[.val (.ref a1), .unset, .unset, .unset] [])) t := fun t k => by
    refine P32 t ?_
    show Steps p.tables e below (T31.setTop (mkF m 90 #[.val (.ref a1), .val (.int md), .val (.long ((ww.toInt64) * ((md + (1 : Int32)).toInt64))), .second] [(.int ww), (.int (ww * md)), (.ref fa)])) t
    refine XS.iloadN X31.here hx rfl (hb hby d3_90) rfl ?_
    show Steps p.tables e below (T31.setTop (mkF m 91 #[.val (.ref a1), .val (.int md), .val (.long ((ww.toInt64) * ((md + (1 : Int32)).toInt64))), .second] [(.int md), (.int ww), (.int (ww * md)), (.ref fa)])) t
    refine XS.iconst X31.here hx rfl (hb hby d3_91) ?_
    show Steps p.tables e below (T31.setTop (mkF m 92 #[.val (.ref a1), .val (.int md), .val (.long ((ww.toInt64) * ((md + (1 : Int32)).toInt64))), .second] [(.int (1 : Int32)), (.int md), (.int ww), (.int (ww * md)), (.ref fa)])) t
    refine XS.iadd X31.here hx rfl (hb hby d3_92) rfl ?_
    show Steps p.tables e below (T31.setTop (mkF m 93 #[.val (.ref a1), .val (.int md), .val (.long ((ww.toInt64) * ((md + (1 : Int32)).toInt64))), .second] [(.int (md + (1 : Int32))), (.int ww), (.int (ww * md)), (.ref fa)])) t
    refine XS.imul X31.here hx rfl (hb hby d3_93) rfl ?_
    show Steps p.tables e below (T31.setTop (mkF m 94 #[.val (.ref a1), .val (.int md), .val (.long ((ww.toInt64) * ((md + (1 : Int32)).toInt64))), .second] [(.int (ww * (md + (1 : Int32)))), (.int (ww * md)), (.ref fa)])) t
    refine XS.iconst X31.here hx rfl (hb hby d3_94) ?_
    exact k
  have er : (md + (1 : Int32)).toInt = md.toInt + 1 := own_add rfl (q := 1) rfl (by omega) (by omega)
  have e1 : (ww * md).toInt = ww.toInt * md.toInt := own_wr w1 w4 (by omega) (by omega)
  have e2 : (ww * (md + (1 : Int32))).toInt = ww.toInt * (md.toInt + 1) := by rw [own_wr w1 w4 (by omega) (by omega), er]
  obtain ⟨_, _, ⟨T34, L34, k34, n34⟩, -, X34, ⟨Lc34, hQ34, l34, y34, z34⟩, st34⟩ := Jvm.LawKit.callS X31 hx (y := (⟨"java/util/Arrays", "fill", "([IIII)V"⟩ : MethodName)) hown (mvT hZ (hw _ (List.mem_of_getElem? (i := 27) rfl))) (mvT hZ (hw _ (List.mem_of_getElem? (i := 28) rfl))) (mvT hZ (hw _ (List.mem_of_getElem? (i := 29) rfl))) (mvT hZ (hw _ (List.mem_of_getElem? (i := 30) rfl))) (by decide) (backOf (W := 0) (rm_fill l Z a0 hw [] fa (ww * md) (ww * (md + (1 : Int32))) (-1 : Int32) (ww * (16 : Int32)) φ h21 n0 Z_22 VA_21 g_fa (by rw [e1]; exact (own_prod w1 w4 (by omega) (by omega)).1) (by rw [e1, e2]; exact own_row0 w1) (by rw [e2, own_n16 w1 w4]; exact own_row1 w1 (by omega))) hZ (hw _ (List.mem_of_getElem? (i := 30) rfl)) (hw _ (List.mem_of_getElem? (i := 29) rfl)) (by decide) (by decide)) (g := (mkF m 95 #[.val (.ref a1), .val (.int md), .val (.long ((ww.toInt64) * ((md + (1 : Int32)).toInt64))), .second] [(.int (-1 : Int32)), (.int (ww * (md + (1 : Int32)))), (.int (ww * md)), (.ref fa)])) rfl (by rw [hml]; rfl) (argsL := [(.ref fa), (.int (ww * md)), (.int (ww * (md + (1 : Int32)))), (.int (-1 : Int32))]) (rest := []) (lenOf pd___IIII_V rfl) rfl (by show 2 * 0 + _ ≤ _; exact Nat.le_of_eq rfl) (hb hby d3_95) (fun _ _ => ⟨rfl, e31, (by decide : 0 + 0 ≤ _), (by decide : 0 + 0 ≤ _)⟩)
  dsimp only [Pt.U, Pt.locs, Pt.cells, Pt.slots] at X34 l34 y34 z34 st34 hQ34
  subst l34 y34 z34
  obtain ⟨rfl, N34q, K34, V34x⟩ := hQ34
  have E_34 := E_21.keep K34
  have KR_34 := KR_21.trans K34 (allS (Or.inl (List.mem_of_getElem? (i := 1) rfl)) all0)
  have F_free_34 := F_free_21.keep K34 (ninS ne_a1_fa nin0)
  have F_width_34 := F_width_21.keep K34 (ninS ne_a1_fa nin0)
  have F_fields_34 := F_fields_21.keep K34 (ninS ne_a1_fa nin0)
  have F_made_34 := F_made_21.keep K34 (ninS ne_a1_fa nin0)
  have F_objects_34 := F_objects_21.keep K34 (ninS ne_a1_fa nin0)
  have Z_35 : n0 ≤ T34.heap.size := Nat.le_trans Z_22 K34.1
  have N34 := Fr.app N21 N34q
  have P36 : ∀ t, Steps p.tables e below (T34.setTop (mkF m 98 #[.val (.ref a1), .val (.int md), .val (.long ((ww.toInt64) * ((md + (1 : Int32)).toInt64))), .second] [])) t → Steps p.tables e below (s₁.setTop (mkF m 0 #[.val (.ref a1), .unset, .unset, .unset] [])) t := fun t k => P33 t (st34 _ k)
  have P37 : ∀ t, Steps p.tables e below (T34.setTop (mkF m 99 #[.val (.ref a1), .val (.int md), .val (.long ((ww.toInt64) * ((md + (1 : Int32)).toInt64))), .second] [(.int md)])) t → Steps p.tables e below (s₁.setTop (mkF m 0 #[.val (.ref a1), .unset, .unset, .unset] [])) t := fun t k => by
    refine P36 t ?_
    show Steps p.tables e below (T34.setTop (mkF m 98 #[.val (.ref a1), .val (.int md), .val (.long ((ww.toInt64) * ((md + (1 : Int32)).toInt64))), .second] [])) t
    refine XS.iloadN X34.here hx rfl (hb hby d3_98) rfl ?_
    exact k
  obtain ⟨fs, hr, hrun, hended, hW, hsame⟩ := X34.leave (v := some (.int md)) (fun h => by rw [Bd.returns] at h; cases h)
  refine ⟨_, _, pre0 _ (P37 _ ?_), hrun, hended, _, _, rfl, ?_, ⟨_, rfl⟩, hW, hsame.mono (by decide) (by decide)⟩
  · exact retI X34 hx Bd.returns (hb hby d3_99) hr
  · show Q2f Z a1 fa ob ww md φ h0 n0 _ T34.heap _
    exact ⟨rfl, N34, KR_34, E_34, F_free_34, F_width_34, F_fields_34, F_objects_34, F_made_34, V34x⟩
theorem d3_8 : decode prog_69_method_2_code 8 = .ok (.aload_n 0, 1) := by decide +kernel
theorem d3_9 : decode prog_69_method_2_code 9 = .ok (.getfield 9, 3) := by decide +kernel
theorem d3_12 : decode prog_69_method_2_code 12 = .ok (.istore_n 1, 1) := by decide +kernel
theorem d3_13 : decode prog_69_method_2_code 13 = .ok (.aload_n 0, 1) := by decide +kernel
theorem d3_14 : decode prog_69_method_2_code 14 = .ok (.aload_n 0, 1) := by decide +kernel
theorem d3_15 : decode prog_69_method_2_code 15 = .ok (.getfield 16, 3) := by decide +kernel
theorem d3_18 : decode prog_69_method_2_code 18 = .ok (.aload_n 0, 1) := by decide +kernel
theorem d3_19 : decode prog_69_method_2_code 19 = .ok (.getfield 13, 3) := by decide +kernel
theorem d3_22 : decode prog_69_method_2_code 22 = .ok (.iload_n 1, 1) := by decide +kernel
theorem d3_23 : decode prog_69_method_2_code 23 = .ok (.imul, 1) := by decide +kernel
theorem d3_24 : decode prog_69_method_2_code 24 = .ok (.iaload, 1) := by decide +kernel
theorem d3_25 : decode prog_69_method_2_code 25 = .ok (.putfield 9, 3) := by decide +kernel
theorem d3_28 : decode prog_69_method_2_code 28 = .ok (.goto 48, 3) := by decide +kernel
def Q2r (Z : State) (a1 fa : Addr) (ob : Value) (ww md fr : Int32) (φ : Int → Int32) (h0 : Heap) (n0 : Nat) (v : Option Value) (h : Heap) (L : List Loc) : Prop := v = some (.int fr) ∧ Fr n0 L ∧ Keep h0 h [a1, fa] ∧ Exa Z h a1 "com/example/weftwork/weftwork/Rows" ∧ Fld Z h a1 "com/example/weftwork/weftwork/Rows" "free" "I" (.int (φ (ww * fr).toInt)) ∧ Fld Z h a1 "com/example/weftwork/weftwork/Rows" "width" "I" (.int ww) ∧ Fld Z h a1 "com/example/weftwork/weftwork/Rows" "fields" "[I" (.ref fa) ∧ Fld Z h a1 "com/example/weftwork/weftwork/Rows" "objects" "[Ljava/lang/Object;" ob ∧ Fld Z h a1 "com/example/weftwork/weftwork/Rows" "made" "I" (.int md) ∧ own_Arf Z h fa (ww * (16 : Int32)) (own_fill φ (ww * fr).toInt (ww * (fr + (1 : Int32))).toInt (-1 : Int32))
set_option maxRecDepth 65536 in
set_option maxHeartbeats 40000000 in
theorem rm2r (l : Launch) (Z : State) (a0 : Array Value) (hw : ∀ d ∈ tables_1, d.before a0 Z = true) (ws : List Jvm.Cond) (a1 fa : Addr) (ob : Value) (ww md fr : Int32) (φ : Int → Int32) (h0 : Heap) (n0 : Nat) (Z0 : n0 ≤ h0.size) (E : Exa Z h0 a1 "com/example/weftwork/weftwork/Rows") (F_free : Fld Z h0 a1 "com/example/weftwork/weftwork/Rows" "free" "I" (.int fr)) (F_width : Fld Z h0 a1 "com/example/weftwork/weftwork/Rows" "width" "I" (.int ww)) (F_fields : Fld Z h0 a1 "com/example/weftwork/weftwork/Rows" "fields" "[I" (.ref fa)) (F_objects : Fld Z h0 a1 "com/example/weftwork/weftwork/Rows" "objects" "[Ljava/lang/Object;" ob) (F_made : Fld Z h0 a1 "com/example/weftwork/weftwork/Rows" "made" "I" (.int md)) (VA : own_Arf Z h0 fa (ww * (16 : Int32)) φ) (ne_a1_fa : a1 ≠ fa) (g_a1 : n0 ≤ a1) (g_fa : n0 ≤ fa) (w1 : 1 ≤ ww.toInt) (w4 : ww.toInt ≤ 4) (f0 : 0 ≤ fr.toInt) (f15 : fr.toInt ≤ 15) (hfr : ¬ fr = (-1 : Int32)) :
    MetFree l (⟨"com/example/weftwork/weftwork/Rows", "make", "()I"⟩ : MethodName) (head1 (Jvm.Cond.code (⟨"com/example/weftwork/weftwork/Rows", "make", "()I"⟩ : MethodName) prog_69_method_2_code 4 (some .int) :: ws) ({ frames := 2, cells := 0, slots := 0, locals := 30 } : Room)) (fun a U => a = #[(.ref a1)] ∧ Z.Warmed39 U.vm ∧ U.heap = h0) (fun _ _ _ _ _ => True) (fun _ U o U' => ∃ v L, o = .returned v ∧ Q2r Z a1 fa ob ww md fr φ h0 n0 v U'.heap L ∧ FrameEnd U o U' L ({ frames := 2, cells := 0, slots := 0, locals := 30 } : Room).cells ({ frames := 2, cells := 0, slots := 0, locals := 30 } : Room).slots) := by
  refine MetFree.of_bodySF (plainFor_of_name pn_3) hisR ?_
  intro p e s m args below meth c s₁ Bd hml0 hP hK
  obtain ⟨rfl, hZ, hh⟩ := hP
  have hx := Bd.exec
  have hby := Bd.bytes
  have hml : c.maxLocals = 4 := hml0
  have hown : s.vm.findClass "com/example/weftwork/weftwork/Rows" = some m.cls := findClass_of_methodNamed Bd.named
  have hnm := (name_of_methodNamed Bd.named Bd.method).1
  have X0 : Stand p l e ({ frames := 2, cells := 0, slots := 0, locals := 30 } : Room) s m #[(.ref a1)] below meth c s₁ [] 0 0 := Stand.of_body Bd
  have e0 : s₁.heap = h0 := by rw [← hh, Bd.state]; rfl
  have N0 := Fr.nil n0
  have pre0 : ∀ t, Steps p.tables e below (s₁.setTop (mkF m 0 #[.val (.ref a1), .unset, .unset, .unset] [])) t → Steps p.tables e below (s₁.setTop (entryFrame m #[(.ref a1)] 4)) t := fun t k => castTop (ef_3 m a1) k
  have KR_0 := Keep.refl h0 [a1, fa]
  have P1 : ∀ t, Steps p.tables e below (s₁.setTop (mkF m 1 #[.val (.ref a1), .unset, .unset, .unset] [(.ref a1)])) t → Steps p.tables e below (s₁.setTop (mkF m 0 #[.val (.ref a1), .unset, .unset, .unset] [])) t := fun t k => by
    show Steps p.tables e below (s₁.setTop (mkF m 0 #[.val (.ref a1), .unset, .unset, .unset] [])) t
    refine XS.aloadN X0.here hx rfl (hb hby d3_0) rfl rfl ?_
    exact k
  obtain ⟨T2, X2, e2, st2⟩ := getF X0 hx hZ hown (host := "") (Or.inl (hw _ (List.mem_of_getElem? (i := 9) rfl))) Via.refl e0 F_free (g := (mkF m 1 #[.val (.ref a1), .unset, .unset, .unset] [(.ref a1)])) rfl rfl (hb hby d3_1)
  have P3 : ∀ t, Steps p.tables e below (T2.setTop (mkF m 4 #[.val (.ref a1), .unset, .unset, .unset] [(.int fr)])) t → Steps p.tables e below (s₁.setTop (mkF m 0 #[.val (.ref a1), .unset, .unset, .unset] [])) t := fun t k => P1 t (st2 _ k)
  have P4 : ∀ t, Steps p.tables e below (T2.setTop (mkF m 9 #[.val (.ref a1), .unset, .unset, .unset] [(.ref a1)])) t → Steps p.tables e below (s₁.setTop (mkF m 0 #[.val (.ref a1), .unset, .unset, .unset] [])) t := fun t k => by
    refine P3 t ?_
    show Steps p.tables e below (T2.setTop (mkF m 4 #[.val (.ref a1), .unset, .unset, .unset] [(.int fr)])) t
    refine XS.iconst X2.here hx rfl (hb hby d3_4) ?_
    show Steps p.tables e below (T2.setTop (mkF m 5 #[.val (.ref a1), .unset, .unset, .unset] [(.int (-1 : Int32)), (.int fr)])) t
    refine XS.icmpNo X2.here hx rfl (hb hby d3_5) rfl (feq hfr).1 ?_
    show Steps p.tables e below (T2.setTop (mkF m 8 #[.val (.ref a1), .unset, .unset, .unset] [])) t
    refine XS.aloadN X2.here hx rfl (hb hby d3_8) rfl rfl ?_
    exact k
  obtain ⟨T5, X5, e5, st5⟩ := getF X2 hx hZ hown (host := "") (Or.inl (hw _ (List.mem_of_getElem? (i := 9) rfl))) Via.refl e2 F_free (g := (mkF m 9 #[.val (.ref a1), .unset, .unset, .unset] [(.ref a1)])) rfl rfl (hb hby d3_9)
  have P6 : ∀ t, Steps p.tables e below (T5.setTop (mkF m 12 #[.val (.ref a1), .unset, .unset, .unset] [(.int fr)])) t → Steps p.tables e below (s₁.setTop (mkF m 0 #[.val (.ref a1), .unset, .unset, .unset] [])) t := fun t k => P4 t (st5 _ k)
  have P7 : ∀ t, Steps p.tables e below (T5.setTop (mkF m 15 #[.val (.ref a1), .val (.int fr), .unset, .unset] [(.ref a1), (.ref a1)])) t → Steps p.tables e below (s₁.setTop (mkF m 0 #[.val (.ref a1), .unset, .unset, .unset] [])) t := fun t k => by
    refine P6 t ?_
    show Steps p.tables e below (T5.setTop (mkF m 12 #[.val (.ref a1), .unset, .unset, .unset] [(.int fr)])) t
    refine XS.istoreN X5.here hx rfl (hb hby d3_12) rfl (l' := #[.val (.ref a1), .val (.int fr), .unset, .unset]) rfl ?_
    show Steps p.tables e below (T5.setTop (mkF m 13 #[.val (.ref a1), .val (.int fr), .unset, .unset] [])) t
    refine XS.aloadN X5.here hx rfl (hb hby d3_13) rfl rfl ?_
    show Steps p.tables e below (T5.setTop (mkF m 14 #[.val (.ref a1), .val (.int fr), .unset, .unset] [(.ref a1)])) t
    refine XS.aloadN X5.here hx rfl (hb hby d3_14) rfl rfl ?_
    exact k
  obtain ⟨T8, X8, e8, st8⟩ := getF X5 hx hZ hown (host := "") (Or.inl (hw _ (List.mem_of_getElem? (i := 14) rfl))) Via.refl e5 F_fields (g := (mkF m 15 #[.val (.ref a1), .val (.int fr), .unset, .unset] [(.ref a1), (.ref a1)])) rfl rfl (hb hby d3_15)
  have P9 : ∀ t, Steps p.tables e below (T8.setTop (mkF m 18 #[.val (.ref a1), .val (.int fr), .unset, .unset] [(.ref fa), (.ref a1)])) t → Steps p.tables e below (s₁.setTop (mkF m 0 #[.val (.ref a1), .unset, .unset, .unset] [])) t := fun t k => P7 t (st8 _ k)
  have P10 : ∀ t, Steps p.tables e below (T8.setTop (mkF m 19 #[.val (.ref a1), .val (.int fr), .unset, .unset] [(.ref a1), (.ref fa), (.ref a1)])) t → Steps p.tables e below (s₁.setTop (mkF m 0 #[.val (.ref a1), .unset, .unset, .unset] [])) t := fun t k => by
    refine P9 t ?_
    show Steps p.tables e below (T8.setTop (mkF m 18 #[.val (.ref a1), .val (.int fr), .unset, .unset] [(.ref fa), (.ref a1)])) t
    refine XS.aloadN X8.here hx rfl (hb hby d3_18) rfl rfl ?_
    exact k
  obtain ⟨T11, X11, e11, st11⟩ := getF X8 hx hZ hown (host := "") (Or.inl (hw _ (List.mem_of_getElem? (i := 11) rfl))) Via.refl e8 F_width (g := (mkF m 19 #[.val (.ref a1), .val (.int fr), .unset, .unset] [(.ref a1), (.ref fa), (.ref a1)])) rfl rfl (hb hby d3_19)
  have P12 : ∀ t, Steps p.tables e below (T11.setTop (mkF m 22 #[.val (.ref a1), .val (.int fr), .unset, .unset] [(.int ww), (.ref fa), (.ref a1)])) t → Steps p.tables e below (s₁.setTop (mkF m 0 #[.val (.ref a1), .unset, .unset, .unset] [])) t := fun t k => P10 t (st11 _ k)
  obtain ⟨cl13, A13_, S13_, N13_, H13_⟩ := id VA
  have hin13 := own_in (j := (ww * fr)) S13_ N13_ (by rw [own_wr w1 w4 f0 (by omega)]; exact (own_prod w1 w4 f0 (by omega)).1) (by rw [own_wr w1 w4 f0 (by omega), own_n16 w1 w4]; exact own_row w1 f15)
  have P14 : ∀ t, Steps p.tables e below (T11.setTop (mkF m 25 #[.val (.ref a1), .val (.int fr), .unset, .unset] [(.int (φ (ww * fr).toInt)), (.ref a1)])) t → Steps p.tables e below (s₁.setTop (mkF m 0 #[.val (.ref a1), .unset, .unset, .unset] [])) t := fun t k => by
    refine P12 t ?_
    show Steps p.tables e below (T11.setTop (mkF m 22 #[.val (.ref a1), .val (.int fr), .unset, .unset] [(.int ww), (.ref fa), (.ref a1)])) t
    refine XS.iloadN X11.here hx rfl (hb hby d3_22) rfl ?_
    show Steps p.tables e below (T11.setTop (mkF m 23 #[.val (.ref a1), .val (.int fr), .unset, .unset] [(.int fr), (.int ww), (.ref fa), (.ref a1)])) t
    refine XS.imul X11.here hx rfl (hb hby d3_23) rfl ?_
    show Steps p.tables e below (T11.setTop (mkF m 24 #[.val (.ref a1), .val (.int fr), .unset, .unset] [(.int (ww * fr)), (.ref fa), (.ref a1)])) t
    refine X11.iaload hx (j := (ww * fr)) (v := (.int (φ (ww * fr).toInt))) (by rw [e11]; exact A13_.1) (State.isArrayOf_alike hZ.alike A13_.2.1) A13_.2.2 hin13 (own_Arf.at H13_ hin13) (g := (mkF m 24 #[.val (.ref a1), .val (.int fr), .unset, .unset] [(.int (ww * fr)), (.ref fa), (.ref a1)])) rfl rfl (hb hby d3_24) _ ?_
    exact k
  obtain ⟨T15, h15, X15, e15, W15, st15⟩ := putF X11 hx hZ hown (host := "") (Or.inl (hw _ (List.mem_of_getElem? (i := 9) rfl))) Via.refl e11 F_free E (Or.inl (hw _ (List.mem_of_getElem? (i := 10) rfl))) (hw _ (List.mem_of_getElem? (i := 1) rfl)) (ty := .int) (by decide) rfl rfl (g := (mkF m 25 #[.val (.ref a1), .val (.int fr), .unset, .unset] [(.int (φ (ww * fr).toInt)), (.ref a1)])) rfl rfl (hb hby d3_25)
  have E_15 := E.wr W15
  have KR_15 := KR_0.wr W15 (Or.inl (List.mem_of_getElem? (i := 0) rfl))
  have VA_15 := VA.other W15 (Ne.symm ne_a1_fa)
  have F_free_15 := F_free.same W15
  have F_width_15 := F_width.other W15 (Or.inr (slot_ne (Or.inr (hw _ (List.mem_of_getElem? (i := 12) rfl))) (Or.inl (hw _ (List.mem_of_getElem? (i := 10) rfl))) (by decide) (t := .int) (t' := .int) (by decide) (by decide)))
  have F_fields_15 := F_fields.other W15 (Or.inr (slot_ne (Or.inl (hw _ (List.mem_of_getElem? (i := 15) rfl))) (Or.inl (hw _ (List.mem_of_getElem? (i := 10) rfl))) (by decide) (t := (.array .int)) (t' := .int) (by decide) (by decide)))
  have F_made_15 := F_made.other W15 (Or.inr (slot_ne (Or.inl (hw _ (List.mem_of_getElem? (i := 26) rfl))) (Or.inl (hw _ (List.mem_of_getElem? (i := 10) rfl))) (by decide) (t := .int) (t' := .int) (by decide) (by decide)))
  have F_objects_15 := F_objects.other W15 (Or.inr (slot_ne (Or.inl (hw _ (List.mem_of_getElem? (i := 19) rfl))) (Or.inl (hw _ (List.mem_of_getElem? (i := 10) rfl))) (by decide) (t := (.array (.object "java/lang/Object"))) (t' := .int) (by decide) (by decide)))
  have Z_16 : n0 ≤ h15.size := Nat.le_trans Z0 (Keep.of_wr W15).1
  have N15 := Fr.snoc X15 N0 g_a1
  have P17 : ∀ t, Steps p.tables e below (T15.setTop (mkF m 28 #[.val (.ref a1), .val (.int fr), .unset, .unset] [])) t → Steps p.tables e below (s₁.setTop (mkF m 0 #[.val (.ref a1), .unset, .unset, .unset] [])) t := fun t k => P14 t (st15 _ k)
  have P18 : ∀ t, Steps p.tables e below (T15.setTop (mkF m 77 #[.val (.ref a1), .val (.int fr), .unset, .unset] [(.ref a1)])) t → Steps p.tables e below (s₁.setTop (mkF m 0 #[.val (.ref a1), .unset, .unset, .unset] [])) t := fun t k => by
    refine P17 t ?_
    show Steps p.tables e below (T15.setTop (mkF m 28 #[.val (.ref a1), .val (.int fr), .unset, .unset] [])) t
    refine XS.goto X15.here hx rfl (pc0 := 28) (pc' := 76) rfl (hb hby d3_28) (by decide) (by decide) ?_
    show Steps p.tables e below (T15.setTop (mkF m 76 #[.val (.ref a1), .val (.int fr), .unset, .unset] [])) t
    refine XS.aloadN X15.here hx rfl (hb hby d3_76) rfl rfl ?_
    exact k
  obtain ⟨T19, X19, e19, st19⟩ := getF X15 hx hZ hown (host := "") (Or.inl (hw _ (List.mem_of_getElem? (i := 14) rfl))) Via.refl e15 F_fields_15 (g := (mkF m 77 #[.val (.ref a1), .val (.int fr), .unset, .unset] [(.ref a1)])) rfl rfl (hb hby d3_77)
  have P20 : ∀ t, Steps p.tables e below (T19.setTop (mkF m 80 #[.val (.ref a1), .val (.int fr), .unset, .unset] [(.ref fa)])) t → Steps p.tables e below (s₁.setTop (mkF m 0 #[.val (.ref a1), .unset, .unset, .unset] [])) t := fun t k => P18 t (st19 _ k)
  have P21 : ∀ t, Steps p.tables e below (T19.setTop (mkF m 81 #[.val (.ref a1), .val (.int fr), .unset, .unset] [(.ref a1), (.ref fa)])) t → Steps p.tables e below (s₁.setTop (mkF m 0 #[.val (.ref a1), .unset, .unset, .unset] [])) t := fun t k => by
    refine P20 t ?_
    show Steps p.tables e below (T19.setTop (mkF m 80 #[.val (.ref a1), .val (.int fr), .unset, .unset] [(.ref fa)])) t
    refine XS.aloadN X19.here hx rfl (hb hby d3_80) rfl rfl ?_
    exact k
  obtain ⟨T22, X22, e22, st22⟩ := getF X19 hx hZ hown (host := "") (Or.inl (hw _ (List.mem_of_getElem? (i := 11) rfl))) Via.refl e19 F_width_15 (g := (mkF m 81 #[.val (.ref a1), .val (.int fr), .unset, .unset] [(.ref a1), (.ref fa)])) rfl rfl (hb hby d3_81)
  have P23 : ∀ t, Steps p.tables e below (T22.setTop (mkF m 84 #[.val (.ref a1), .val (.int fr), .unset, .unset] [(.int ww), (.ref fa)])) t → Steps p.tables e below (s₁.setTop (mkF m 0 #[.val (.ref a1), .unset, .unset, .unset] [])) t := fun t k => P21 t (st22 _ k)
  have P24 : ∀ t, Steps p.tables e below (T22.setTop (mkF m 87 #[.val (.ref a1), .val (.int fr), .unset, .unset] [(.ref a1), (.int (ww * fr)), (.ref fa)])) t → Steps p.tables e below (s₁.setTop (mkF m 0 #[.val (.ref a1), .unset, .unset, .unset] [])) t := fun t k => by
    refine P23 t ?_
    show Steps p.tables e below (T22.setTop (mkF m 84 #[.val (.ref a1), .val (.int fr), .unset, .unset] [(.int ww), (.ref fa)])) t
    refine XS.iloadN X22.here hx rfl (hb hby d3_84) rfl ?_
    show Steps p.tables e below (T22.setTop (mkF m 85 #[.val (.ref a1), .val (.int fr), .unset, .unset] [(.int fr), (.int ww), (.ref fa)])) t
    refine XS.imul X22.here hx rfl (hb hby d3_85) rfl ?_
    show Steps p.tables e below (T22.setTop (mkF m 86 #[.val (.ref a1), .val (.int fr), .unset, .unset] [(.int (ww * fr)), (.ref fa)])) t
    refine XS.aloadN X22.here hx rfl (hb hby d3_86) rfl rfl ?_
    exact k
  obtain ⟨T25, X25, e25, st25⟩ := getF X22 hx hZ hown (host := "") (Or.inl (hw _ (List.mem_of_getElem? (i := 11) rfl))) Via.refl e22 F_width_15 (g := (mkF m 87 #[.val (.ref a1), .val (.int fr), .unset, .unset] [(.ref a1), (.int (ww * fr)), (.ref fa)])) rfl rfl (hb hby d3_87)
  have P26 : ∀ t, Steps p.tables e below (T25.setTop (mkF m 90 #[.val (.ref a1), .val (.int fr), .unset, .unset] [(.int ww), (.int (ww * fr)), (.ref fa)])) t → Steps p.tables e below (s₁.setTop (mkF m 0 #[.val (.ref a1), .unset, .unset, .unset] [])) t := fun t k => P24 t (st25 _ k)
  have P27 : ∀ t, Steps p.tables e below (T25.setTop (mkF m 95 #[.val (.ref a1), .val (.int fr), .unset, .unset] [(.int (-1 : Int32)), (.int (ww * (fr + (1 : Int32)))), (.int (ww * fr)), (.ref fa)])) t → Steps p.tables e below (s₁.setTop (mkF m 0 #[.val (.ref a1), .unset, .unset, .unset] [])) t := fun t k => by
    refine P26 t ?_
    show Steps p.tables e below (T25.setTop (mkF m 90 #[.val (.ref a1), .val (.int fr), .unset, .unset] [(.int ww), (.int (ww * fr)), (.ref fa)])) t
    refine XS.iloadN X25.here hx rfl (hb hby d3_90) rfl ?_
    show Steps p.tables e below (T25.setTop (mkF m 91 #[.val (.ref a1), .val (.int fr), .unset, .unset] [(.int fr), (.int ww), (.int (ww * fr)), (.ref fa)])) t
    refine XS.iconst X25.here hx rfl (hb hby d3_91) ?_
    show Steps p.tables e below (T25.setTop (mkF m 92 #[.val (.ref a1), .val (.int fr), .unset, .unset] [(.int (1 : Int32)), (.int fr), (.int ww), (.int (ww * fr)), (.ref fa)])) t
    refine XS.iadd X25.here hx rfl (hb hby d3_92) rfl ?_
    show Steps p.tables e below (T25.setTop (mkF m 93 #[.val (.ref a1), .val (.int fr), .unset, .unset] [(.int (fr + (1 : Int32))), (.int ww), (.int (ww * fr)), (.ref fa)])) t
    refine XS.imul X25.here hx rfl (hb hby d3_93) rfl ?_
    show Steps p.tables e below (T25.setTop (mkF m 94 #[.val (.ref a1), .val (.int fr), .unset, .unset] [(.int (ww * (fr + (1 : Int32)))), (.int (ww * fr)), (.ref fa)])) t
    refine XS.iconst X25.here hx rfl (hb hby d3_94) ?_
    exact k
  have er : (fr + (1 : Int32)).toInt = fr.toInt + 1 := own_add rfl (q := 1) rfl (by omega) (by omega)
  have e1 : (ww * fr).toInt = ww.toInt * fr.toInt := own_wr w1 w4 (by omega) (by omega)
  have e2 : (ww * (fr + (1 : Int32))).toInt = ww.toInt * (fr.toInt + 1) := by rw [own_wr w1 w4 (by omega) (by omega), er]
  obtain ⟨_, _, ⟨T28, L28, k28, n28⟩, -, X28, ⟨Lc28, hQ28, l28, y28, z28⟩, st28⟩ := Jvm.LawKit.callS X25 hx (y := (⟨"java/util/Arrays", "fill", "([IIII)V"⟩ : MethodName)) hown (mvT hZ (hw _ (List.mem_of_getElem? (i := 27) rfl))) (mvT hZ (hw _ (List.mem_of_getElem? (i := 28) rfl))) (mvT hZ (hw _ (List.mem_of_getElem? (i := 29) rfl))) (mvT hZ (hw _ (List.mem_of_getElem? (i := 30) rfl))) (by decide) (backOf (W := 0) (rm_fill l Z a0 hw [] fa (ww * fr) (ww * (fr + (1 : Int32))) (-1 : Int32) (ww * (16 : Int32)) φ h15 n0 Z_16 VA_15 g_fa (by rw [e1]; exact (own_prod w1 w4 (by omega) (by omega)).1) (by rw [e1, e2]; exact own_row0 w1) (by rw [e2, own_n16 w1 w4]; exact own_row1 w1 (by omega))) hZ (hw _ (List.mem_of_getElem? (i := 30) rfl)) (hw _ (List.mem_of_getElem? (i := 29) rfl)) (by decide) (by decide)) (g := (mkF m 95 #[.val (.ref a1), .val (.int fr), .unset, .unset] [(.int (-1 : Int32)), (.int (ww * (fr + (1 : Int32)))), (.int (ww * fr)), (.ref fa)])) rfl (by rw [hml]; rfl) (argsL := [(.ref fa), (.int (ww * fr)), (.int (ww * (fr + (1 : Int32)))), (.int (-1 : Int32))]) (rest := []) (lenOf pd___IIII_V rfl) rfl (by show 2 * 0 + _ ≤ _; exact Nat.le_of_eq rfl) (hb hby d3_95) (fun _ _ => ⟨rfl, e25, (by decide : 0 + 0 ≤ _), (by decide : 0 + 0 ≤ _)⟩)
  dsimp only [Pt.U, Pt.locs, Pt.cells, Pt.slots] at X28 l28 y28 z28 st28 hQ28
  subst l28 y28 z28
  obtain ⟨rfl, N28q, K28, V28x⟩ := hQ28
  have E_28 := E_15.keep K28
  have KR_28 := KR_15.trans K28 (allS (Or.inl (List.mem_of_getElem? (i := 1) rfl)) all0)
  have F_free_28 := F_free_15.keep K28 (ninS ne_a1_fa nin0)
  have F_width_28 := F_width_15.keep K28 (ninS ne_a1_fa nin0)
  have F_fields_28 := F_fields_15.keep K28 (ninS ne_a1_fa nin0)
  have F_made_28 := F_made_15.keep K28 (ninS ne_a1_fa nin0)
  have F_objects_28 := F_objects_15.keep K28 (ninS ne_a1_fa nin0)
  have Z_29 : n0 ≤ T28.heap.size := Nat.le_trans Z_16 K28.1
  have N28 := Fr.app N15 N28q
  have P30 : ∀ t, Steps p.tables e below (T28.setTop (mkF m 98 #[.val (.ref a1), .val (.int fr), .unset, .unset] [])) t → Steps p.tables e below (s₁.setTop (mkF m 0 #[.val (.ref a1), .unset, .unset, .unset] [])) t := fun t k => P27 t (st28 _ k)
  have P31 : ∀ t, Steps p.tables e below (T28.setTop (mkF m 99 #[.val (.ref a1), .val (.int fr), .unset, .unset] [(.int fr)])) t → Steps p.tables e below (s₁.setTop (mkF m 0 #[.val (.ref a1), .unset, .unset, .unset] [])) t := fun t k => by
    refine P30 t ?_
    show Steps p.tables e below (T28.setTop (mkF m 98 #[.val (.ref a1), .val (.int fr), .unset, .unset] [])) t
    refine XS.iloadN X28.here hx rfl (hb hby d3_98) rfl ?_
    exact k
  obtain ⟨fs, hr, hrun, hended, hW, hsame⟩ := X28.leave (v := some (.int fr)) (fun h => by rw [Bd.returns] at h; cases h)
  refine ⟨_, _, pre0 _ (P31 _ ?_), hrun, hended, _, _, rfl, ?_, ⟨_, rfl⟩, hW, hsame.mono (by decide) (by decide)⟩
  · exact retI X28 hx Bd.returns (hb hby d3_99) hr
  · show Q2r Z a1 fa ob ww md fr φ h0 n0 _ T28.heap _
    exact ⟨rfl, N28, KR_28, E_28, F_free_28, F_width_28, F_fields_28, F_objects_28, F_made_28, V28x⟩
theorem pn_6 : plainName "com/example/weftwork/weftwork/Rows" = true := by first | (simp [plainName, overriddenIn]; done) | decide +kernel
theorem ef_6 (m : MethodId) (x0 : Addr) (x1 : Int32) (x2 : Int32) (x3 : Int32) : entryFrame m #[(.ref x0), (.int x1), (.int x2), (.int x3)] 4 = mkF m 0 #[.val (.ref x0), .val (.int x1), .val (.int x2), .val (.int x3)] [] := by first | (simp [entryFrame, mkF, argsToLocals, Value.category]; done) | rfl
theorem d6_0 : decode prog_69_method_8_code 0 = .ok (.aload_n 0, 1) := by decide +kernel
theorem d6_1 : decode prog_69_method_8_code 1 = .ok (.getfield 16, 3) := by decide +kernel
theorem d6_4 : decode prog_69_method_8_code 4 = .ok (.aload_n 0, 1) := by decide +kernel
theorem d6_5 : decode prog_69_method_8_code 5 = .ok (.getfield 13, 3) := by decide +kernel
theorem d6_8 : decode prog_69_method_8_code 8 = .ok (.iload_n 1, 1) := by decide +kernel
theorem d6_9 : decode prog_69_method_8_code 9 = .ok (.imul, 1) := by decide +kernel
theorem d6_10 : decode prog_69_method_8_code 10 = .ok (.iload_n 2, 1) := by decide +kernel
theorem d6_11 : decode prog_69_method_8_code 11 = .ok (.iadd, 1) := by decide +kernel
theorem d6_12 : decode prog_69_method_8_code 12 = .ok (.iload_n 3, 1) := by decide +kernel
theorem d6_13 : decode prog_69_method_8_code 13 = .ok (.iastore, 1) := by decide +kernel
theorem d6_14 : decode prog_69_method_8_code 14 = .ok (.return_, 1) := by decide +kernel
def Q3 (Z : State) (a1 fa : Addr) (p2 p3 p4 ww : Int32) (φ : Int → Int32) (h0 : Heap) (n0 : Nat) (v : Option Value) (h : Heap) (L : List Loc) : Prop := v = none ∧ Fr n0 L ∧ Keep h0 h [fa] ∧ own_Arf Z h fa (ww * (16 : Int32)) (own_put φ ((ww * p2) + p3).toInt p4)
set_option maxRecDepth 65536 in
set_option maxHeartbeats 40000000 in
theorem rm3 (l : Launch) (Z : State) (a0 : Array Value) (hw : ∀ d ∈ tables_1, d.before a0 Z = true) (ws : List Jvm.Cond) (a1 fa : Addr) (p2 p3 p4 ww : Int32) (φ : Int → Int32) (h0 : Heap) (n0 : Nat) (Z0 : n0 ≤ h0.size) (F_width : Fld Z h0 a1 "com/example/weftwork/weftwork/Rows" "width" "I" (.int ww)) (F_fields : Fld Z h0 a1 "com/example/weftwork/weftwork/Rows" "fields" "[I" (.ref fa)) (VA : own_Arf Z h0 fa (ww * (16 : Int32)) φ) (i0 : 0 ≤ ((ww * p2) + p3).toInt) (i1 : ((ww * p2) + p3).toInt < (ww * (16 : Int32)).toInt) (ne_a1_fa : a1 ≠ fa) (g_fa : n0 ≤ fa) :
    MetFree l (⟨"com/example/weftwork/weftwork/Rows", "set", "(III)V"⟩ : MethodName) (head1 (Jvm.Cond.code (⟨"com/example/weftwork/weftwork/Rows", "set", "(III)V"⟩ : MethodName) prog_69_method_8_code 4 none :: ws) ({ frames := 0, cells := 0, slots := 0, locals := 0 } : Room)) (fun a U => a = #[(.ref a1), (.int p2), (.int p3), (.int p4)] ∧ Z.Warmed39 U.vm ∧ U.heap = h0) (fun _ _ _ _ _ => True) (fun _ U o U' => ∃ v L, o = .returned v ∧ Q3 Z a1 fa p2 p3 p4 ww φ h0 n0 v U'.heap L ∧ FrameEnd U o U' L ({ frames := 0, cells := 0, slots := 0, locals := 0 } : Room).cells ({ frames := 0, cells := 0, slots := 0, locals := 0 } : Room).slots) := by
  refine MetFree.of_bodySF (plainFor_of_name pn_6) hisR ?_
  intro p e s m args below meth c s₁ Bd hml0 hP hK
  obtain ⟨rfl, hZ, hh⟩ := hP
  have hx := Bd.exec
  have hby := Bd.bytes
  have hml : c.maxLocals = 4 := hml0
  have hown : s.vm.findClass "com/example/weftwork/weftwork/Rows" = some m.cls := findClass_of_methodNamed Bd.named
  have hnm := (name_of_methodNamed Bd.named Bd.method).1
  have X0 : Stand p l e ({ frames := 0, cells := 0, slots := 0, locals := 0 } : Room) s m #[(.ref a1), (.int p2), (.int p3), (.int p4)] below meth c s₁ [] 0 0 := Stand.of_body Bd
  have e0 : s₁.heap = h0 := by rw [← hh, Bd.state]; rfl
  have N0 := Fr.nil n0
  have pre0 : ∀ t, Steps p.tables e below (s₁.setTop (mkF m 0 #[.val (.ref a1), .val (.int p2), .val (.int p3), .val (.int p4)] [])) t → Steps p.tables e below (s₁.setTop (entryFrame m #[(.ref a1), (.int p2), (.int p3), (.int p4)] 4)) t := fun t k => castTop (ef_6 m a1 p2 p3 p4) k
  have KR_0 := Keep.refl h0 [fa]
  have P1 : ∀ t, Steps p.tables e below (s₁.setTop (mkF m 1 #[.val (.ref a1), .val (.int p2), .val (.int p3), .val (.int p4)] [(.ref a1)])) t → Steps p.tables e below (s₁.setTop (mkF m 0 #[.val (.ref a1), .val (.int p2), .val (.int p3), .val (.int p4)] [])) t := fun t k => by
    show Steps p.tables e below (s₁.setTop (mkF m 0 #[.val (.ref a1), .val (.int p2), .val (.int p3), .val (.int p4)] [])) t
    refine XS.aloadN X0.here hx rfl (hb hby d6_0) rfl rfl ?_
    exact k
  obtain ⟨T2, X2, e2, st2⟩ := getF X0 hx hZ hown (host := "") (Or.inl (hw _ (List.mem_of_getElem? (i := 14) rfl))) Via.refl e0 F_fields (g := (mkF m 1 #[.val (.ref a1), .val (.int p2), .val (.int p3), .val (.int p4)] [(.ref a1)])) rfl rfl (hb hby d6_1)
  have P3 : ∀ t, Steps p.tables e below (T2.setTop (mkF m 4 #[.val (.ref a1), .val (.int p2), .val (.int p3), .val (.int p4)] [(.ref fa)])) t → Steps p.tables e below (s₁.setTop (mkF m 0 #[.val (.ref a1), .val (.int p2), .val (.int p3), .val (.int p4)] [])) t := fun t k => P1 t (st2 _ k)
  have P4 : ∀ t, Steps p.tables e below (T2.setTop (mkF m 5 #[.val (.ref a1), .val (.int p2), .val (.int p3), .val (.int p4)] [(.ref a1), (.ref fa)])) t → Steps p.tables e below (s₁.setTop (mkF m 0 #[.val (.ref a1), .val (.int p2), .val (.int p3), .val (.int p4)] [])) t := fun t k => by
    refine P3 t ?_
    show Steps p.tables e below (T2.setTop (mkF m 4 #[.val (.ref a1), .val (.int p2), .val (.int p3), .val (.int p4)] [(.ref fa)])) t
    refine XS.aloadN X2.here hx rfl (hb hby d6_4) rfl rfl ?_
    exact k
  obtain ⟨T5, X5, e5, st5⟩ := getF X2 hx hZ hown (host := "") (Or.inl (hw _ (List.mem_of_getElem? (i := 11) rfl))) Via.refl e2 F_width (g := (mkF m 5 #[.val (.ref a1), .val (.int p2), .val (.int p3), .val (.int p4)] [(.ref a1), (.ref fa)])) rfl rfl (hb hby d6_5)
  have P6 : ∀ t, Steps p.tables e below (T5.setTop (mkF m 8 #[.val (.ref a1), .val (.int p2), .val (.int p3), .val (.int p4)] [(.int ww), (.ref fa)])) t → Steps p.tables e below (s₁.setTop (mkF m 0 #[.val (.ref a1), .val (.int p2), .val (.int p3), .val (.int p4)] [])) t := fun t k => P4 t (st5 _ k)
  have P7 : ∀ t, Steps p.tables e below (T5.setTop (mkF m 13 #[.val (.ref a1), .val (.int p2), .val (.int p3), .val (.int p4)] [(.int p4), (.int ((ww * p2) + p3)), (.ref fa)])) t → Steps p.tables e below (s₁.setTop (mkF m 0 #[.val (.ref a1), .val (.int p2), .val (.int p3), .val (.int p4)] [])) t := fun t k => by
    refine P6 t ?_
    show Steps p.tables e below (T5.setTop (mkF m 8 #[.val (.ref a1), .val (.int p2), .val (.int p3), .val (.int p4)] [(.int ww), (.ref fa)])) t
    refine XS.iloadN X5.here hx rfl (hb hby d6_8) rfl ?_
    show Steps p.tables e below (T5.setTop (mkF m 9 #[.val (.ref a1), .val (.int p2), .val (.int p3), .val (.int p4)] [(.int p2), (.int ww), (.ref fa)])) t
    refine XS.imul X5.here hx rfl (hb hby d6_9) rfl ?_
    show Steps p.tables e below (T5.setTop (mkF m 10 #[.val (.ref a1), .val (.int p2), .val (.int p3), .val (.int p4)] [(.int (ww * p2)), (.ref fa)])) t
    refine XS.iloadN X5.here hx rfl (hb hby d6_10) rfl ?_
    show Steps p.tables e below (T5.setTop (mkF m 11 #[.val (.ref a1), .val (.int p2), .val (.int p3), .val (.int p4)] [(.int p3), (.int (ww * p2)), (.ref fa)])) t
    refine XS.iadd X5.here hx rfl (hb hby d6_11) rfl ?_
    show Steps p.tables e below (T5.setTop (mkF m 12 #[.val (.ref a1), .val (.int p2), .val (.int p3), .val (.int p4)] [(.int ((ww * p2) + p3)), (.ref fa)])) t
    refine XS.iloadN X5.here hx rfl (hb hby d6_12) rfl ?_
    exact k
  obtain ⟨cl8, A8_, S8_, N8_, H8_⟩ := id VA
  have hin8 := own_in (j := ((ww * p2) + p3)) S8_ N8_ i0 i1
  obtain ⟨T8, h8, X8, e8, W8, st8⟩ := stI X5 hx hZ e5 A8_ (j := ((ww * p2) + p3)) hin8 (g := (mkF m 13 #[.val (.ref a1), .val (.int p2), .val (.int p3), .val (.int p4)] [(.int p4), (.int ((ww * p2) + p3)), (.ref fa)])) rfl rfl (hb hby d6_13)
  have KR_8 := KR_0.wr W8 (Or.inl (List.mem_of_getElem? (i := 0) rfl))
  have F_width_8 := F_width.other W8 (Or.inl ne_a1_fa)
  have F_fields_8 := F_fields.other W8 (Or.inl ne_a1_fa)
  have Z_9 : n0 ≤ h8.size := Nat.le_trans Z0 (Keep.of_wr W8).1
  have N8 := Fr.snoc X8 N0 g_fa
  have VA_8 := own_Arf.set A8_ S8_ N8_ H8_ W8 hin8
  have P10 : ∀ t, Steps p.tables e below (T8.setTop (mkF m 14 #[.val (.ref a1), .val (.int p2), .val (.int p3), .val (.int p4)] [])) t → Steps p.tables e below (s₁.setTop (mkF m 0 #[.val (.ref a1), .val (.int p2), .val (.int p3), .val (.int p4)] [])) t := fun t k => P7 t (st8 _ k)
  obtain ⟨fs, hr, hrun, hended, hW, hsame⟩ := X8.leave (v := none) (fun _ => rfl)
  refine ⟨_, _, pre0 _ (P10 _ ?_), hrun, hended, _, _, rfl, ?_, ⟨_, rfl⟩, hW, hsame.mono (by decide) (by decide)⟩
  · exact X8.returnOut hx Bd.returns (hb hby d6_14) hr
  · show Q3 Z a1 fa p2 p3 p4 ww φ h0 n0 _ T8.heap _
    rw [e8]
    exact ⟨rfl, N8, KR_8, VA_8⟩
theorem pn_10 : plainName "com/example/weftwork/weftwork/Rows" = true := by first | (simp [plainName, overriddenIn]; done) | decide +kernel
theorem ef_10 (m : MethodId) (x0 : Addr) (x1 : Int32) (x2 : Int32) : entryFrame m #[(.ref x0), (.int x1), (.int x2)] 3 = mkF m 0 #[.val (.ref x0), .val (.int x1), .val (.int x2)] [] := by first | (simp [entryFrame, mkF, argsToLocals, Value.category]; done) | rfl
theorem d10_0 : decode prog_69_method_7_code 0 = .ok (.aload_n 0, 1) := by decide +kernel
theorem d10_1 : decode prog_69_method_7_code 1 = .ok (.getfield 16, 3) := by decide +kernel
theorem d10_4 : decode prog_69_method_7_code 4 = .ok (.aload_n 0, 1) := by decide +kernel
theorem d10_5 : decode prog_69_method_7_code 5 = .ok (.getfield 13, 3) := by decide +kernel
theorem d10_8 : decode prog_69_method_7_code 8 = .ok (.iload_n 1, 1) := by decide +kernel
theorem d10_9 : decode prog_69_method_7_code 9 = .ok (.imul, 1) := by decide +kernel
theorem d10_10 : decode prog_69_method_7_code 10 = .ok (.iload_n 2, 1) := by decide +kernel
theorem d10_11 : decode prog_69_method_7_code 11 = .ok (.iadd, 1) := by decide +kernel
theorem d10_12 : decode prog_69_method_7_code 12 = .ok (.iaload, 1) := by decide +kernel
theorem d10_13 : decode prog_69_method_7_code 13 = .ok (.ireturn, 1) := by decide +kernel
def Q4 (Z : State) (a1 fa : Addr) (p2 p3 ww : Int32) (φ : Int → Int32) (h0 : Heap) (n0 : Nat) (v : Option Value) (h : Heap) (L : List Loc) : Prop := v = some (.int (φ ((ww * p2) + p3).toInt)) ∧ Fr n0 L ∧ h = h0
set_option maxRecDepth 65536 in
set_option maxHeartbeats 40000000 in
theorem rm4 (l : Launch) (Z : State) (a0 : Array Value) (hw : ∀ d ∈ tables_1, d.before a0 Z = true) (ws : List Jvm.Cond) (a1 fa : Addr) (p2 p3 ww : Int32) (φ : Int → Int32) (h0 : Heap) (n0 : Nat) (Z0 : n0 ≤ h0.size) (F_width : Fld Z h0 a1 "com/example/weftwork/weftwork/Rows" "width" "I" (.int ww)) (F_fields : Fld Z h0 a1 "com/example/weftwork/weftwork/Rows" "fields" "[I" (.ref fa)) (VA : own_Arf Z h0 fa (ww * (16 : Int32)) φ) (i0 : 0 ≤ ((ww * p2) + p3).toInt) (i1 : ((ww * p2) + p3).toInt < (ww * (16 : Int32)).toInt) :
    MetFree l (⟨"com/example/weftwork/weftwork/Rows", "get", "(II)I"⟩ : MethodName) (head1 (Jvm.Cond.code (⟨"com/example/weftwork/weftwork/Rows", "get", "(II)I"⟩ : MethodName) prog_69_method_7_code 3 (some .int) :: ws) ({ frames := 0, cells := 0, slots := 0, locals := 0 } : Room)) (fun a U => a = #[(.ref a1), (.int p2), (.int p3)] ∧ Z.Warmed39 U.vm ∧ U.heap = h0) (fun _ _ _ _ _ => True) (fun _ U o U' => ∃ v L, o = .returned v ∧ Q4 Z a1 fa p2 p3 ww φ h0 n0 v U'.heap L ∧ FrameEnd U o U' L ({ frames := 0, cells := 0, slots := 0, locals := 0 } : Room).cells ({ frames := 0, cells := 0, slots := 0, locals := 0 } : Room).slots) := by
  refine MetFree.of_bodySF (plainFor_of_name pn_10) hisR ?_
  intro p e s m args below meth c s₁ Bd hml0 hP hK
  obtain ⟨rfl, hZ, hh⟩ := hP
  have hx := Bd.exec
  have hby := Bd.bytes
  have hml : c.maxLocals = 3 := hml0
  have hown : s.vm.findClass "com/example/weftwork/weftwork/Rows" = some m.cls := findClass_of_methodNamed Bd.named
  have hnm := (name_of_methodNamed Bd.named Bd.method).1
  have X0 : Stand p l e ({ frames := 0, cells := 0, slots := 0, locals := 0 } : Room) s m #[(.ref a1), (.int p2), (.int p3)] below meth c s₁ [] 0 0 := Stand.of_body Bd
  have e0 : s₁.heap = h0 := by rw [← hh, Bd.state]; rfl
  have N0 := Fr.nil n0
  have pre0 : ∀ t, Steps p.tables e below (s₁.setTop (mkF m 0 #[.val (.ref a1), .val (.int p2), .val (.int p3)] [])) t → Steps p.tables e below (s₁.setTop (entryFrame m #[(.ref a1), (.int p2), (.int p3)] 3)) t := fun t k => castTop (ef_10 m a1 p2 p3) k
  have P1 : ∀ t, Steps p.tables e below (s₁.setTop (mkF m 1 #[.val (.ref a1), .val (.int p2), .val (.int p3)] [(.ref a1)])) t → Steps p.tables e below (s₁.setTop (mkF m 0 #[.val (.ref a1), .val (.int p2), .val (.int p3)] [])) t := fun t k => by
    show Steps p.tables e below (s₁.setTop (mkF m 0 #[.val (.ref a1), .val (.int p2), .val (.int p3)] [])) t
    refine XS.aloadN X0.here hx rfl (hb hby d10_0) rfl rfl ?_
    exact k
  obtain ⟨T2, X2, e2, st2⟩ := getF X0 hx hZ hown (host := "") (Or.inl (hw _ (List.mem_of_getElem? (i := 14) rfl))) Via.refl e0 F_fields (g := (mkF m 1 #[.val (.ref a1), .val (.int p2), .val (.int p3)] [(.ref a1)])) rfl rfl (hb hby d10_1)
  have P3 : ∀ t, Steps p.tables e below (T2.setTop (mkF m 4 #[.val (.ref a1), .val (.int p2), .val (.int p3)] [(.ref fa)])) t → Steps p.tables e below (s₁.setTop (mkF m 0 #[.val (.ref a1), .val (.int p2), .val (.int p3)] [])) t := fun t k => P1 t (st2 _ k)
  have P4 : ∀ t, Steps p.tables e below (T2.setTop (mkF m 5 #[.val (.ref a1), .val (.int p2), .val (.int p3)] [(.ref a1), (.ref fa)])) t → Steps p.tables e below (s₁.setTop (mkF m 0 #[.val (.ref a1), .val (.int p2), .val (.int p3)] [])) t := fun t k => by
    refine P3 t ?_
    show Steps p.tables e below (T2.setTop (mkF m 4 #[.val (.ref a1), .val (.int p2), .val (.int p3)] [(.ref fa)])) t
    refine XS.aloadN X2.here hx rfl (hb hby d10_4) rfl rfl ?_
    exact k
  obtain ⟨T5, X5, e5, st5⟩ := getF X2 hx hZ hown (host := "") (Or.inl (hw _ (List.mem_of_getElem? (i := 11) rfl))) Via.refl e2 F_width (g := (mkF m 5 #[.val (.ref a1), .val (.int p2), .val (.int p3)] [(.ref a1), (.ref fa)])) rfl rfl (hb hby d10_5)
  have P6 : ∀ t, Steps p.tables e below (T5.setTop (mkF m 8 #[.val (.ref a1), .val (.int p2), .val (.int p3)] [(.int ww), (.ref fa)])) t → Steps p.tables e below (s₁.setTop (mkF m 0 #[.val (.ref a1), .val (.int p2), .val (.int p3)] [])) t := fun t k => P4 t (st5 _ k)
  obtain ⟨cl7, A7_, S7_, N7_, H7_⟩ := id VA
  have hin7 := own_in (j := ((ww * p2) + p3)) S7_ N7_ i0 i1
  have P8 : ∀ t, Steps p.tables e below (T5.setTop (mkF m 13 #[.val (.ref a1), .val (.int p2), .val (.int p3)] [(.int (φ ((ww * p2) + p3).toInt))])) t → Steps p.tables e below (s₁.setTop (mkF m 0 #[.val (.ref a1), .val (.int p2), .val (.int p3)] [])) t := fun t k => by
    refine P6 t ?_
    show Steps p.tables e below (T5.setTop (mkF m 8 #[.val (.ref a1), .val (.int p2), .val (.int p3)] [(.int ww), (.ref fa)])) t
    refine XS.iloadN X5.here hx rfl (hb hby d10_8) rfl ?_
    show Steps p.tables e below (T5.setTop (mkF m 9 #[.val (.ref a1), .val (.int p2), .val (.int p3)] [(.int p2), (.int ww), (.ref fa)])) t
    refine XS.imul X5.here hx rfl (hb hby d10_9) rfl ?_
    show Steps p.tables e below (T5.setTop (mkF m 10 #[.val (.ref a1), .val (.int p2), .val (.int p3)] [(.int (ww * p2)), (.ref fa)])) t
    refine XS.iloadN X5.here hx rfl (hb hby d10_10) rfl ?_
    show Steps p.tables e below (T5.setTop (mkF m 11 #[.val (.ref a1), .val (.int p2), .val (.int p3)] [(.int p3), (.int (ww * p2)), (.ref fa)])) t
    refine XS.iadd X5.here hx rfl (hb hby d10_11) rfl ?_
    show Steps p.tables e below (T5.setTop (mkF m 12 #[.val (.ref a1), .val (.int p2), .val (.int p3)] [(.int ((ww * p2) + p3)), (.ref fa)])) t
    refine X5.iaload hx (j := ((ww * p2) + p3)) (v := (.int (φ ((ww * p2) + p3).toInt))) (by rw [e5]; exact A7_.1) (State.isArrayOf_alike hZ.alike A7_.2.1) A7_.2.2 hin7 (own_Arf.at H7_ hin7) (g := (mkF m 12 #[.val (.ref a1), .val (.int p2), .val (.int p3)] [(.int ((ww * p2) + p3)), (.ref fa)])) rfl rfl (hb hby d10_12) _ ?_
    exact k
  obtain ⟨fs, hr, hrun, hended, hW, hsame⟩ := X5.leave (v := some (.int (φ ((ww * p2) + p3).toInt))) (fun h => by rw [Bd.returns] at h; cases h)
  refine ⟨_, _, pre0 _ (P8 _ ?_), hrun, hended, _, _, rfl, ?_, ⟨_, rfl⟩, hW, hsame.mono (by decide) (by decide)⟩
  · exact retI X5 hx Bd.returns (hb hby d10_13) hr
  · show Q4 Z a1 fa p2 p3 ww φ h0 n0 _ T5.heap _
    rw [e5]
    exact ⟨rfl, N0, rfl⟩
theorem pn_8 : plainName "com/example/weftwork/weftwork/Rows" = true := by first | (simp [plainName, overriddenIn]; done) | decide +kernel
theorem ef_8 (m : MethodId) (x0 : Addr) (x1 : Int32) (x2 : Addr) : entryFrame m #[(.ref x0), (.int x1), (.ref x2)] 3 = mkF m 0 #[.val (.ref x0), .val (.int x1), .val (.ref x2)] [] := by first | (simp [entryFrame, mkF, argsToLocals, Value.category]; done) | rfl
theorem d8_0 : decode prog_69_method_10_code 0 = .ok (.aload_n 0, 1) := by decide +kernel
theorem d8_1 : decode prog_69_method_10_code 1 = .ok (.getfield 20, 3) := by decide +kernel
theorem d8_4 : decode prog_69_method_10_code 4 = .ok (.iload_n 1, 1) := by decide +kernel
theorem d8_5 : decode prog_69_method_10_code 5 = .ok (.aload_n 2, 1) := by decide +kernel
theorem d8_6 : decode prog_69_method_10_code 6 = .ok (.aastore, 1) := by decide +kernel
theorem d8_7 : decode prog_69_method_10_code 7 = .ok (.return_, 1) := by decide +kernel
def Q5 (Z : State) (a1 oa a3 : Addr) (p2 : Int32) (ko : ClassId) (ψ : Int → Value) (h0 : Heap) (n0 : Nat) (v : Option Value) (h : Heap) (L : List Loc) : Prop := v = none ∧ Fr n0 L ∧ Keep h0 h [oa] ∧ own_Aro Z h oa ko (own_putV ψ p2.toInt (.ref a3))
set_option maxRecDepth 65536 in
set_option maxHeartbeats 40000000 in
theorem rm5 (l : Launch) (Z : State) (a0 : Array Value) (hw : ∀ d ∈ tables_1, d.before a0 Z = true) (ws : List Jvm.Cond) (a1 oa a3 : Addr) (p2 : Int32) (ko : ClassId) (ψ : Int → Value) (h0 : Heap) (n0 : Nat) (Z0 : n0 ≤ h0.size) (F_objects : Fld Z h0 a1 "com/example/weftwork/weftwork/Rows" "objects" "[Ljava/lang/Object;" (.ref oa)) (VO : own_Aro Z h0 oa ko ψ) (o0 : 0 ≤ p2.toInt) (o15 : p2.toInt ≤ 15) (OV : Ovr Z ko "java/lang/Object") (E3 : Exa Z h0 a3 "java/lang/Integer") (ne_a1_oa : a1 ≠ oa) (g_oa : n0 ≤ oa) :
    MetFree l (⟨"com/example/weftwork/weftwork/Rows", "setObject", "(ILjava/lang/Object;)V"⟩ : MethodName) (head1 (Jvm.Cond.code (⟨"com/example/weftwork/weftwork/Rows", "setObject", "(ILjava/lang/Object;)V"⟩ : MethodName) prog_69_method_10_code 3 none :: ws) ({ frames := 0, cells := 0, slots := 0, locals := 0 } : Room)) (fun a U => a = #[(.ref a1), (.int p2), (.ref a3)] ∧ Z.Warmed39 U.vm ∧ U.heap = h0) (fun _ _ _ _ _ => True) (fun _ U o U' => ∃ v L, o = .returned v ∧ Q5 Z a1 oa a3 p2 ko ψ h0 n0 v U'.heap L ∧ FrameEnd U o U' L ({ frames := 0, cells := 0, slots := 0, locals := 0 } : Room).cells ({ frames := 0, cells := 0, slots := 0, locals := 0 } : Room).slots) := by
  refine MetFree.of_bodySF (plainFor_of_name pn_8) hisR ?_
  intro p e s m args below meth c s₁ Bd hml0 hP hK
  obtain ⟨rfl, hZ, hh⟩ := hP
  have hx := Bd.exec
  have hby := Bd.bytes
  have hml : c.maxLocals = 3 := hml0
  have hown : s.vm.findClass "com/example/weftwork/weftwork/Rows" = some m.cls := findClass_of_methodNamed Bd.named
  have hnm := (name_of_methodNamed Bd.named Bd.method).1
  have X0 : Stand p l e ({ frames := 0, cells := 0, slots := 0, locals := 0 } : Room) s m #[(.ref a1), (.int p2), (.ref a3)] below meth c s₁ [] 0 0 := Stand.of_body Bd
  have e0 : s₁.heap = h0 := by rw [← hh, Bd.state]; rfl
  have N0 := Fr.nil n0
  have pre0 : ∀ t, Steps p.tables e below (s₁.setTop (mkF m 0 #[.val (.ref a1), .val (.int p2), .val (.ref a3)] [])) t → Steps p.tables e below (s₁.setTop (entryFrame m #[(.ref a1), (.int p2), (.ref a3)] 3)) t := fun t k => castTop (ef_8 m a1 p2 a3) k
  have KR_0 := Keep.refl h0 [oa]
  have P1 : ∀ t, Steps p.tables e below (s₁.setTop (mkF m 1 #[.val (.ref a1), .val (.int p2), .val (.ref a3)] [(.ref a1)])) t → Steps p.tables e below (s₁.setTop (mkF m 0 #[.val (.ref a1), .val (.int p2), .val (.ref a3)] [])) t := fun t k => by
    show Steps p.tables e below (s₁.setTop (mkF m 0 #[.val (.ref a1), .val (.int p2), .val (.ref a3)] [])) t
    refine XS.aloadN X0.here hx rfl (hb hby d8_0) rfl rfl ?_
    exact k
  obtain ⟨T2, X2, e2, st2⟩ := getF X0 hx hZ hown (host := "") (Or.inl (hw _ (List.mem_of_getElem? (i := 18) rfl))) Via.refl e0 F_objects (g := (mkF m 1 #[.val (.ref a1), .val (.int p2), .val (.ref a3)] [(.ref a1)])) rfl rfl (hb hby d8_1)
  have P3 : ∀ t, Steps p.tables e below (T2.setTop (mkF m 4 #[.val (.ref a1), .val (.int p2), .val (.ref a3)] [(.ref oa)])) t → Steps p.tables e below (s₁.setTop (mkF m 0 #[.val (.ref a1), .val (.int p2), .val (.ref a3)] [])) t := fun t k => P1 t (st2 _ k)
  have P4 : ∀ t, Steps p.tables e below (T2.setTop (mkF m 6 #[.val (.ref a1), .val (.int p2), .val (.ref a3)] [(.ref a3), (.int p2), (.ref oa)])) t → Steps p.tables e below (s₁.setTop (mkF m 0 #[.val (.ref a1), .val (.int p2), .val (.ref a3)] [])) t := fun t k => by
    refine P3 t ?_
    show Steps p.tables e below (T2.setTop (mkF m 4 #[.val (.ref a1), .val (.int p2), .val (.ref a3)] [(.ref oa)])) t
    refine XS.iloadN X2.here hx rfl (hb hby d8_4) rfl ?_
    show Steps p.tables e below (T2.setTop (mkF m 5 #[.val (.ref a1), .val (.int p2), .val (.ref a3)] [(.int p2), (.ref oa)])) t
    refine XS.aloadN X2.here hx rfl (hb hby d8_5) rfl rfl ?_
    exact k
  obtain ⟨cl5, A5_, q5_, S5_, H5_⟩ := id VO
  have hin5 := own_in16 (j := p2) S5_ o0 (by omega)
  obtain ⟨T5, h5, X5, e5, W5, st5⟩ := stR X2 hx hZ e2 A5_ (j := p2) hin5 rfl (Sto.ofV A5_ q5_ OV (Ins.of_exa E3 (hw _ (List.mem_of_getElem? (i := 52) rfl)))) (g := (mkF m 6 #[.val (.ref a1), .val (.int p2), .val (.ref a3)] [(.ref a3), (.int p2), (.ref oa)])) rfl rfl (hb hby d8_6)
  have KR_5 := KR_0.wr W5 (Or.inl (List.mem_of_getElem? (i := 0) rfl))
  have F_objects_5 := F_objects.other W5 (Or.inl ne_a1_oa)
  have Z_6 : n0 ≤ h5.size := Nat.le_trans Z0 (Keep.of_wr W5).1
  have N5 := Fr.snoc X5 N0 g_oa
  have VO_5 := own_Aro.set A5_ q5_ S5_ H5_ W5 hin5
  have P7 : ∀ t, Steps p.tables e below (T5.setTop (mkF m 7 #[.val (.ref a1), .val (.int p2), .val (.ref a3)] [])) t → Steps p.tables e below (s₁.setTop (mkF m 0 #[.val (.ref a1), .val (.int p2), .val (.ref a3)] [])) t := fun t k => P4 t (st5 _ k)
  obtain ⟨fs, hr, hrun, hended, hW, hsame⟩ := X5.leave (v := none) (fun _ => rfl)
  refine ⟨_, _, pre0 _ (P7 _ ?_), hrun, hended, _, _, rfl, ?_, ⟨_, rfl⟩, hW, hsame.mono (by decide) (by decide)⟩
  · exact X5.returnOut hx Bd.returns (hb hby d8_7) hr
  · show Q5 Z a1 oa a3 p2 ko ψ h0 n0 _ T5.heap _
    rw [e5]
    exact ⟨rfl, N5, KR_5, VO_5⟩
theorem pn_11 : plainName "com/example/weftwork/weftwork/Rows" = true := by first | (simp [plainName, overriddenIn]; done) | decide +kernel
theorem ef_11 (m : MethodId) (x0 : Addr) (x1 : Int32) : entryFrame m #[(.ref x0), (.int x1)] 2 = mkF m 0 #[.val (.ref x0), .val (.int x1)] [] := by first | (simp [entryFrame, mkF, argsToLocals, Value.category]; done) | rfl
theorem d11_0 : decode prog_69_method_9_code 0 = .ok (.aload_n 0, 1) := by decide +kernel
theorem d11_1 : decode prog_69_method_9_code 1 = .ok (.getfield 20, 3) := by decide +kernel
theorem d11_4 : decode prog_69_method_9_code 4 = .ok (.iload_n 1, 1) := by decide +kernel
theorem d11_5 : decode prog_69_method_9_code 5 = .ok (.aaload, 1) := by decide +kernel
theorem d11_6 : decode prog_69_method_9_code 6 = .ok (.areturn, 1) := by decide +kernel
def Q6 (Z : State) (a1 oa : Addr) (p2 : Int32) (ko : ClassId) (ψ : Int → Value) (h0 : Heap) (n0 : Nat) (v : Option Value) (h : Heap) (L : List Loc) : Prop := v = some .null ∧ Fr n0 L ∧ h = h0
set_option maxRecDepth 65536 in
set_option maxHeartbeats 40000000 in
theorem rm6 (l : Launch) (Z : State) (a0 : Array Value) (hw : ∀ d ∈ tables_1, d.before a0 Z = true) (ws : List Jvm.Cond) (a1 oa : Addr) (p2 : Int32) (ko : ClassId) (ψ : Int → Value) (h0 : Heap) (n0 : Nat) (Z0 : n0 ≤ h0.size) (F_objects : Fld Z h0 a1 "com/example/weftwork/weftwork/Rows" "objects" "[Ljava/lang/Object;" (.ref oa)) (VO : own_Aro Z h0 oa ko ψ) (o0 : 0 ≤ p2.toInt) (o15 : p2.toInt ≤ 15) (hnull : ψ p2.toInt = .null) :
    MetFree l (⟨"com/example/weftwork/weftwork/Rows", "object", "(I)Ljava/lang/Object;"⟩ : MethodName) (head1 (Jvm.Cond.code (⟨"com/example/weftwork/weftwork/Rows", "object", "(I)Ljava/lang/Object;"⟩ : MethodName) prog_69_method_9_code 2 (some (.object "java/lang/Object")) :: ws) ({ frames := 0, cells := 0, slots := 0, locals := 0 } : Room)) (fun a U => a = #[(.ref a1), (.int p2)] ∧ Z.Warmed39 U.vm ∧ U.heap = h0) (fun _ _ _ _ _ => True) (fun _ U o U' => ∃ v L, o = .returned v ∧ Q6 Z a1 oa p2 ko ψ h0 n0 v U'.heap L ∧ FrameEnd U o U' L ({ frames := 0, cells := 0, slots := 0, locals := 0 } : Room).cells ({ frames := 0, cells := 0, slots := 0, locals := 0 } : Room).slots) := by
  refine MetFree.of_bodySF (plainFor_of_name pn_11) hisR ?_
  intro p e s m args below meth c s₁ Bd hml0 hP hK
  obtain ⟨rfl, hZ, hh⟩ := hP
  have hx := Bd.exec
  have hby := Bd.bytes
  have hml : c.maxLocals = 2 := hml0
  have hown : s.vm.findClass "com/example/weftwork/weftwork/Rows" = some m.cls := findClass_of_methodNamed Bd.named
  have hnm := (name_of_methodNamed Bd.named Bd.method).1
  have X0 : Stand p l e ({ frames := 0, cells := 0, slots := 0, locals := 0 } : Room) s m #[(.ref a1), (.int p2)] below meth c s₁ [] 0 0 := Stand.of_body Bd
  have e0 : s₁.heap = h0 := by rw [← hh, Bd.state]; rfl
  have N0 := Fr.nil n0
  have pre0 : ∀ t, Steps p.tables e below (s₁.setTop (mkF m 0 #[.val (.ref a1), .val (.int p2)] [])) t → Steps p.tables e below (s₁.setTop (entryFrame m #[(.ref a1), (.int p2)] 2)) t := fun t k => castTop (ef_11 m a1 p2) k
  have P1 : ∀ t, Steps p.tables e below (s₁.setTop (mkF m 1 #[.val (.ref a1), .val (.int p2)] [(.ref a1)])) t → Steps p.tables e below (s₁.setTop (mkF m 0 #[.val (.ref a1), .val (.int p2)] [])) t := fun t k => by
    show Steps p.tables e below (s₁.setTop (mkF m 0 #[.val (.ref a1), .val (.int p2)] [])) t
    refine XS.aloadN X0.here hx rfl (hb hby d11_0) rfl rfl ?_
    exact k
  obtain ⟨T2, X2, e2, st2⟩ := getF X0 hx hZ hown (host := "") (Or.inl (hw _ (List.mem_of_getElem? (i := 18) rfl))) Via.refl e0 F_objects (g := (mkF m 1 #[.val (.ref a1), .val (.int p2)] [(.ref a1)])) rfl rfl (hb hby d11_1)
  have P3 : ∀ t, Steps p.tables e below (T2.setTop (mkF m 4 #[.val (.ref a1), .val (.int p2)] [(.ref oa)])) t → Steps p.tables e below (s₁.setTop (mkF m 0 #[.val (.ref a1), .val (.int p2)] [])) t := fun t k => P1 t (st2 _ k)
  obtain ⟨cl4, A4_, q4_, S4_, H4_⟩ := id VO
  have hin4 := own_in16 (j := p2) S4_ o0 (by omega)
  have P5 : ∀ t, Steps p.tables e below (T2.setTop (mkF m 6 #[.val (.ref a1), .val (.int p2)] [.null])) t → Steps p.tables e below (s₁.setTop (mkF m 0 #[.val (.ref a1), .val (.int p2)] [])) t := fun t k => by
    refine P3 t ?_
    show Steps p.tables e below (T2.setTop (mkF m 4 #[.val (.ref a1), .val (.int p2)] [(.ref oa)])) t
    refine XS.iloadN X2.here hx rfl (hb hby d11_4) rfl ?_
    show Steps p.tables e below (T2.setTop (mkF m 5 #[.val (.ref a1), .val (.int p2)] [(.int p2), (.ref oa)])) t
    refine X2.aaload hx (j := p2) (v := .null) (by rw [e2]; exact A4_.1) (State.isArrayOf_alike hZ.alike A4_.2.1) rfl A4_.2.2 hin4 (own_Aro.at S4_ H4_ hin4 hnull) (g := (mkF m 5 #[.val (.ref a1), .val (.int p2)] [(.int p2), (.ref oa)])) rfl rfl (hb hby d11_5) _ ?_
    exact k
  obtain ⟨fs, hr, hrun, hended, hW, hsame⟩ := X2.leave (v := some .null) (fun h => by rw [Bd.returns] at h; cases h)
  refine ⟨_, _, pre0 _ (P5 _ ?_), hrun, hended, _, _, rfl, ?_, ⟨_, rfl⟩, hW, hsame.mono (by decide) (by decide)⟩
  · jvm_step X2.here [X2.here.top, hx, (hb hby d11_6), X2.method', Bd.returns, Value.isRef, FieldType.isReference]
    first | (intro acts; rw [hr _ acts rfl rfl rfl]) | rw [hr _ _ rfl rfl rfl]
    exact Steps.refl _
  · show Q6 Z a1 oa p2 ko ψ h0 n0 _ T2.heap _
    rw [e2]
    exact ⟨rfl, N0, rfl⟩
theorem pn_9 : plainName "com/example/weftwork/weftwork/Rows" = true := by first | (simp [plainName, overriddenIn]; done) | decide +kernel
theorem ef_9 (m : MethodId) (x0 : Addr) (x1 : Int32) : entryFrame m #[(.ref x0), (.int x1)] 2 = mkF m 0 #[.val (.ref x0), .val (.int x1)] [] := by first | (simp [entryFrame, mkF, argsToLocals, Value.category]; done) | rfl
theorem d9_0 : decode prog_69_method_4_code 0 = .ok (.aload_n 0, 1) := by decide +kernel
theorem d9_1 : decode prog_69_method_4_code 1 = .ok (.getfield 16, 3) := by decide +kernel
theorem d9_4 : decode prog_69_method_4_code 4 = .ok (.aload_n 0, 1) := by decide +kernel
theorem d9_5 : decode prog_69_method_4_code 5 = .ok (.getfield 13, 3) := by decide +kernel
theorem d9_8 : decode prog_69_method_4_code 8 = .ok (.iload_n 1, 1) := by decide +kernel
theorem d9_9 : decode prog_69_method_4_code 9 = .ok (.imul, 1) := by decide +kernel
theorem d9_10 : decode prog_69_method_4_code 10 = .ok (.aload_n 0, 1) := by decide +kernel
theorem d9_11 : decode prog_69_method_4_code 11 = .ok (.getfield 9, 3) := by decide +kernel
theorem d9_14 : decode prog_69_method_4_code 14 = .ok (.iastore, 1) := by decide +kernel
theorem d9_15 : decode prog_69_method_4_code 15 = .ok (.aload_n 0, 1) := by decide +kernel
theorem d9_16 : decode prog_69_method_4_code 16 = .ok (.getfield 20, 3) := by decide +kernel
theorem d9_19 : decode prog_69_method_4_code 19 = .ok (.ifnull 10, 3) := by decide +kernel
theorem d9_22 : decode prog_69_method_4_code 22 = .ok (.aload_n 0, 1) := by decide +kernel
theorem d9_23 : decode prog_69_method_4_code 23 = .ok (.getfield 20, 3) := by decide +kernel
theorem d9_26 : decode prog_69_method_4_code 26 = .ok (.iload_n 1, 1) := by decide +kernel
theorem d9_27 : decode prog_69_method_4_code 27 = .ok (.aconst_null, 1) := by decide +kernel
theorem d9_28 : decode prog_69_method_4_code 28 = .ok (.aastore, 1) := by decide +kernel
theorem d9_29 : decode prog_69_method_4_code 29 = .ok (.aload_n 0, 1) := by decide +kernel
theorem d9_30 : decode prog_69_method_4_code 30 = .ok (.iload_n 1, 1) := by decide +kernel
theorem d9_31 : decode prog_69_method_4_code 31 = .ok (.putfield 9, 3) := by decide +kernel
theorem d9_34 : decode prog_69_method_4_code 34 = .ok (.return_, 1) := by decide +kernel
def Q7o (Z : State) (a1 fa oa : Addr) (p2 ww md fr : Int32) (φ : Int → Int32) (ko : ClassId) (ψ : Int → Value) (h0 : Heap) (n0 : Nat) (v : Option Value) (h : Heap) (L : List Loc) : Prop := v = none ∧ Fr n0 L ∧ Keep h0 h [a1, fa, oa] ∧ Exa Z h a1 "com/example/weftwork/weftwork/Rows" ∧ Fld Z h a1 "com/example/weftwork/weftwork/Rows" "free" "I" (.int p2) ∧ Fld Z h a1 "com/example/weftwork/weftwork/Rows" "width" "I" (.int ww) ∧ Fld Z h a1 "com/example/weftwork/weftwork/Rows" "fields" "[I" (.ref fa) ∧ Fld Z h a1 "com/example/weftwork/weftwork/Rows" "objects" "[Ljava/lang/Object;" (.ref oa) ∧ Fld Z h a1 "com/example/weftwork/weftwork/Rows" "made" "I" (.int md) ∧ own_Arf Z h fa (ww * (16 : Int32)) (own_put φ (ww * p2).toInt fr) ∧ own_Aro Z h oa ko (own_putV ψ p2.toInt .null)
set_option maxRecDepth 65536 in
set_option maxHeartbeats 40000000 in
theorem rm7o (l : Launch) (Z : State) (a0 : Array Value) (hw : ∀ d ∈ tables_1, d.before a0 Z = true) (ws : List Jvm.Cond) (a1 fa oa : Addr) (p2 ww md fr : Int32) (φ : Int → Int32) (ko : ClassId) (ψ : Int → Value) (h0 : Heap) (n0 : Nat) (Z0 : n0 ≤ h0.size) (E : Exa Z h0 a1 "com/example/weftwork/weftwork/Rows") (F_free : Fld Z h0 a1 "com/example/weftwork/weftwork/Rows" "free" "I" (.int fr)) (F_width : Fld Z h0 a1 "com/example/weftwork/weftwork/Rows" "width" "I" (.int ww)) (F_fields : Fld Z h0 a1 "com/example/weftwork/weftwork/Rows" "fields" "[I" (.ref fa)) (F_objects : Fld Z h0 a1 "com/example/weftwork/weftwork/Rows" "objects" "[Ljava/lang/Object;" (.ref oa)) (F_made : Fld Z h0 a1 "com/example/weftwork/weftwork/Rows" "made" "I" (.int md)) (VA : own_Arf Z h0 fa (ww * (16 : Int32)) φ) (ne_a1_fa : a1 ≠ fa) (g_a1 : n0 ≤ a1) (g_fa : n0 ≤ fa) (w1 : 1 ≤ ww.toInt) (w4 : ww.toInt ≤ 4) (o0 : 0 ≤ p2.toInt) (o15 : p2.toInt ≤ 15) (VO : own_Aro Z h0 oa ko ψ) (ne_a1_oa : a1 ≠ oa) (ne_fa_oa : fa ≠ oa) (g_oa : n0 ≤ oa) :
    MetFree l (⟨"com/example/weftwork/weftwork/Rows", "free", "(I)V"⟩ : MethodName) (head1 (Jvm.Cond.code (⟨"com/example/weftwork/weftwork/Rows", "free", "(I)V"⟩ : MethodName) prog_69_method_4_code 2 none :: ws) ({ frames := 0, cells := 0, slots := 0, locals := 0 } : Room)) (fun a U => a = #[(.ref a1), (.int p2)] ∧ Z.Warmed39 U.vm ∧ U.heap = h0) (fun _ _ _ _ _ => True) (fun _ U o U' => ∃ v L, o = .returned v ∧ Q7o Z a1 fa oa p2 ww md fr φ ko ψ h0 n0 v U'.heap L ∧ FrameEnd U o U' L ({ frames := 0, cells := 0, slots := 0, locals := 0 } : Room).cells ({ frames := 0, cells := 0, slots := 0, locals := 0 } : Room).slots) := by
  refine MetFree.of_bodySF (plainFor_of_name pn_9) hisR ?_
  intro p e s m args below meth c s₁ Bd hml0 hP hK
  obtain ⟨rfl, hZ, hh⟩ := hP
  have hx := Bd.exec
  have hby := Bd.bytes
  have hml : c.maxLocals = 2 := hml0
  have hown : s.vm.findClass "com/example/weftwork/weftwork/Rows" = some m.cls := findClass_of_methodNamed Bd.named
  have hnm := (name_of_methodNamed Bd.named Bd.method).1
  have X0 : Stand p l e ({ frames := 0, cells := 0, slots := 0, locals := 0 } : Room) s m #[(.ref a1), (.int p2)] below meth c s₁ [] 0 0 := Stand.of_body Bd
  have e0 : s₁.heap = h0 := by rw [← hh, Bd.state]; rfl
  have N0 := Fr.nil n0
  have pre0 : ∀ t, Steps p.tables e below (s₁.setTop (mkF m 0 #[.val (.ref a1), .val (.int p2)] [])) t → Steps p.tables e below (s₁.setTop (entryFrame m #[(.ref a1), (.int p2)] 2)) t := fun t k => castTop (ef_9 m a1 p2) k
  have KR_0 := Keep.refl h0 [a1, fa, oa]
  have P1 : ∀ t, Steps p.tables e below (s₁.setTop (mkF m 1 #[.val (.ref a1), .val (.int p2)] [(.ref a1)])) t → Steps p.tables e below (s₁.setTop (mkF m 0 #[.val (.ref a1), .val (.int p2)] [])) t := fun t k => by
    show Steps p.tables e below (s₁.setTop (mkF m 0 #[.val (.ref a1), .val (.int p2)] [])) t
    refine XS.aloadN X0.here hx rfl (hb hby d9_0) rfl rfl ?_
    exact k
  obtain ⟨T2, X2, e2, st2⟩ := getF X0 hx hZ hown (host := "") (Or.inl (hw _ (List.mem_of_getElem? (i := 14) rfl))) Via.refl e0 F_fields (g := (mkF m 1 #[.val (.ref a1), .val (.int p2)] [(.ref a1)])) rfl rfl (hb hby d9_1)
  have P3 : ∀ t, Steps p.tables e below (T2.setTop (mkF m 4 #[.val (.ref a1), .val (.int p2)] [(.ref fa)])) t → Steps p.tables e below (s₁.setTop (mkF m 0 #[.val (.ref a1), .val (.int p2)] [])) t := fun t k => P1 t (st2 _ k)
  have P4 : ∀ t, Steps p.tables e below (T2.setTop (mkF m 5 #[.val (.ref a1), .val (.int p2)] [(.ref a1), (.ref fa)])) t → Steps p.tables e below (s₁.setTop (mkF m 0 #[.val (.ref a1), .val (.int p2)] [])) t := fun t k => by
    refine P3 t ?_
    show Steps p.tables e below (T2.setTop (mkF m 4 #[.val (.ref a1), .val (.int p2)] [(.ref fa)])) t
    refine XS.aloadN X2.here hx rfl (hb hby d9_4) rfl rfl ?_
    exact k
  obtain ⟨T5, X5, e5, st5⟩ := getF X2 hx hZ hown (host := "") (Or.inl (hw _ (List.mem_of_getElem? (i := 11) rfl))) Via.refl e2 F_width (g := (mkF m 5 #[.val (.ref a1), .val (.int p2)] [(.ref a1), (.ref fa)])) rfl rfl (hb hby d9_5)
  have P6 : ∀ t, Steps p.tables e below (T5.setTop (mkF m 8 #[.val (.ref a1), .val (.int p2)] [(.int ww), (.ref fa)])) t → Steps p.tables e below (s₁.setTop (mkF m 0 #[.val (.ref a1), .val (.int p2)] [])) t := fun t k => P4 t (st5 _ k)
  have P7 : ∀ t, Steps p.tables e below (T5.setTop (mkF m 11 #[.val (.ref a1), .val (.int p2)] [(.ref a1), (.int (ww * p2)), (.ref fa)])) t → Steps p.tables e below (s₁.setTop (mkF m 0 #[.val (.ref a1), .val (.int p2)] [])) t := fun t k => by
    refine P6 t ?_
    show Steps p.tables e below (T5.setTop (mkF m 8 #[.val (.ref a1), .val (.int p2)] [(.int ww), (.ref fa)])) t
    refine XS.iloadN X5.here hx rfl (hb hby d9_8) rfl ?_
    show Steps p.tables e below (T5.setTop (mkF m 9 #[.val (.ref a1), .val (.int p2)] [(.int p2), (.int ww), (.ref fa)])) t
    refine XS.imul X5.here hx rfl (hb hby d9_9) rfl ?_
    show Steps p.tables e below (T5.setTop (mkF m 10 #[.val (.ref a1), .val (.int p2)] [(.int (ww * p2)), (.ref fa)])) t
    refine XS.aloadN X5.here hx rfl (hb hby d9_10) rfl rfl ?_
    exact k
  obtain ⟨T8, X8, e8, st8⟩ := getF X5 hx hZ hown (host := "") (Or.inl (hw _ (List.mem_of_getElem? (i := 9) rfl))) Via.refl e5 F_free (g := (mkF m 11 #[.val (.ref a1), .val (.int p2)] [(.ref a1), (.int (ww * p2)), (.ref fa)])) rfl rfl (hb hby d9_11)
  have P9 : ∀ t, Steps p.tables e below (T8.setTop (mkF m 14 #[.val (.ref a1), .val (.int p2)] [(.int fr), (.int (ww * p2)), (.ref fa)])) t → Steps p.tables e below (s₁.setTop (mkF m 0 #[.val (.ref a1), .val (.int p2)] [])) t := fun t k => P7 t (st8 _ k)
  obtain ⟨cl10, A10_, S10_, N10_, H10_⟩ := id VA
  have hin10 := own_in (j := (ww * p2)) S10_ N10_ (by rw [own_wr w1 w4 o0 (by omega)]; exact (own_prod w1 w4 o0 (by omega)).1) (by rw [own_wr w1 w4 o0 (by omega), own_n16 w1 w4]; exact own_row w1 o15)
  obtain ⟨T10, h10, X10, e10, W10, st10⟩ := stI X8 hx hZ e8 A10_ (j := (ww * p2)) hin10 (g := (mkF m 14 #[.val (.ref a1), .val (.int p2)] [(.int fr), (.int (ww * p2)), (.ref fa)])) rfl rfl (hb hby d9_14)
  have E_10 := E.wr W10
  have KR_10 := KR_0.wr W10 (Or.inl (List.mem_of_getElem? (i := 1) rfl))
  have F_free_10 := F_free.other W10 (Or.inl ne_a1_fa)
  have F_width_10 := F_width.other W10 (Or.inl ne_a1_fa)
  have F_fields_10 := F_fields.other W10 (Or.inl ne_a1_fa)
  have F_made_10 := F_made.other W10 (Or.inl ne_a1_fa)
  have F_objects_10 := F_objects.other W10 (Or.inl ne_a1_fa)
  have VO_10 := VO.other W10 (Ne.symm ne_fa_oa)
  have Z_11 : n0 ≤ h10.size := Nat.le_trans Z0 (Keep.of_wr W10).1
  have N10 := Fr.snoc X10 N0 g_fa
  have VA_10 := own_Arf.set A10_ S10_ N10_ H10_ W10 hin10
  have P12 : ∀ t, Steps p.tables e below (T10.setTop (mkF m 15 #[.val (.ref a1), .val (.int p2)] [])) t → Steps p.tables e below (s₁.setTop (mkF m 0 #[.val (.ref a1), .val (.int p2)] [])) t := fun t k => P9 t (st10 _ k)
  have P13 : ∀ t, Steps p.tables e below (T10.setTop (mkF m 16 #[.val (.ref a1), .val (.int p2)] [(.ref a1)])) t → Steps p.tables e below (s₁.setTop (mkF m 0 #[.val (.ref a1), .val (.int p2)] [])) t := fun t k => by
    refine P12 t ?_
    show Steps p.tables e below (T10.setTop (mkF m 15 #[.val (.ref a1), .val (.int p2)] [])) t
    refine XS.aloadN X10.here hx rfl (hb hby d9_15) rfl rfl ?_
    exact k
  obtain ⟨T14, X14, e14, st14⟩ := getF X10 hx hZ hown (host := "") (Or.inl (hw _ (List.mem_of_getElem? (i := 18) rfl))) Via.refl e10 F_objects_10 (g := (mkF m 16 #[.val (.ref a1), .val (.int p2)] [(.ref a1)])) rfl rfl (hb hby d9_16)
  have P15 : ∀ t, Steps p.tables e below (T14.setTop (mkF m 19 #[.val (.ref a1), .val (.int p2)] [(.ref oa)])) t → Steps p.tables e below (s₁.setTop (mkF m 0 #[.val (.ref a1), .val (.int p2)] [])) t := fun t k => P13 t (st14 _ k)
  have P16 : ∀ t, Steps p.tables e below (T14.setTop (mkF m 23 #[.val (.ref a1), .val (.int p2)] [(.ref a1)])) t → Steps p.tables e below (s₁.setTop (mkF m 0 #[.val (.ref a1), .val (.int p2)] [])) t := fun t k => by
    refine P15 t ?_
    show Steps p.tables e below (T14.setTop (mkF m 19 #[.val (.ref a1), .val (.int p2)] [(.ref oa)])) t
    refine XS.ifnullNo X14.here hx rfl (hb hby d9_19) rfl ?_
    show Steps p.tables e below (T14.setTop (mkF m 22 #[.val (.ref a1), .val (.int p2)] [])) t
    refine XS.aloadN X14.here hx rfl (hb hby d9_22) rfl rfl ?_
    exact k
  obtain ⟨T17, X17, e17, st17⟩ := getF X14 hx hZ hown (host := "") (Or.inl (hw _ (List.mem_of_getElem? (i := 18) rfl))) Via.refl e14 F_objects_10 (g := (mkF m 23 #[.val (.ref a1), .val (.int p2)] [(.ref a1)])) rfl rfl (hb hby d9_23)
  have P18 : ∀ t, Steps p.tables e below (T17.setTop (mkF m 26 #[.val (.ref a1), .val (.int p2)] [(.ref oa)])) t → Steps p.tables e below (s₁.setTop (mkF m 0 #[.val (.ref a1), .val (.int p2)] [])) t := fun t k => P16 t (st17 _ k)
  have P19 : ∀ t, Steps p.tables e below (T17.setTop (mkF m 28 #[.val (.ref a1), .val (.int p2)] [.null, (.int p2), (.ref oa)])) t → Steps p.tables e below (s₁.setTop (mkF m 0 #[.val (.ref a1), .val (.int p2)] [])) t := fun t k => by
    refine P18 t ?_
    show Steps p.tables e below (T17.setTop (mkF m 26 #[.val (.ref a1), .val (.int p2)] [(.ref oa)])) t
    refine XS.iloadN X17.here hx rfl (hb hby d9_26) rfl ?_
    show Steps p.tables e below (T17.setTop (mkF m 27 #[.val (.ref a1), .val (.int p2)] [(.int p2), (.ref oa)])) t
    refine XS.aconstNull X17.here hx rfl (hb hby d9_27) ?_
    exact k
  obtain ⟨cl20, A20_, q20_, S20_, H20_⟩ := id VO_10
  have hin20 := own_in16 (j := p2) S20_ o0 (by omega)
  obtain ⟨T20, h20, X20, e20, W20, st20⟩ := stR X17 hx hZ e17 A20_ (j := p2) hin20 rfl (Or.inl rfl) (g := (mkF m 28 #[.val (.ref a1), .val (.int p2)] [.null, (.int p2), (.ref oa)])) rfl rfl (hb hby d9_28)
  have E_20 := E_10.wr W20
  have KR_20 := KR_10.wr W20 (Or.inl (List.mem_of_getElem? (i := 2) rfl))
  have F_free_20 := F_free_10.other W20 (Or.inl ne_a1_oa)
  have F_width_20 := F_width_10.other W20 (Or.inl ne_a1_oa)
  have F_fields_20 := F_fields_10.other W20 (Or.inl ne_a1_oa)
  have F_made_20 := F_made_10.other W20 (Or.inl ne_a1_oa)
  have F_objects_20 := F_objects_10.other W20 (Or.inl ne_a1_oa)
  have VA_20 := VA_10.other W20 ne_fa_oa
  have Z_21 : n0 ≤ h20.size := Nat.le_trans Z_11 (Keep.of_wr W20).1
  have N20 := Fr.snoc X20 N10 g_oa
  have VO_20 := own_Aro.set A20_ q20_ S20_ H20_ W20 hin20
  have P22 : ∀ t, Steps p.tables e below (T20.setTop (mkF m 29 #[.val (.ref a1), .val (.int p2)] [])) t → Steps p.tables e below (s₁.setTop (mkF m 0 #[.val (.ref a1), .val (.int p2)] [])) t := fun t k => P19 t (st20 _ k)
  have P23 : ∀ t, Steps p.tables e below (T20.setTop (mkF m 31 #[.val (.ref a1), .val (.int p2)] [(.int p2), (.ref a1)])) t → Steps p.tables e below (s₁.setTop (mkF m 0 #[.val (.ref a1), .val (.int p2)] [])) t := fun t k => by
    refine P22 t ?_
    show Steps p.tables e below (T20.setTop (mkF m 29 #[.val (.ref a1), .val (.int p2)] [])) t
    refine XS.aloadN X20.here hx rfl (hb hby d9_29) rfl rfl ?_
    show Steps p.tables e below (T20.setTop (mkF m 30 #[.val (.ref a1), .val (.int p2)] [(.ref a1)])) t
    refine XS.iloadN X20.here hx rfl (hb hby d9_30) rfl ?_
    exact k
  obtain ⟨T24, h24, X24, e24, W24, st24⟩ := putF X20 hx hZ hown (host := "") (Or.inl (hw _ (List.mem_of_getElem? (i := 9) rfl))) Via.refl e20 F_free_20 E_20 (Or.inl (hw _ (List.mem_of_getElem? (i := 10) rfl))) (hw _ (List.mem_of_getElem? (i := 1) rfl)) (ty := .int) (by decide) rfl rfl (g := (mkF m 31 #[.val (.ref a1), .val (.int p2)] [(.int p2), (.ref a1)])) rfl rfl (hb hby d9_31)
  have E_24 := E_20.wr W24
  have KR_24 := KR_20.wr W24 (Or.inl (List.mem_of_getElem? (i := 0) rfl))
  have F_free_24 := F_free_20.same W24
  have F_width_24 := F_width_20.other W24 (Or.inr (slot_ne (Or.inr (hw _ (List.mem_of_getElem? (i := 12) rfl))) (Or.inl (hw _ (List.mem_of_getElem? (i := 10) rfl))) (by decide) (t := .int) (t' := .int) (by decide) (by decide)))
  have F_fields_24 := F_fields_20.other W24 (Or.inr (slot_ne (Or.inl (hw _ (List.mem_of_getElem? (i := 15) rfl))) (Or.inl (hw _ (List.mem_of_getElem? (i := 10) rfl))) (by decide) (t := (.array .int)) (t' := .int) (by decide) (by decide)))
  have F_made_24 := F_made_20.other W24 (Or.inr (slot_ne (Or.inl (hw _ (List.mem_of_getElem? (i := 26) rfl))) (Or.inl (hw _ (List.mem_of_getElem? (i := 10) rfl))) (by decide) (t := .int) (t' := .int) (by decide) (by decide)))
  have F_objects_24 := F_objects_20.other W24 (Or.inr (slot_ne (Or.inl (hw _ (List.mem_of_getElem? (i := 19) rfl))) (Or.inl (hw _ (List.mem_of_getElem? (i := 10) rfl))) (by decide) (t := (.array (.object "java/lang/Object"))) (t' := .int) (by decide) (by decide)))
  have VA_24 := VA_20.other W24 (Ne.symm ne_a1_fa)
  have VO_24 := VO_20.other W24 (Ne.symm ne_a1_oa)
  have Z_25 : n0 ≤ h24.size := Nat.le_trans Z_21 (Keep.of_wr W24).1
  have N24 := Fr.snoc X24 N20 g_a1
  have P26 : ∀ t, Steps p.tables e below (T24.setTop (mkF m 34 #[.val (.ref a1), .val (.int p2)] [])) t → Steps p.tables e below (s₁.setTop (mkF m 0 #[.val (.ref a1), .val (.int p2)] [])) t := fun t k => P23 t (st24 _ k)
  obtain ⟨fs, hr, hrun, hended, hW, hsame⟩ := X24.leave (v := none) (fun _ => rfl)
  refine ⟨_, _, pre0 _ (P26 _ ?_), hrun, hended, _, _, rfl, ?_, ⟨_, rfl⟩, hW, hsame.mono (by decide) (by decide)⟩
  · exact X24.returnOut hx Bd.returns (hb hby d9_34) hr
  · show Q7o Z a1 fa oa p2 ww md fr φ ko ψ h0 n0 _ T24.heap _
    rw [e24]
    exact ⟨rfl, N24, KR_24, E_24, F_free_24, F_width_24, F_fields_24, F_objects_24, F_made_24, VA_24, VO_24⟩
def Q7n (Z : State) (a1 fa : Addr) (p2 ww md fr : Int32) (φ : Int → Int32) (h0 : Heap) (n0 : Nat) (v : Option Value) (h : Heap) (L : List Loc) : Prop := v = none ∧ Fr n0 L ∧ Keep h0 h [a1, fa] ∧ Exa Z h a1 "com/example/weftwork/weftwork/Rows" ∧ Fld Z h a1 "com/example/weftwork/weftwork/Rows" "free" "I" (.int p2) ∧ Fld Z h a1 "com/example/weftwork/weftwork/Rows" "width" "I" (.int ww) ∧ Fld Z h a1 "com/example/weftwork/weftwork/Rows" "fields" "[I" (.ref fa) ∧ Fld Z h a1 "com/example/weftwork/weftwork/Rows" "objects" "[Ljava/lang/Object;" .null ∧ Fld Z h a1 "com/example/weftwork/weftwork/Rows" "made" "I" (.int md) ∧ own_Arf Z h fa (ww * (16 : Int32)) (own_put φ (ww * p2).toInt fr)
set_option maxRecDepth 65536 in
set_option maxHeartbeats 40000000 in
theorem rm7n (l : Launch) (Z : State) (a0 : Array Value) (hw : ∀ d ∈ tables_1, d.before a0 Z = true) (ws : List Jvm.Cond) (a1 fa : Addr) (p2 ww md fr : Int32) (φ : Int → Int32) (h0 : Heap) (n0 : Nat) (Z0 : n0 ≤ h0.size) (E : Exa Z h0 a1 "com/example/weftwork/weftwork/Rows") (F_free : Fld Z h0 a1 "com/example/weftwork/weftwork/Rows" "free" "I" (.int fr)) (F_width : Fld Z h0 a1 "com/example/weftwork/weftwork/Rows" "width" "I" (.int ww)) (F_fields : Fld Z h0 a1 "com/example/weftwork/weftwork/Rows" "fields" "[I" (.ref fa)) (F_objects : Fld Z h0 a1 "com/example/weftwork/weftwork/Rows" "objects" "[Ljava/lang/Object;" .null) (F_made : Fld Z h0 a1 "com/example/weftwork/weftwork/Rows" "made" "I" (.int md)) (VA : own_Arf Z h0 fa (ww * (16 : Int32)) φ) (ne_a1_fa : a1 ≠ fa) (g_a1 : n0 ≤ a1) (g_fa : n0 ≤ fa) (w1 : 1 ≤ ww.toInt) (w4 : ww.toInt ≤ 4) (o0 : 0 ≤ p2.toInt) (o15 : p2.toInt ≤ 15) :
    MetFree l (⟨"com/example/weftwork/weftwork/Rows", "free", "(I)V"⟩ : MethodName) (head1 (Jvm.Cond.code (⟨"com/example/weftwork/weftwork/Rows", "free", "(I)V"⟩ : MethodName) prog_69_method_4_code 2 none :: ws) ({ frames := 0, cells := 0, slots := 0, locals := 0 } : Room)) (fun a U => a = #[(.ref a1), (.int p2)] ∧ Z.Warmed39 U.vm ∧ U.heap = h0) (fun _ _ _ _ _ => True) (fun _ U o U' => ∃ v L, o = .returned v ∧ Q7n Z a1 fa p2 ww md fr φ h0 n0 v U'.heap L ∧ FrameEnd U o U' L ({ frames := 0, cells := 0, slots := 0, locals := 0 } : Room).cells ({ frames := 0, cells := 0, slots := 0, locals := 0 } : Room).slots) := by
  refine MetFree.of_bodySF (plainFor_of_name pn_9) hisR ?_
  intro p e s m args below meth c s₁ Bd hml0 hP hK
  obtain ⟨rfl, hZ, hh⟩ := hP
  have hx := Bd.exec
  have hby := Bd.bytes
  have hml : c.maxLocals = 2 := hml0
  have hown : s.vm.findClass "com/example/weftwork/weftwork/Rows" = some m.cls := findClass_of_methodNamed Bd.named
  have hnm := (name_of_methodNamed Bd.named Bd.method).1
  have X0 : Stand p l e ({ frames := 0, cells := 0, slots := 0, locals := 0 } : Room) s m #[(.ref a1), (.int p2)] below meth c s₁ [] 0 0 := Stand.of_body Bd
  have e0 : s₁.heap = h0 := by rw [← hh, Bd.state]; rfl
  have N0 := Fr.nil n0
  have pre0 : ∀ t, Steps p.tables e below (s₁.setTop (mkF m 0 #[.val (.ref a1), .val (.int p2)] [])) t → Steps p.tables e below (s₁.setTop (entryFrame m #[(.ref a1), (.int p2)] 2)) t := fun t k => castTop (ef_9 m a1 p2) k
  have KR_0 := Keep.refl h0 [a1, fa]
  have P1 : ∀ t, Steps p.tables e below (s₁.setTop (mkF m 1 #[.val (.ref a1), .val (.int p2)] [(.ref a1)])) t → Steps p.tables e below (s₁.setTop (mkF m 0 #[.val (.ref a1), .val (.int p2)] [])) t := fun t k => by
    show Steps p.tables e below (s₁.setTop (mkF m 0 #[.val (.ref a1), .val (.int p2)] [])) t
    refine XS.aloadN X0.here hx rfl (hb hby d9_0) rfl rfl ?_
    exact k
  obtain ⟨T2, X2, e2, st2⟩ := getF X0 hx hZ hown (host := "") (Or.inl (hw _ (List.mem_of_getElem? (i := 14) rfl))) Via.refl e0 F_fields (g := (mkF m 1 #[.val (.ref a1), .val (.int p2)] [(.ref a1)])) rfl rfl (hb hby d9_1)
  have P3 : ∀ t, Steps p.tables e below (T2.setTop (mkF m 4 #[.val (.ref a1), .val (.int p2)] [(.ref fa)])) t → Steps p.tables e below (s₁.setTop (mkF m 0 #[.val (.ref a1), .val (.int p2)] [])) t := fun t k => P1 t (st2 _ k)
  have P4 : ∀ t, Steps p.tables e below (T2.setTop (mkF m 5 #[.val (.ref a1), .val (.int p2)] [(.ref a1), (.ref fa)])) t → Steps p.tables e below (s₁.setTop (mkF m 0 #[.val (.ref a1), .val (.int p2)] [])) t := fun t k => by
    refine P3 t ?_
    show Steps p.tables e below (T2.setTop (mkF m 4 #[.val (.ref a1), .val (.int p2)] [(.ref fa)])) t
    refine XS.aloadN X2.here hx rfl (hb hby d9_4) rfl rfl ?_
    exact k
  obtain ⟨T5, X5, e5, st5⟩ := getF X2 hx hZ hown (host := "") (Or.inl (hw _ (List.mem_of_getElem? (i := 11) rfl))) Via.refl e2 F_width (g := (mkF m 5 #[.val (.ref a1), .val (.int p2)] [(.ref a1), (.ref fa)])) rfl rfl (hb hby d9_5)
  have P6 : ∀ t, Steps p.tables e below (T5.setTop (mkF m 8 #[.val (.ref a1), .val (.int p2)] [(.int ww), (.ref fa)])) t → Steps p.tables e below (s₁.setTop (mkF m 0 #[.val (.ref a1), .val (.int p2)] [])) t := fun t k => P4 t (st5 _ k)
  have P7 : ∀ t, Steps p.tables e below (T5.setTop (mkF m 11 #[.val (.ref a1), .val (.int p2)] [(.ref a1), (.int (ww * p2)), (.ref fa)])) t → Steps p.tables e below (s₁.setTop (mkF m 0 #[.val (.ref a1), .val (.int p2)] [])) t := fun t k => by
    refine P6 t ?_
    show Steps p.tables e below (T5.setTop (mkF m 8 #[.val (.ref a1), .val (.int p2)] [(.int ww), (.ref fa)])) t
    refine XS.iloadN X5.here hx rfl (hb hby d9_8) rfl ?_
    show Steps p.tables e below (T5.setTop (mkF m 9 #[.val (.ref a1), .val (.int p2)] [(.int p2), (.int ww), (.ref fa)])) t
    refine XS.imul X5.here hx rfl (hb hby d9_9) rfl ?_
    show Steps p.tables e below (T5.setTop (mkF m 10 #[.val (.ref a1), .val (.int p2)] [(.int (ww * p2)), (.ref fa)])) t
    refine XS.aloadN X5.here hx rfl (hb hby d9_10) rfl rfl ?_
    exact k
  obtain ⟨T8, X8, e8, st8⟩ := getF X5 hx hZ hown (host := "") (Or.inl (hw _ (List.mem_of_getElem? (i := 9) rfl))) Via.refl e5 F_free (g := (mkF m 11 #[.val (.ref a1), .val (.int p2)] [(.ref a1), (.int (ww * p2)), (.ref fa)])) rfl rfl (hb hby d9_11)
  have P9 : ∀ t, Steps p.tables e below (T8.setTop (mkF m 14 #[.val (.ref a1), .val (.int p2)] [(.int fr), (.int (ww * p2)), (.ref fa)])) t → Steps p.tables e below (s₁.setTop (mkF m 0 #[.val (.ref a1), .val (.int p2)] [])) t := fun t k => P7 t (st8 _ k)
  obtain ⟨cl10, A10_, S10_, N10_, H10_⟩ := id VA
  have hin10 := own_in (j := (ww * p2)) S10_ N10_ (by rw [own_wr w1 w4 o0 (by omega)]; exact (own_prod w1 w4 o0 (by omega)).1) (by rw [own_wr w1 w4 o0 (by omega), own_n16 w1 w4]; exact own_row w1 o15)
  obtain ⟨T10, h10, X10, e10, W10, st10⟩ := stI X8 hx hZ e8 A10_ (j := (ww * p2)) hin10 (g := (mkF m 14 #[.val (.ref a1), .val (.int p2)] [(.int fr), (.int (ww * p2)), (.ref fa)])) rfl rfl (hb hby d9_14)
  have E_10 := E.wr W10
  have KR_10 := KR_0.wr W10 (Or.inl (List.mem_of_getElem? (i := 1) rfl))
  have F_free_10 := F_free.other W10 (Or.inl ne_a1_fa)
  have F_width_10 := F_width.other W10 (Or.inl ne_a1_fa)
  have F_fields_10 := F_fields.other W10 (Or.inl ne_a1_fa)
  have F_made_10 := F_made.other W10 (Or.inl ne_a1_fa)
  have F_objects_10 := F_objects.other W10 (Or.inl ne_a1_fa)
  have Z_11 : n0 ≤ h10.size := Nat.le_trans Z0 (Keep.of_wr W10).1
  have N10 := Fr.snoc X10 N0 g_fa
  have VA_10 := own_Arf.set A10_ S10_ N10_ H10_ W10 hin10
  have P12 : ∀ t, Steps p.tables e below (T10.setTop (mkF m 15 #[.val (.ref a1), .val (.int p2)] [])) t → Steps p.tables e below (s₁.setTop (mkF m 0 #[.val (.ref a1), .val (.int p2)] [])) t := fun t k => P9 t (st10 _ k)
  have P13 : ∀ t, Steps p.tables e below (T10.setTop (mkF m 16 #[.val (.ref a1), .val (.int p2)] [(.ref a1)])) t → Steps p.tables e below (s₁.setTop (mkF m 0 #[.val (.ref a1), .val (.int p2)] [])) t := fun t k => by
    refine P12 t ?_
    show Steps p.tables e below (T10.setTop (mkF m 15 #[.val (.ref a1), .val (.int p2)] [])) t
    refine XS.aloadN X10.here hx rfl (hb hby d9_15) rfl rfl ?_
    exact k
  obtain ⟨T14, X14, e14, st14⟩ := getF X10 hx hZ hown (host := "") (Or.inl (hw _ (List.mem_of_getElem? (i := 18) rfl))) Via.refl e10 F_objects_10 (g := (mkF m 16 #[.val (.ref a1), .val (.int p2)] [(.ref a1)])) rfl rfl (hb hby d9_16)
  have P15 : ∀ t, Steps p.tables e below (T14.setTop (mkF m 19 #[.val (.ref a1), .val (.int p2)] [.null])) t → Steps p.tables e below (s₁.setTop (mkF m 0 #[.val (.ref a1), .val (.int p2)] [])) t := fun t k => P13 t (st14 _ k)
  have P16 : ∀ t, Steps p.tables e below (T14.setTop (mkF m 31 #[.val (.ref a1), .val (.int p2)] [(.int p2), (.ref a1)])) t → Steps p.tables e below (s₁.setTop (mkF m 0 #[.val (.ref a1), .val (.int p2)] [])) t := fun t k => by
    refine P15 t ?_
    show Steps p.tables e below (T14.setTop (mkF m 19 #[.val (.ref a1), .val (.int p2)] [.null])) t
    refine XS.ifnullYes X14.here hx rfl (pc0 := 19) (pc' := 29) rfl (hb hby d9_19) rfl (by decide) (by decide) ?_
    show Steps p.tables e below (T14.setTop (mkF m 29 #[.val (.ref a1), .val (.int p2)] [])) t
    refine XS.aloadN X14.here hx rfl (hb hby d9_29) rfl rfl ?_
    show Steps p.tables e below (T14.setTop (mkF m 30 #[.val (.ref a1), .val (.int p2)] [(.ref a1)])) t
    refine XS.iloadN X14.here hx rfl (hb hby d9_30) rfl ?_
    exact k
  obtain ⟨T17, h17, X17, e17, W17, st17⟩ := putF X14 hx hZ hown (host := "") (Or.inl (hw _ (List.mem_of_getElem? (i := 9) rfl))) Via.refl e14 F_free_10 E_10 (Or.inl (hw _ (List.mem_of_getElem? (i := 10) rfl))) (hw _ (List.mem_of_getElem? (i := 1) rfl)) (ty := .int) (by decide) rfl rfl (g := (mkF m 31 #[.val (.ref a1), .val (.int p2)] [(.int p2), (.ref a1)])) rfl rfl (hb hby d9_31)
  have E_17 := E_10.wr W17
  have KR_17 := KR_10.wr W17 (Or.inl (List.mem_of_getElem? (i := 0) rfl))
  have F_free_17 := F_free_10.same W17
  have F_width_17 := F_width_10.other W17 (Or.inr (slot_ne (Or.inr (hw _ (List.mem_of_getElem? (i := 12) rfl))) (Or.inl (hw _ (List.mem_of_getElem? (i := 10) rfl))) (by decide) (t := .int) (t' := .int) (by decide) (by decide)))
  have F_fields_17 := F_fields_10.other W17 (Or.inr (slot_ne (Or.inl (hw _ (List.mem_of_getElem? (i := 15) rfl))) (Or.inl (hw _ (List.mem_of_getElem? (i := 10) rfl))) (by decide) (t := (.array .int)) (t' := .int) (by decide) (by decide)))
  have F_made_17 := F_made_10.other W17 (Or.inr (slot_ne (Or.inl (hw _ (List.mem_of_getElem? (i := 26) rfl))) (Or.inl (hw _ (List.mem_of_getElem? (i := 10) rfl))) (by decide) (t := .int) (t' := .int) (by decide) (by decide)))
  have F_objects_17 := F_objects_10.other W17 (Or.inr (slot_ne (Or.inl (hw _ (List.mem_of_getElem? (i := 19) rfl))) (Or.inl (hw _ (List.mem_of_getElem? (i := 10) rfl))) (by decide) (t := (.array (.object "java/lang/Object"))) (t' := .int) (by decide) (by decide)))
  have VA_17 := VA_10.other W17 (Ne.symm ne_a1_fa)
  have Z_18 : n0 ≤ h17.size := Nat.le_trans Z_11 (Keep.of_wr W17).1
  have N17 := Fr.snoc X17 N10 g_a1
  have P19 : ∀ t, Steps p.tables e below (T17.setTop (mkF m 34 #[.val (.ref a1), .val (.int p2)] [])) t → Steps p.tables e below (s₁.setTop (mkF m 0 #[.val (.ref a1), .val (.int p2)] [])) t := fun t k => P16 t (st17 _ k)
  obtain ⟨fs, hr, hrun, hended, hW, hsame⟩ := X17.leave (v := none) (fun _ => rfl)
  refine ⟨_, _, pre0 _ (P19 _ ?_), hrun, hended, _, _, rfl, ?_, ⟨_, rfl⟩, hW, hsame.mono (by decide) (by decide)⟩
  · exact X17.returnOut hx Bd.returns (hb hby d9_34) hr
  · show Q7n Z a1 fa p2 ww md fr φ h0 n0 _ T17.heap _
    rw [e17]
    exact ⟨rfl, N17, KR_17, E_17, F_free_17, F_width_17, F_fields_17, F_objects_17, F_made_17, VA_17⟩
theorem own_pure {w i j k f : Int} (w1 : 1 ≤ w) (w4 : w ≤ 4) (i0 : 0 ≤ i) (i2 : i ≤ 2) (j0 : 0 ≤ j) (j2 : j ≤ 2) (hij : i ≠ j) (hk : k = 3 - i - j) (f0 : 0 ≤ f) (f1 : f < w) (φ : Int → Int32) (v I : Int32) :
    own_put (own_put (own_put φ (w * k + f) v) (w * i) (-1)) (w * j) I (w * j) = I ∧
    own_fill (own_put (own_put (own_put φ (w * k + f) v) (w * i) (-1)) (w * j) I) (w * j) (w * (j + 1)) (-1) (w * i) = -1 ∧
    own_fill (own_fill (own_fill (own_put (own_put (own_put φ (w * k + f) v) (w * i) (-1)) (w * j) I) (w * j) (w * (j + 1)) (-1)) (w * i) (w * (i + 1)) (-1)) (w * 3) (w * 4) (-1) (w * k + f) = v := by
  subst hk
  have : w = 1 ∨ w = 2 ∨ w = 3 ∨ w = 4 := by omega
  have hi : i = 0 ∨ i = 1 ∨ i = 2 := by omega
  have hj : j = 0 ∨ j = 1 ∨ j = 2 := by omega
  refine ⟨by simp [own_put], ?_, ?_⟩
  · simp only [own_fill, own_put]
    split
    · rfl
    · rcases hi with rfl | rfl | rfl <;> rcases hj with rfl | rfl | rfl <;> rcases this with rfl | rfl | rfl | rfl <;> first | (exact absurd rfl hij) | simp
  · simp only [own_fill, own_put]
    rcases hi with rfl | rfl | rfl <;> rcases hj with rfl | rfl | rfl <;> rcases this with rfl | rfl | rfl | rfl <;> first | (exact absurd rfl hij) | (repeat (first | rw [if_pos trivial] | rw [if_neg (by omega)] | rw [if_pos (by omega)]))
theorem own_w (x : Int32) : 1 ≤ ((1 : Int32) + (x &&& (3 : Int32))).toInt ∧ ((1 : Int32) + (x &&& (3 : Int32))).toInt ≤ 4 := by
  have h := c_and x 3 (by decide); have e3 : (3 : Int32).toInt = 3 := rfl
  have := own_add (x := 1) (y := x &&& 3) (p := 1) rfl rfl (by omega) (by omega); omega
theorem own_i (x : Int32) : 0 ≤ ((x &&& (2147483647 : Int32)) % (3 : Int32)).toInt ∧ ((x &&& (2147483647 : Int32)) % (3 : Int32)).toInt ≤ 2 := by
  have h := (c_and x 2147483647 (by decide)).1
  have g := (c_irem (x &&& 2147483647) 3 3 rfl).1 h; omega
theorem own_j {i x : Int32} (i0 : 0 ≤ i.toInt) (i2 : i.toInt ≤ 2) : 0 ≤ (((i + (1 : Int32)) + (x &&& (1 : Int32))) % (3 : Int32)).toInt ∧ (((i + (1 : Int32)) + (x &&& (1 : Int32))) % (3 : Int32)).toInt ≤ 2 ∧ i.toInt ≠ (((i + (1 : Int32)) + (x &&& (1 : Int32))) % (3 : Int32)).toInt := by
  have h := c_and x 1 (by decide); have e1 : (1 : Int32).toInt = 1 := rfl
  have a := own_add (x := i) (y := 1) rfl (q := 1) rfl (by omega) (by omega)
  have b := own_add (x := i + 1) (y := x &&& 1) a rfl (by omega) (by omega)
  have g := (c_irem ((i + (1 : Int32)) + (x &&& (1 : Int32))) 3 3 rfl).1 (by omega)
  omega
theorem own_k {i j : Int32} (i0 : 0 ≤ i.toInt) (i2 : i.toInt ≤ 2) (j0 : 0 ≤ j.toInt) (j2 : j.toInt ≤ 2) : (((3 : Int32) - i) - j).toInt = 3 - i.toInt - j.toInt :=
  own_sub (own_sub (p := 3) rfl rfl (by omega) (by omega)) rfl (by omega) (by omega)
theorem own_f {x w : Int32} (w1 : 1 ≤ w.toInt) : 0 ≤ ((x &&& (2147483647 : Int32)) % w).toInt ∧ ((x &&& (2147483647 : Int32)) % w).toInt < w.toInt := by
  have h := (c_and x 2147483647 (by decide)).1
  have g := (c_iremV (x &&& 2147483647) w).1 h (by omega); exact ⟨g.1, g.2.1⟩
theorem own_ix {w k f : Int32} (w1 : 1 ≤ w.toInt) (w4 : w.toInt ≤ 4) (k0 : 0 ≤ k.toInt) (k2 : k.toInt ≤ 15) (f0 : 0 ≤ f.toInt) (f1 : f.toInt < w.toInt) : ((w * k) + f).toInt = w.toInt * k.toInt + f.toInt := by
  have a := own_wr (r := k) w1 w4 k0 (by omega); have b := own_prod w1 w4 k0 (by omega)
  exact own_add a rfl (by omega) (by omega)
theorem own_ixb {w k f : Int32} (w1 : 1 ≤ w.toInt) (w4 : w.toInt ≤ 4) (k0 : 0 ≤ k.toInt) (k2 : k.toInt ≤ 15) (f0 : 0 ≤ f.toInt) (f1 : f.toInt < w.toInt) : 0 ≤ ((w * k) + f).toInt ∧ ((w * k) + f).toInt < (w * (16 : Int32)).toInt := by
  rw [own_ix w1 w4 k0 k2 f0 f1, own_n16 w1 w4]
  have b := own_prod w1 w4 k0 (by omega); have c := own_row1 (r := k.toInt) w1 k2
  rw [Int.mul_add] at c; omega
theorem pn_0 : plainName "com/example/weftwork/weftwork/RowsFreePinLaw" = true := by first | (simp [plainName, overriddenIn]; done) | decide +kernel
theorem ef_0 (m : MethodId) (x0 : Int32) (x1 : Int32) (x2 : Int32) (x3 : Int32) (x4 : Int32) (x5 : Int32) : entryFrame m #[(.int x0), (.int x1), (.int x2), (.int x3), (.int x4), (.int x5)] maxLocals = mkF m 0 #[.val (.int x0), .val (.int x1), .val (.int x2), .val (.int x3), .val (.int x4), .val (.int x5), .unset, .unset, .unset, .unset, .unset, .unset, .unset, .unset, .unset, .unset, .unset, .unset, .unset, .unset, .unset] [] := by first | (simp [entryFrame, mkF, argsToLocals, Value.category, maxLocals]; done) | rfl
theorem pd__IZ_V : parseMethodDescriptor "(IZ)V" = some ⟨[.int, .boolean], none⟩ := by decide +kernel
theorem pd___I : parseMethodDescriptor "()I" = some ⟨[], some .int⟩ := by decide +kernel
theorem pd__II_I : parseMethodDescriptor "(II)I" = some ⟨[.int, .int], some .int⟩ := by decide +kernel
theorem pd__I_Ljava_lang_Integer_ : parseMethodDescriptor "(I)Ljava/lang/Integer;" = some ⟨[.int], some (.object "java/lang/Integer")⟩ := by decide +kernel
theorem pd__ILjava_lang_Object__V : parseMethodDescriptor "(ILjava/lang/Object;)V" = some ⟨[.int, (.object "java/lang/Object")], none⟩ := by decide +kernel
theorem pd__I_Ljava_lang_Object_ : parseMethodDescriptor "(I)Ljava/lang/Object;" = some ⟨[.int], some (.object "java/lang/Object")⟩ := by decide +kernel
def Q0 (Z : State) (p1 p2 p3 p4 p5 p6 : Int32) (wC : Addr) (cC : Cell) (h0 : Heap) (n0 : Nat) (v : Option Value) (h : Heap) (L : List Loc) : Prop := v = some (.int 1) ∧ Fr n0 L
set_option maxRecDepth 65536 in
set_option maxHeartbeats 40000000 in
theorem rm0 (l : Launch) (Z : State) (a0 : Array Value) (hw : ∀ d ∈ tables_1, d.before a0 Z = true) (ws : List Jvm.Cond) (p1 p2 p3 p4 p5 p6 : Int32) (wC : Addr) (cC : Cell) (h0 : Heap) (n0 : Nat) (Z0 : n0 ≤ h0.size) (OL_0 : Old Z n0 h0) (S_high : Sta Z Z.heap "java/lang/Integer$IntegerCache" "high" "I" (.int (127 : Int32))) (S_cache : Sta Z Z.heap "java/lang/Integer$IntegerCache" "cache" "[Ljava/lang/Integer;" (.ref wC)) (BX : Bxs Z wC cC "java/lang/Integer" "I" (256 : Int32) (fun j => .int (j - 128))) :
    MetFree l x (head1 (Jvm.Cond.code x code maxLocals ret :: ws) room_1) (fun a U => a = #[(.int p1), (.int p2), (.int p3), (.int p4), (.int p5), (.int p6)] ∧ Z.Warmed39 U.vm ∧ U.heap = h0) (fun _ _ _ _ _ => True) (fun _ U o U' => ∃ v L, o = .returned v ∧ Q0 Z p1 p2 p3 p4 p5 p6 wC cC h0 n0 v U'.heap L ∧ FrameEnd U o U' L room_1.cells room_1.slots) := by
  refine MetFree.of_bodySF (plainFor_of_name pn_0) hisR ?_
  intro p e s m args below meth c s₁ Bd hml0 hP hK
  obtain ⟨rfl, hZ, hh⟩ := hP
  have hx := Bd.exec
  have hby := Bd.bytes
  have hml : c.maxLocals = 21 := hml0
  have hown : s.vm.findClass "com/example/weftwork/weftwork/RowsFreePinLaw" = some m.cls := findClass_of_methodNamed Bd.named
  have hnm := (name_of_methodNamed Bd.named Bd.method).1
  have X0 : Stand p l e room_1 s m #[(.int p1), (.int p2), (.int p3), (.int p4), (.int p5), (.int p6)] below meth c s₁ [] 0 0 := Stand.of_body Bd
  have e0 : s₁.heap = h0 := by rw [← hh, Bd.state]; rfl
  have N0 := Fr.nil n0
  have pre0 : ∀ t, Steps p.tables e below (s₁.setTop (mkF m 0 #[.val (.int p1), .val (.int p2), .val (.int p3), .val (.int p4), .val (.int p5), .val (.int p6), .unset, .unset, .unset, .unset, .unset, .unset, .unset, .unset, .unset, .unset, .unset, .unset, .unset, .unset, .unset] [])) t → Steps p.tables e below (s₁.setTop (entryFrame m #[(.int p1), (.int p2), (.int p3), (.int p4), (.int p5), (.int p6)] maxLocals)) t := fun t k => castTop (ef_0 m p1 p2 p3 p4 p5 p6) k
  have P1 : ∀ t, Steps p.tables e below (s₁.setTop (mkF m 7 #[.val (.int p1), .val (.int p2), .val (.int p3), .val (.int p4), .val (.int p5), .val (.int p6), .val (.int ((1 : Int32) + (p1 &&& (3 : Int32)))), .unset, .unset, .unset, .unset, .unset, .unset, .unset, .unset, .unset, .unset, .unset, .unset, .unset, .unset] [])) t → Steps p.tables e below (s₁.setTop (mkF m 0 #[.val (.int p1), .val (.int p2), .val (.int p3), .val (.int p4), .val (.int p5), .val (.int p6), .unset, .unset, .unset, .unset, .unset, .unset, .unset, .unset, .unset, .unset, .unset, .unset, .unset, .unset, .unset] [])) t := fun t k => by
    show Steps p.tables e below (s₁.setTop (mkF m 0 #[.val (.int p1), .val (.int p2), .val (.int p3), .val (.int p4), .val (.int p5), .val (.int p6), .unset, .unset, .unset, .unset, .unset, .unset, .unset, .unset, .unset, .unset, .unset, .unset, .unset, .unset, .unset] [])) t
    refine XS.iconst X0.here hx rfl (hb hby at_0) ?_
    show Steps p.tables e below (s₁.setTop (mkF m 1 #[.val (.int p1), .val (.int p2), .val (.int p3), .val (.int p4), .val (.int p5), .val (.int p6), .unset, .unset, .unset, .unset, .unset, .unset, .unset, .unset, .unset, .unset, .unset, .unset, .unset, .unset, .unset] [(.int (1 : Int32))])) t
    refine XS.iloadN X0.here hx rfl (hb hby at_1) rfl ?_
    show Steps p.tables e below (s₁.setTop (mkF m 2 #[.val (.int p1), .val (.int p2), .val (.int p3), .val (.int p4), .val (.int p5), .val (.int p6), .unset, .unset, .unset, .unset, .unset, .unset, .unset, .unset, .unset, .unset, .unset, .unset, .unset, .unset, .unset] [(.int p1), (.int (1 : Int32))])) t
    refine XS.iconst X0.here hx rfl (hb hby at_2) ?_
    show Steps p.tables e below (s₁.setTop (mkF m 3 #[.val (.int p1), .val (.int p2), .val (.int p3), .val (.int p4), .val (.int p5), .val (.int p6), .unset, .unset, .unset, .unset, .unset, .unset, .unset, .unset, .unset, .unset, .unset, .unset, .unset, .unset, .unset] [(.int (3 : Int32)), (.int p1), (.int (1 : Int32))])) t
    refine XS.iand X0.here hx rfl (hb hby at_3) rfl ?_
    show Steps p.tables e below (s₁.setTop (mkF m 4 #[.val (.int p1), .val (.int p2), .val (.int p3), .val (.int p4), .val (.int p5), .val (.int p6), .unset, .unset, .unset, .unset, .unset, .unset, .unset, .unset, .unset, .unset, .unset, .unset, .unset, .unset, .unset] [(.int (p1 &&& (3 : Int32))), (.int (1 : Int32))])) t
    refine XS.iadd X0.here hx rfl (hb hby at_4) rfl ?_
    show Steps p.tables e below (s₁.setTop (mkF m 5 #[.val (.int p1), .val (.int p2), .val (.int p3), .val (.int p4), .val (.int p5), .val (.int p6), .unset, .unset, .unset, .unset, .unset, .unset, .unset, .unset, .unset, .unset, .unset, .unset, .unset, .unset, .unset] [(.int ((1 : Int32) + (p1 &&& (3 : Int32))))])) t
    refine XS.istore X0.here hx rfl (hb hby at_5) rfl (l' := #[.val (.int p1), .val (.int p2), .val (.int p3), .val (.int p4), .val (.int p5), .val (.int p6), .val (.int ((1 : Int32) + (p1 &&& (3 : Int32)))), .unset, .unset, .unset, .unset, .unset, .unset, .unset, .unset, .unset, .unset, .unset, .unset, .unset, .unset]) rfl ?_
    exact k
  obtain ⟨ww, hv_ww⟩ : ∃ z, z = ((1 : Int32) + (p1 &&& (3 : Int32))) := ⟨_, rfl⟩
  rw [← hv_ww] at P1
  have w1 : 1 ≤ ww.toInt := by rw [hv_ww]; exact (own_w p1).1
  have w4 : ww.toInt ≤ 4 := by rw [hv_ww]; exact (own_w p1).2
  have hww0 : ww ≠ 0 := fun q => by rw [q] at w1; exact absurd w1 (by decide)
  have en := own_n16 w1 w4
  have hneg : ¬ (ww * (16 : Int32)) < 0 := by rw [Int32.lt_iff_toInt_lt, en]; have : (0 : Int32).toInt = 0 := rfl; omega
  have hcap : (ww * (16 : Int32)).toNatClampNeg ≤ 64 := by simp only [Int32.toNatClampNeg, en]; omega
  have P2 : ∀ t, Steps p.tables e below (s₁.setTop (mkF m 11 #[.val (.int p1), .val (.int p2), .val (.int p3), .val (.int p4), .val (.int p5), .val (.int p6), .val (.int ww), .unset, .unset, .unset, .unset, .unset, .unset, .unset, .unset, .unset, .unset, .unset, .unset, .unset, .unset] [(.int (p6 &&& (1 : Int32)))])) t → Steps p.tables e below (s₁.setTop (mkF m 0 #[.val (.int p1), .val (.int p2), .val (.int p3), .val (.int p4), .val (.int p5), .val (.int p6), .unset, .unset, .unset, .unset, .unset, .unset, .unset, .unset, .unset, .unset, .unset, .unset, .unset, .unset, .unset] [])) t := fun t k => by
    refine P1 t ?_
    show Steps p.tables e below (s₁.setTop (mkF m 7 #[.val (.int p1), .val (.int p2), .val (.int p3), .val (.int p4), .val (.int p5), .val (.int p6), .val (.int ww), .unset, .unset, .unset, .unset, .unset, .unset, .unset, .unset, .unset, .unset, .unset, .unset, .unset, .unset] [])) t
    refine XS.iload X0.here hx rfl (hb hby at_7) rfl ?_
    show Steps p.tables e below (s₁.setTop (mkF m 9 #[.val (.int p1), .val (.int p2), .val (.int p3), .val (.int p4), .val (.int p5), .val (.int p6), .val (.int ww), .unset, .unset, .unset, .unset, .unset, .unset, .unset, .unset, .unset, .unset, .unset, .unset, .unset, .unset] [(.int p6)])) t
    refine XS.iconst X0.here hx rfl (hb hby at_9) ?_
    show Steps p.tables e below (s₁.setTop (mkF m 10 #[.val (.int p1), .val (.int p2), .val (.int p3), .val (.int p4), .val (.int p5), .val (.int p6), .val (.int ww), .unset, .unset, .unset, .unset, .unset, .unset, .unset, .unset, .unset, .unset, .unset, .unset, .unset, .unset] [(.int (1 : Int32)), (.int p6)])) t
    refine XS.iand X0.here hx rfl (hb hby at_10) rfl ?_
    exact k
  by_cases hc3 : (p6 &&& (1 : Int32)) = (0 : Int32)
  · have P4 : ∀ t, Steps p.tables e below (s₁.setTop (mkF m 21 #[.val (.int p1), .val (.int p2), .val (.int p3), .val (.int p4), .val (.int p5), .val (.int p6), .val (.int ww), .val (.int (0 : Int32)), .unset, .unset, .unset, .unset, .unset, .unset, .unset, .unset, .unset, .unset, .unset, .unset, .unset] [])) t → Steps p.tables e below (s₁.setTop (mkF m 0 #[.val (.int p1), .val (.int p2), .val (.int p3), .val (.int p4), .val (.int p5), .val (.int p6), .unset, .unset, .unset, .unset, .unset, .unset, .unset, .unset, .unset, .unset, .unset, .unset, .unset, .unset, .unset] [])) t := fun t k => by
      refine P2 t ?_
      show Steps p.tables e below (s₁.setTop (mkF m 11 #[.val (.int p1), .val (.int p2), .val (.int p3), .val (.int p4), .val (.int p5), .val (.int p6), .val (.int ww), .unset, .unset, .unset, .unset, .unset, .unset, .unset, .unset, .unset, .unset, .unset, .unset, .unset, .unset] [(.int (p6 &&& (1 : Int32)))])) t
      refine XS.ifYes X0.here hx rfl (pc0 := 11) (pc' := 18) rfl (hb hby at_11) rfl ((if0 _ _).trans (teq hc3).1) (by decide) (by decide) ?_
      show Steps p.tables e below (s₁.setTop (mkF m 18 #[.val (.int p1), .val (.int p2), .val (.int p3), .val (.int p4), .val (.int p5), .val (.int p6), .val (.int ww), .unset, .unset, .unset, .unset, .unset, .unset, .unset, .unset, .unset, .unset, .unset, .unset, .unset, .unset] [])) t
      refine XS.iconst X0.here hx rfl (hb hby at_18) ?_
      show Steps p.tables e below (s₁.setTop (mkF m 19 #[.val (.int p1), .val (.int p2), .val (.int p3), .val (.int p4), .val (.int p5), .val (.int p6), .val (.int ww), .unset, .unset, .unset, .unset, .unset, .unset, .unset, .unset, .unset, .unset, .unset, .unset, .unset, .unset] [(.int (0 : Int32))])) t
      refine XS.istore X0.here hx rfl (hb hby at_19) rfl (l' := #[.val (.int p1), .val (.int p2), .val (.int p3), .val (.int p4), .val (.int p5), .val (.int p6), .val (.int ww), .val (.int (0 : Int32)), .unset, .unset, .unset, .unset, .unset, .unset, .unset, .unset, .unset, .unset, .unset, .unset, .unset]) rfl ?_
      exact k
    obtain ⟨T5, h5, X5, e5, E5, A5, D5, -, st5⟩ := newO X0 hx hZ hown (hw _ (List.mem_of_getElem? (i := 0) rfl)) (hw _ (List.mem_of_getElem? (i := 1) rfl)) (hw _ (List.mem_of_getElem? (i := 2) rfl)) e0 (g := (mkF m 21 #[.val (.int p1), .val (.int p2), .val (.int p3), .val (.int p4), .val (.int p5), .val (.int p6), .val (.int ww), .val (.int (0 : Int32)), .unset, .unset, .unset, .unset, .unset, .unset, .unset, .unset, .unset, .unset, .unset, .unset, .unset] [])) rfl (hb hby at_21) (by decide) (by decide)
    obtain ⟨b5, g5⟩ : ∃ z, z = h0.size := ⟨_, rfl⟩
    rw [← g5] at A5 D5 st5
    have g_b5 : n0 ≤ b5 := Nat.le_trans Z0 (Nat.le_of_eq g5.symm)
    have OL_5 := OL_0.ext E5
    have Z_6 : n0 ≤ h5.size := Nat.le_trans Z0 E5.1
    have F_free_b5 : Fld Z h5 b5 "com/example/weftwork/weftwork/Rows" "free" "I" (.int (0 : Int32)) := D5 (Or.inl (hw _ (List.mem_of_getElem? (i := 10) rfl))) (ty := .int) (by decide)
    have F_width_b5 : Fld Z h5 b5 "com/example/weftwork/weftwork/Rows" "width" "I" (.int (0 : Int32)) := D5 (Or.inr (hw _ (List.mem_of_getElem? (i := 12) rfl))) (ty := .int) (by decide)
    have F_fields_b5 : Fld Z h5 b5 "com/example/weftwork/weftwork/Rows" "fields" "[I" .null := D5 (Or.inl (hw _ (List.mem_of_getElem? (i := 15) rfl))) (ty := (.array .int)) (by decide)
    have F_objects_b5 : Fld Z h5 b5 "com/example/weftwork/weftwork/Rows" "objects" "[Ljava/lang/Object;" .null := D5 (Or.inl (hw _ (List.mem_of_getElem? (i := 19) rfl))) (ty := (.array (.object "java/lang/Object"))) (by decide)
    have F_made_b5 : Fld Z h5 b5 "com/example/weftwork/weftwork/Rows" "made" "I" (.int (0 : Int32)) := D5 (Or.inl (hw _ (List.mem_of_getElem? (i := 26) rfl))) (ty := .int) (by decide)
    have P7 : ∀ t, Steps p.tables e below (T5.setTop (mkF m 24 #[.val (.int p1), .val (.int p2), .val (.int p3), .val (.int p4), .val (.int p5), .val (.int p6), .val (.int ww), .val (.int (0 : Int32)), .unset, .unset, .unset, .unset, .unset, .unset, .unset, .unset, .unset, .unset, .unset, .unset, .unset] [(.ref b5)])) t → Steps p.tables e below (s₁.setTop (mkF m 0 #[.val (.int p1), .val (.int p2), .val (.int p3), .val (.int p4), .val (.int p5), .val (.int p6), .unset, .unset, .unset, .unset, .unset, .unset, .unset, .unset, .unset, .unset, .unset, .unset, .unset, .unset, .unset] [])) t := fun t k => P4 t (st5 _ k)
    have P8 : ∀ t, Steps p.tables e below (T5.setTop (mkF m 29 #[.val (.int p1), .val (.int p2), .val (.int p3), .val (.int p4), .val (.int p5), .val (.int p6), .val (.int ww), .val (.int (0 : Int32)), .unset, .unset, .unset, .unset, .unset, .unset, .unset, .unset, .unset, .unset, .unset, .unset, .unset] [(.int (0 : Int32)), (.int ww), (.ref b5), (.ref b5)])) t → Steps p.tables e below (s₁.setTop (mkF m 0 #[.val (.int p1), .val (.int p2), .val (.int p3), .val (.int p4), .val (.int p5), .val (.int p6), .unset, .unset, .unset, .unset, .unset, .unset, .unset, .unset, .unset, .unset, .unset, .unset, .unset, .unset, .unset] [])) t := fun t k => by
      refine P7 t ?_
      show Steps p.tables e below (T5.setTop (mkF m 24 #[.val (.int p1), .val (.int p2), .val (.int p3), .val (.int p4), .val (.int p5), .val (.int p6), .val (.int ww), .val (.int (0 : Int32)), .unset, .unset, .unset, .unset, .unset, .unset, .unset, .unset, .unset, .unset, .unset, .unset, .unset] [(.ref b5)])) t
      refine XS.dup X5.here hx rfl (hb hby at_24) rfl rfl ?_
      show Steps p.tables e below (T5.setTop (mkF m 25 #[.val (.int p1), .val (.int p2), .val (.int p3), .val (.int p4), .val (.int p5), .val (.int p6), .val (.int ww), .val (.int (0 : Int32)), .unset, .unset, .unset, .unset, .unset, .unset, .unset, .unset, .unset, .unset, .unset, .unset, .unset] [(.ref b5), (.ref b5)])) t
      refine XS.iload X5.here hx rfl (hb hby at_25) rfl ?_
      show Steps p.tables e below (T5.setTop (mkF m 27 #[.val (.int p1), .val (.int p2), .val (.int p3), .val (.int p4), .val (.int p5), .val (.int p6), .val (.int ww), .val (.int (0 : Int32)), .unset, .unset, .unset, .unset, .unset, .unset, .unset, .unset, .unset, .unset, .unset, .unset, .unset] [(.int ww), (.ref b5), (.ref b5)])) t
      refine XS.iload X5.here hx rfl (hb hby at_27) rfl ?_
      exact k
    obtain ⟨_, _, ⟨T9, L9, k9, n9⟩, -, X9, ⟨Lc9, hQ9, l9, y9, z9⟩, st9⟩ := X5.specialBack hx (y := (⟨"com/example/weftwork/weftwork/Rows", "<init>", "(IZ)V"⟩ : MethodName)) rfl hown (mvT hZ (hw _ (List.mem_of_getElem? (i := 3) rfl))) (mvT hZ (hw _ (List.mem_of_getElem? (i := 4) rfl))) (mvT hZ (hw _ (List.mem_of_getElem? (i := 5) rfl))) (by decide) (backOf (W := 1) (rm1n l Z a0 hw [] b5 ww (0 : Int32) h5 n0 Z_6 A5 F_free_b5 F_width_b5 F_fields_b5 F_objects_b5 F_made_b5 g_b5 hneg hcap rfl) hZ (hw _ (List.mem_of_getElem? (i := 5) rfl)) (hw _ (List.mem_of_getElem? (i := 2) rfl)) (by decide) (by decide)) (g := (mkF m 29 #[.val (.int p1), .val (.int p2), .val (.int p3), .val (.int p4), .val (.int p5), .val (.int p6), .val (.int ww), .val (.int (0 : Int32)), .unset, .unset, .unset, .unset, .unset, .unset, .unset, .unset, .unset, .unset, .unset, .unset, .unset] [(.int (0 : Int32)), (.int ww), (.ref b5), (.ref b5)])) rfl (by rw [hml]; rfl) (Steps.refl _) (a := b5) (argsL := [(.int ww), (.int (0 : Int32))]) (rest := [(.ref b5)]) (lenOf pd__IZ_V rfl) rfl (by show 2 * 0 + _ ≤ _; exact Nat.le_of_eq rfl) (hb hby at_29) (fun _ _ => ⟨rfl, e5, (by decide : 1 + 1 ≤ _), (by decide : 5 + 64 ≤ _)⟩)
    dsimp only [Pt.U, Pt.locs, Pt.cells, Pt.slots] at X9 l9 y9 z9 st9 hQ9
    subst l9 y9 z9
    obtain ⟨fa, rfl, N9q, K9, E9x, Fa9, Fb9, Fc9, Fd9, Fe9, V9x, ne_r_fa, g_fa⟩ := hQ9
    have OL_9 := OL_5.keep K9 (allS g_b5 all0)
    have A5_9 := A5.keep K9
    have Z_10 : n0 ≤ T9.heap.size := Nat.le_trans Z_6 K9.1
    obtain ⟨φ9, hφ9⟩ : ∃ z, z = (fun _ => 0 : Int → Int32) := ⟨_, rfl⟩
    rw [← hφ9] at V9x
    have N9 := Fr.app N0 N9q
    have P11 : ∀ t, Steps p.tables e below (T9.setTop (mkF m 32 #[.val (.int p1), .val (.int p2), .val (.int p3), .val (.int p4), .val (.int p5), .val (.int p6), .val (.int ww), .val (.int (0 : Int32)), .unset, .unset, .unset, .unset, .unset, .unset, .unset, .unset, .unset, .unset, .unset, .unset, .unset] [(.ref b5)])) t → Steps p.tables e below (s₁.setTop (mkF m 0 #[.val (.int p1), .val (.int p2), .val (.int p3), .val (.int p4), .val (.int p5), .val (.int p6), .unset, .unset, .unset, .unset, .unset, .unset, .unset, .unset, .unset, .unset, .unset, .unset, .unset, .unset, .unset] [])) t := fun t k => P8 t (st9.trans k)
    have P12 : ∀ t, Steps p.tables e below (T9.setTop (mkF m 36 #[.val (.int p1), .val (.int p2), .val (.int p3), .val (.int p4), .val (.int p5), .val (.int p6), .val (.int ww), .val (.int (0 : Int32)), .val (.ref b5), .unset, .unset, .unset, .unset, .unset, .unset, .unset, .unset, .unset, .unset, .unset, .unset] [(.ref b5)])) t → Steps p.tables e below (s₁.setTop (mkF m 0 #[.val (.int p1), .val (.int p2), .val (.int p3), .val (.int p4), .val (.int p5), .val (.int p6), .unset, .unset, .unset, .unset, .unset, .unset, .unset, .unset, .unset, .unset, .unset, .unset, .unset, .unset, .unset] [])) t := fun t k => by
      refine P11 t ?_
      show Steps p.tables e below (T9.setTop (mkF m 32 #[.val (.int p1), .val (.int p2), .val (.int p3), .val (.int p4), .val (.int p5), .val (.int p6), .val (.int ww), .val (.int (0 : Int32)), .unset, .unset, .unset, .unset, .unset, .unset, .unset, .unset, .unset, .unset, .unset, .unset, .unset] [(.ref b5)])) t
      refine XS.astore X9.here hx rfl (hb hby at_32) rfl rfl (l' := #[.val (.int p1), .val (.int p2), .val (.int p3), .val (.int p4), .val (.int p5), .val (.int p6), .val (.int ww), .val (.int (0 : Int32)), .val (.ref b5), .unset, .unset, .unset, .unset, .unset, .unset, .unset, .unset, .unset, .unset, .unset, .unset]) rfl ?_
      show Steps p.tables e below (T9.setTop (mkF m 34 #[.val (.int p1), .val (.int p2), .val (.int p3), .val (.int p4), .val (.int p5), .val (.int p6), .val (.int ww), .val (.int (0 : Int32)), .val (.ref b5), .unset, .unset, .unset, .unset, .unset, .unset, .unset, .unset, .unset, .unset, .unset, .unset] [])) t
      refine XS.aload X9.here hx rfl (hb hby at_34) rfl rfl ?_
      exact k
    obtain ⟨cq13, kq13, q13a, q13b, q13c⟩ := isOf hZ rfl A5_9
    obtain ⟨_, _, ⟨T13, L13, k13, n13⟩, -, X13, ⟨Lc13, hQ13, l13, y13, z13⟩, st13⟩ := X9.virtualBack hx (y := (⟨"com/example/weftwork/weftwork/Rows", "make", "()I"⟩ : MethodName)) (z := (⟨"com/example/weftwork/weftwork/Rows", "make", "()I"⟩ : MethodName)) hown (mvT hZ (hw _ (List.mem_of_getElem? (i := 20) rfl))) (mvT hZ (hw _ (List.mem_of_getElem? (i := 21) rfl))) (notFace_of_selects (args := #[]) (mvT hZ (hw _ (List.mem_of_getElem? (i := 23) rfl)))) (mvT hZ (hw _ (List.mem_of_getElem? (i := 23) rfl))) (mvT hZ (hw _ (List.mem_of_getElem? (i := 22) rfl))) (by decide) (backOf (W := 0) (rm2f l Z a0 hw [] b5 fa .null ww (0 : Int32) φ9 T9.heap n0 Z_10 A5_9 Fa9 Fb9 Fc9 Fd9 Fe9 V9x ne_r_fa g_b5 g_fa w1 w4 (by decide) (by decide)) hZ (hw _ (List.mem_of_getElem? (i := 24) rfl)) (hw _ (List.mem_of_getElem? (i := 2) rfl)) (by decide) (by decide)) q13a q13c (g := (mkF m 36 #[.val (.int p1), .val (.int p2), .val (.int p3), .val (.int p4), .val (.int p5), .val (.int p6), .val (.int ww), .val (.int (0 : Int32)), .val (.ref b5), .unset, .unset, .unset, .unset, .unset, .unset, .unset, .unset, .unset, .unset, .unset, .unset] [(.ref b5)])) rfl (by rw [hml]; rfl) (Steps.refl _) (argsL := []) (rest := []) (lenOf pd___I rfl) rfl (by show 2 * 0 + _ ≤ _; exact Nat.le_of_eq rfl) (hb hby at_36) (fun _ _ => ⟨rfl, rfl, (by decide : 2 + 0 ≤ _), (by decide : 69 + 0 ≤ _)⟩)
    dsimp only [Pt.U, Pt.locs, Pt.cells, Pt.slots] at X13 l13 y13 z13 st13 hQ13
    subst l13 y13 z13
    obtain ⟨rfl, N13q, K13, E13x, Fa13, Fb13, Fc13, Fd13, Fe13, V13x⟩ := hQ13
    have OL_13 := OL_9.keep K13 (allS g_b5 (allS g_fa all0))
    have A5_13 := A5_9.keep K13
    have Z_14 : n0 ≤ T13.heap.size := Nat.le_trans Z_10 K13.1
    obtain ⟨φ13, hφ13⟩ : ∃ z, z = own_fill φ9 (ww * (0 : Int32)).toInt (ww * ((0 : Int32) + (1 : Int32))).toInt (-1 : Int32) := ⟨_, rfl⟩
    rw [← hφ13] at V13x
    have N13 := Fr.app N9 N13q
    have P15 : ∀ t, Steps p.tables e below (T13.setTop (mkF m 39 #[.val (.int p1), .val (.int p2), .val (.int p3), .val (.int p4), .val (.int p5), .val (.int p6), .val (.int ww), .val (.int (0 : Int32)), .val (.ref b5), .unset, .unset, .unset, .unset, .unset, .unset, .unset, .unset, .unset, .unset, .unset, .unset] [(.int (0 : Int32))])) t → Steps p.tables e below (s₁.setTop (mkF m 0 #[.val (.int p1), .val (.int p2), .val (.int p3), .val (.int p4), .val (.int p5), .val (.int p6), .unset, .unset, .unset, .unset, .unset, .unset, .unset, .unset, .unset, .unset, .unset, .unset, .unset, .unset, .unset] [])) t := fun t k => P12 t (st13.trans k)
    have P16 : ∀ t, Steps p.tables e below (T13.setTop (mkF m 43 #[.val (.int p1), .val (.int p2), .val (.int p3), .val (.int p4), .val (.int p5), .val (.int p6), .val (.int ww), .val (.int (0 : Int32)), .val (.ref b5), .val (.int (0 : Int32)), .unset, .unset, .unset, .unset, .unset, .unset, .unset, .unset, .unset, .unset, .unset] [(.ref b5)])) t → Steps p.tables e below (s₁.setTop (mkF m 0 #[.val (.int p1), .val (.int p2), .val (.int p3), .val (.int p4), .val (.int p5), .val (.int p6), .unset, .unset, .unset, .unset, .unset, .unset, .unset, .unset, .unset, .unset, .unset, .unset, .unset, .unset, .unset] [])) t := fun t k => by
      refine P15 t ?_
      show Steps p.tables e below (T13.setTop (mkF m 39 #[.val (.int p1), .val (.int p2), .val (.int p3), .val (.int p4), .val (.int p5), .val (.int p6), .val (.int ww), .val (.int (0 : Int32)), .val (.ref b5), .unset, .unset, .unset, .unset, .unset, .unset, .unset, .unset, .unset, .unset, .unset, .unset] [(.int (0 : Int32))])) t
      refine XS.istore X13.here hx rfl (hb hby at_39) rfl (l' := #[.val (.int p1), .val (.int p2), .val (.int p3), .val (.int p4), .val (.int p5), .val (.int p6), .val (.int ww), .val (.int (0 : Int32)), .val (.ref b5), .val (.int (0 : Int32)), .unset, .unset, .unset, .unset, .unset, .unset, .unset, .unset, .unset, .unset, .unset]) rfl ?_
      show Steps p.tables e below (T13.setTop (mkF m 41 #[.val (.int p1), .val (.int p2), .val (.int p3), .val (.int p4), .val (.int p5), .val (.int p6), .val (.int ww), .val (.int (0 : Int32)), .val (.ref b5), .val (.int (0 : Int32)), .unset, .unset, .unset, .unset, .unset, .unset, .unset, .unset, .unset, .unset, .unset] [])) t
      refine XS.aload X13.here hx rfl (hb hby at_41) rfl rfl ?_
      exact k
    obtain ⟨cq17, kq17, q17a, q17b, q17c⟩ := isOf hZ rfl A5_13
    obtain ⟨_, _, ⟨T17, L17, k17, n17⟩, -, X17, ⟨Lc17, hQ17, l17, y17, z17⟩, st17⟩ := X13.virtualBack hx (y := (⟨"com/example/weftwork/weftwork/Rows", "make", "()I"⟩ : MethodName)) (z := (⟨"com/example/weftwork/weftwork/Rows", "make", "()I"⟩ : MethodName)) hown (mvT hZ (hw _ (List.mem_of_getElem? (i := 20) rfl))) (mvT hZ (hw _ (List.mem_of_getElem? (i := 21) rfl))) (notFace_of_selects (args := #[]) (mvT hZ (hw _ (List.mem_of_getElem? (i := 23) rfl)))) (mvT hZ (hw _ (List.mem_of_getElem? (i := 23) rfl))) (mvT hZ (hw _ (List.mem_of_getElem? (i := 22) rfl))) (by decide) (backOf (W := 0) (rm2f l Z a0 hw [] b5 fa .null ww ((0 : Int32) + (1 : Int32)) φ13 T13.heap n0 Z_14 A5_13 Fa13 Fb13 Fc13 Fd13 Fe13 V13x ne_r_fa g_b5 g_fa w1 w4 (by decide) (by decide)) hZ (hw _ (List.mem_of_getElem? (i := 24) rfl)) (hw _ (List.mem_of_getElem? (i := 2) rfl)) (by decide) (by decide)) q17a q17c (g := (mkF m 43 #[.val (.int p1), .val (.int p2), .val (.int p3), .val (.int p4), .val (.int p5), .val (.int p6), .val (.int ww), .val (.int (0 : Int32)), .val (.ref b5), .val (.int (0 : Int32)), .unset, .unset, .unset, .unset, .unset, .unset, .unset, .unset, .unset, .unset, .unset] [(.ref b5)])) rfl (by rw [hml]; rfl) (Steps.refl _) (argsL := []) (rest := []) (lenOf pd___I rfl) rfl (by show 2 * 0 + _ ≤ _; exact Nat.le_of_eq rfl) (hb hby at_43) (fun _ _ => ⟨rfl, rfl, (by decide : 2 + 0 ≤ _), (by decide : 69 + 0 ≤ _)⟩)
    dsimp only [Pt.U, Pt.locs, Pt.cells, Pt.slots] at X17 l17 y17 z17 st17 hQ17
    subst l17 y17 z17
    obtain ⟨rfl, N17q, K17, E17x, Fa17, Fb17, Fc17, Fd17, Fe17, V17x⟩ := hQ17
    have OL_17 := OL_13.keep K17 (allS g_b5 (allS g_fa all0))
    have A5_17 := A5_13.keep K17
    have Z_18 : n0 ≤ T17.heap.size := Nat.le_trans Z_14 K17.1
    obtain ⟨φ17, hφ17⟩ : ∃ z, z = own_fill φ13 (ww * ((0 : Int32) + (1 : Int32))).toInt (ww * (((0 : Int32) + (1 : Int32)) + (1 : Int32))).toInt (-1 : Int32) := ⟨_, rfl⟩
    rw [← hφ17] at V17x
    have N17 := Fr.app N13 N17q
    have P19 : ∀ t, Steps p.tables e below (T17.setTop (mkF m 46 #[.val (.int p1), .val (.int p2), .val (.int p3), .val (.int p4), .val (.int p5), .val (.int p6), .val (.int ww), .val (.int (0 : Int32)), .val (.ref b5), .val (.int (0 : Int32)), .unset, .unset, .unset, .unset, .unset, .unset, .unset, .unset, .unset, .unset, .unset] [(.int ((0 : Int32) + (1 : Int32)))])) t → Steps p.tables e below (s₁.setTop (mkF m 0 #[.val (.int p1), .val (.int p2), .val (.int p3), .val (.int p4), .val (.int p5), .val (.int p6), .unset, .unset, .unset, .unset, .unset, .unset, .unset, .unset, .unset, .unset, .unset, .unset, .unset, .unset, .unset] [])) t := fun t k => P16 t (st17.trans k)
    have P20 : ∀ t, Steps p.tables e below (T17.setTop (mkF m 50 #[.val (.int p1), .val (.int p2), .val (.int p3), .val (.int p4), .val (.int p5), .val (.int p6), .val (.int ww), .val (.int (0 : Int32)), .val (.ref b5), .val (.int (0 : Int32)), .val (.int ((0 : Int32) + (1 : Int32))), .unset, .unset, .unset, .unset, .unset, .unset, .unset, .unset, .unset, .unset] [(.ref b5)])) t → Steps p.tables e below (s₁.setTop (mkF m 0 #[.val (.int p1), .val (.int p2), .val (.int p3), .val (.int p4), .val (.int p5), .val (.int p6), .unset, .unset, .unset, .unset, .unset, .unset, .unset, .unset, .unset, .unset, .unset, .unset, .unset, .unset, .unset] [])) t := fun t k => by
      refine P19 t ?_
      show Steps p.tables e below (T17.setTop (mkF m 46 #[.val (.int p1), .val (.int p2), .val (.int p3), .val (.int p4), .val (.int p5), .val (.int p6), .val (.int ww), .val (.int (0 : Int32)), .val (.ref b5), .val (.int (0 : Int32)), .unset, .unset, .unset, .unset, .unset, .unset, .unset, .unset, .unset, .unset, .unset] [(.int ((0 : Int32) + (1 : Int32)))])) t
      refine XS.istore X17.here hx rfl (hb hby at_46) rfl (l' := #[.val (.int p1), .val (.int p2), .val (.int p3), .val (.int p4), .val (.int p5), .val (.int p6), .val (.int ww), .val (.int (0 : Int32)), .val (.ref b5), .val (.int (0 : Int32)), .val (.int ((0 : Int32) + (1 : Int32))), .unset, .unset, .unset, .unset, .unset, .unset, .unset, .unset, .unset, .unset]) rfl ?_
      show Steps p.tables e below (T17.setTop (mkF m 48 #[.val (.int p1), .val (.int p2), .val (.int p3), .val (.int p4), .val (.int p5), .val (.int p6), .val (.int ww), .val (.int (0 : Int32)), .val (.ref b5), .val (.int (0 : Int32)), .val (.int ((0 : Int32) + (1 : Int32))), .unset, .unset, .unset, .unset, .unset, .unset, .unset, .unset, .unset, .unset] [])) t
      refine XS.aload X17.here hx rfl (hb hby at_48) rfl rfl ?_
      exact k
    obtain ⟨cq21, kq21, q21a, q21b, q21c⟩ := isOf hZ rfl A5_17
    obtain ⟨_, _, ⟨T21, L21, k21, n21⟩, -, X21, ⟨Lc21, hQ21, l21, y21, z21⟩, st21⟩ := X17.virtualBack hx (y := (⟨"com/example/weftwork/weftwork/Rows", "make", "()I"⟩ : MethodName)) (z := (⟨"com/example/weftwork/weftwork/Rows", "make", "()I"⟩ : MethodName)) hown (mvT hZ (hw _ (List.mem_of_getElem? (i := 20) rfl))) (mvT hZ (hw _ (List.mem_of_getElem? (i := 21) rfl))) (notFace_of_selects (args := #[]) (mvT hZ (hw _ (List.mem_of_getElem? (i := 23) rfl)))) (mvT hZ (hw _ (List.mem_of_getElem? (i := 23) rfl))) (mvT hZ (hw _ (List.mem_of_getElem? (i := 22) rfl))) (by decide) (backOf (W := 0) (rm2f l Z a0 hw [] b5 fa .null ww (((0 : Int32) + (1 : Int32)) + (1 : Int32)) φ17 T17.heap n0 Z_18 A5_17 Fa17 Fb17 Fc17 Fd17 Fe17 V17x ne_r_fa g_b5 g_fa w1 w4 (by decide) (by decide)) hZ (hw _ (List.mem_of_getElem? (i := 24) rfl)) (hw _ (List.mem_of_getElem? (i := 2) rfl)) (by decide) (by decide)) q21a q21c (g := (mkF m 50 #[.val (.int p1), .val (.int p2), .val (.int p3), .val (.int p4), .val (.int p5), .val (.int p6), .val (.int ww), .val (.int (0 : Int32)), .val (.ref b5), .val (.int (0 : Int32)), .val (.int ((0 : Int32) + (1 : Int32))), .unset, .unset, .unset, .unset, .unset, .unset, .unset, .unset, .unset, .unset] [(.ref b5)])) rfl (by rw [hml]; rfl) (Steps.refl _) (argsL := []) (rest := []) (lenOf pd___I rfl) rfl (by show 2 * 0 + _ ≤ _; exact Nat.le_of_eq rfl) (hb hby at_50) (fun _ _ => ⟨rfl, rfl, (by decide : 2 + 0 ≤ _), (by decide : 69 + 0 ≤ _)⟩)
    dsimp only [Pt.U, Pt.locs, Pt.cells, Pt.slots] at X21 l21 y21 z21 st21 hQ21
    subst l21 y21 z21
    obtain ⟨rfl, N21q, K21, E21x, Fa21, Fb21, Fc21, Fd21, Fe21, V21x⟩ := hQ21
    have OL_21 := OL_17.keep K21 (allS g_b5 (allS g_fa all0))
    have A5_21 := A5_17.keep K21
    have Z_22 : n0 ≤ T21.heap.size := Nat.le_trans Z_18 K21.1
    obtain ⟨φ21, hφ21⟩ : ∃ z, z = own_fill φ17 (ww * (((0 : Int32) + (1 : Int32)) + (1 : Int32))).toInt (ww * ((((0 : Int32) + (1 : Int32)) + (1 : Int32)) + (1 : Int32))).toInt (-1 : Int32) := ⟨_, rfl⟩
    rw [← hφ21] at V21x
    have N21 := Fr.app N17 N21q
    have P23 : ∀ t, Steps p.tables e below (T21.setTop (mkF m 53 #[.val (.int p1), .val (.int p2), .val (.int p3), .val (.int p4), .val (.int p5), .val (.int p6), .val (.int ww), .val (.int (0 : Int32)), .val (.ref b5), .val (.int (0 : Int32)), .val (.int ((0 : Int32) + (1 : Int32))), .unset, .unset, .unset, .unset, .unset, .unset, .unset, .unset, .unset, .unset] [(.int (((0 : Int32) + (1 : Int32)) + (1 : Int32)))])) t → Steps p.tables e below (s₁.setTop (mkF m 0 #[.val (.int p1), .val (.int p2), .val (.int p3), .val (.int p4), .val (.int p5), .val (.int p6), .unset, .unset, .unset, .unset, .unset, .unset, .unset, .unset, .unset, .unset, .unset, .unset, .unset, .unset, .unset] [])) t := fun t k => P20 t (st21.trans k)
    have P24 : ∀ t, Steps p.tables e below (T21.setTop (mkF m 82 #[.val (.int p1), .val (.int p2), .val (.int p3), .val (.int p4), .val (.int p5), .val (.int p6), .val (.int ww), .val (.int (0 : Int32)), .val (.ref b5), .val (.int (0 : Int32)), .val (.int ((0 : Int32) + (1 : Int32))), .val (.int (((0 : Int32) + (1 : Int32)) + (1 : Int32))), .val (.int ((p2 &&& (2147483647 : Int32)) % (3 : Int32))), .unset, .unset, .unset, .unset, .unset, .unset, .unset, .unset] [])) t → Steps p.tables e below (s₁.setTop (mkF m 0 #[.val (.int p1), .val (.int p2), .val (.int p3), .val (.int p4), .val (.int p5), .val (.int p6), .unset, .unset, .unset, .unset, .unset, .unset, .unset, .unset, .unset, .unset, .unset, .unset, .unset, .unset, .unset] [])) t := fun t k => by
      refine P23 t ?_
      show Steps p.tables e below (T21.setTop (mkF m 53 #[.val (.int p1), .val (.int p2), .val (.int p3), .val (.int p4), .val (.int p5), .val (.int p6), .val (.int ww), .val (.int (0 : Int32)), .val (.ref b5), .val (.int (0 : Int32)), .val (.int ((0 : Int32) + (1 : Int32))), .unset, .unset, .unset, .unset, .unset, .unset, .unset, .unset, .unset, .unset] [(.int (((0 : Int32) + (1 : Int32)) + (1 : Int32)))])) t
      refine XS.istore X21.here hx rfl (hb hby at_53) rfl (l' := #[.val (.int p1), .val (.int p2), .val (.int p3), .val (.int p4), .val (.int p5), .val (.int p6), .val (.int ww), .val (.int (0 : Int32)), .val (.ref b5), .val (.int (0 : Int32)), .val (.int ((0 : Int32) + (1 : Int32))), .val (.int (((0 : Int32) + (1 : Int32)) + (1 : Int32))), .unset, .unset, .unset, .unset, .unset, .unset, .unset, .unset, .unset]) rfl ?_
      show Steps p.tables e below (T21.setTop (mkF m 55 #[.val (.int p1), .val (.int p2), .val (.int p3), .val (.int p4), .val (.int p5), .val (.int p6), .val (.int ww), .val (.int (0 : Int32)), .val (.ref b5), .val (.int (0 : Int32)), .val (.int ((0 : Int32) + (1 : Int32))), .val (.int (((0 : Int32) + (1 : Int32)) + (1 : Int32))), .unset, .unset, .unset, .unset, .unset, .unset, .unset, .unset, .unset] [])) t
      refine XS.iload X21.here hx rfl (hb hby at_55) rfl ?_
      show Steps p.tables e below (T21.setTop (mkF m 57 #[.val (.int p1), .val (.int p2), .val (.int p3), .val (.int p4), .val (.int p5), .val (.int p6), .val (.int ww), .val (.int (0 : Int32)), .val (.ref b5), .val (.int (0 : Int32)), .val (.int ((0 : Int32) + (1 : Int32))), .val (.int (((0 : Int32) + (1 : Int32)) + (1 : Int32))), .unset, .unset, .unset, .unset, .unset, .unset, .unset, .unset, .unset] [(.int (0 : Int32))])) t
      refine XS.ifNo X21.here hx rfl (hb hby at_57) rfl ((if0 _ _).trans (teq rfl).2) ?_
      show Steps p.tables e below (T21.setTop (mkF m 60 #[.val (.int p1), .val (.int p2), .val (.int p3), .val (.int p4), .val (.int p5), .val (.int p6), .val (.int ww), .val (.int (0 : Int32)), .val (.ref b5), .val (.int (0 : Int32)), .val (.int ((0 : Int32) + (1 : Int32))), .val (.int (((0 : Int32) + (1 : Int32)) + (1 : Int32))), .unset, .unset, .unset, .unset, .unset, .unset, .unset, .unset, .unset] [])) t
      refine XS.iload X21.here hx rfl (hb hby at_60) rfl ?_
      show Steps p.tables e below (T21.setTop (mkF m 62 #[.val (.int p1), .val (.int p2), .val (.int p3), .val (.int p4), .val (.int p5), .val (.int p6), .val (.int ww), .val (.int (0 : Int32)), .val (.ref b5), .val (.int (0 : Int32)), .val (.int ((0 : Int32) + (1 : Int32))), .val (.int (((0 : Int32) + (1 : Int32)) + (1 : Int32))), .unset, .unset, .unset, .unset, .unset, .unset, .unset, .unset, .unset] [(.int ((0 : Int32) + (1 : Int32)))])) t
      refine XS.iconst X21.here hx rfl (hb hby at_62) ?_
      show Steps p.tables e below (T21.setTop (mkF m 63 #[.val (.int p1), .val (.int p2), .val (.int p3), .val (.int p4), .val (.int p5), .val (.int p6), .val (.int ww), .val (.int (0 : Int32)), .val (.ref b5), .val (.int (0 : Int32)), .val (.int ((0 : Int32) + (1 : Int32))), .val (.int (((0 : Int32) + (1 : Int32)) + (1 : Int32))), .unset, .unset, .unset, .unset, .unset, .unset, .unset, .unset, .unset] [(.int (1 : Int32)), (.int ((0 : Int32) + (1 : Int32)))])) t
      refine XS.icmpNo X21.here hx rfl (hb hby at_63) rfl (teq (by decide)).2 ?_
      show Steps p.tables e below (T21.setTop (mkF m 66 #[.val (.int p1), .val (.int p2), .val (.int p3), .val (.int p4), .val (.int p5), .val (.int p6), .val (.int ww), .val (.int (0 : Int32)), .val (.ref b5), .val (.int (0 : Int32)), .val (.int ((0 : Int32) + (1 : Int32))), .val (.int (((0 : Int32) + (1 : Int32)) + (1 : Int32))), .unset, .unset, .unset, .unset, .unset, .unset, .unset, .unset, .unset] [])) t
      refine XS.iload X21.here hx rfl (hb hby at_66) rfl ?_
      show Steps p.tables e below (T21.setTop (mkF m 68 #[.val (.int p1), .val (.int p2), .val (.int p3), .val (.int p4), .val (.int p5), .val (.int p6), .val (.int ww), .val (.int (0 : Int32)), .val (.ref b5), .val (.int (0 : Int32)), .val (.int ((0 : Int32) + (1 : Int32))), .val (.int (((0 : Int32) + (1 : Int32)) + (1 : Int32))), .unset, .unset, .unset, .unset, .unset, .unset, .unset, .unset, .unset] [(.int (((0 : Int32) + (1 : Int32)) + (1 : Int32)))])) t
      refine XS.iconst X21.here hx rfl (hb hby at_68) ?_
      show Steps p.tables e below (T21.setTop (mkF m 69 #[.val (.int p1), .val (.int p2), .val (.int p3), .val (.int p4), .val (.int p5), .val (.int p6), .val (.int ww), .val (.int (0 : Int32)), .val (.ref b5), .val (.int (0 : Int32)), .val (.int ((0 : Int32) + (1 : Int32))), .val (.int (((0 : Int32) + (1 : Int32)) + (1 : Int32))), .unset, .unset, .unset, .unset, .unset, .unset, .unset, .unset, .unset] [(.int (2 : Int32)), (.int (((0 : Int32) + (1 : Int32)) + (1 : Int32)))])) t
      refine XS.icmpYes X21.here hx rfl (pc0 := 69) (pc' := 74) rfl (hb hby at_69) rfl (teq (by decide)).1 (by decide) (by decide) ?_
      show Steps p.tables e below (T21.setTop (mkF m 74 #[.val (.int p1), .val (.int p2), .val (.int p3), .val (.int p4), .val (.int p5), .val (.int p6), .val (.int ww), .val (.int (0 : Int32)), .val (.ref b5), .val (.int (0 : Int32)), .val (.int ((0 : Int32) + (1 : Int32))), .val (.int (((0 : Int32) + (1 : Int32)) + (1 : Int32))), .unset, .unset, .unset, .unset, .unset, .unset, .unset, .unset, .unset] [])) t
      refine XS.iloadN X21.here hx rfl (hb hby at_74) rfl ?_
      show Steps p.tables e below (T21.setTop (mkF m 75 #[.val (.int p1), .val (.int p2), .val (.int p3), .val (.int p4), .val (.int p5), .val (.int p6), .val (.int ww), .val (.int (0 : Int32)), .val (.ref b5), .val (.int (0 : Int32)), .val (.int ((0 : Int32) + (1 : Int32))), .val (.int (((0 : Int32) + (1 : Int32)) + (1 : Int32))), .unset, .unset, .unset, .unset, .unset, .unset, .unset, .unset, .unset] [(.int p2)])) t
      refine X21.ldcInt hx hown (mvT hZ (hw _ (List.mem_of_getElem? (i := 34) rfl))) (g := (mkF m 75 #[.val (.int p1), .val (.int p2), .val (.int p3), .val (.int p4), .val (.int p5), .val (.int p6), .val (.int ww), .val (.int (0 : Int32)), .val (.ref b5), .val (.int (0 : Int32)), .val (.int ((0 : Int32) + (1 : Int32))), .val (.int (((0 : Int32) + (1 : Int32)) + (1 : Int32))), .unset, .unset, .unset, .unset, .unset, .unset, .unset, .unset, .unset] [(.int p2)])) rfl (hb hby at_75) _ ?_
      show Steps p.tables e below (T21.setTop (mkF m 77 #[.val (.int p1), .val (.int p2), .val (.int p3), .val (.int p4), .val (.int p5), .val (.int p6), .val (.int ww), .val (.int (0 : Int32)), .val (.ref b5), .val (.int (0 : Int32)), .val (.int ((0 : Int32) + (1 : Int32))), .val (.int (((0 : Int32) + (1 : Int32)) + (1 : Int32))), .unset, .unset, .unset, .unset, .unset, .unset, .unset, .unset, .unset] [(.int (2147483647 : Int32)), (.int p2)])) t
      refine XS.iand X21.here hx rfl (hb hby at_77) rfl ?_
      show Steps p.tables e below (T21.setTop (mkF m 78 #[.val (.int p1), .val (.int p2), .val (.int p3), .val (.int p4), .val (.int p5), .val (.int p6), .val (.int ww), .val (.int (0 : Int32)), .val (.ref b5), .val (.int (0 : Int32)), .val (.int ((0 : Int32) + (1 : Int32))), .val (.int (((0 : Int32) + (1 : Int32)) + (1 : Int32))), .unset, .unset, .unset, .unset, .unset, .unset, .unset, .unset, .unset] [(.int (p2 &&& (2147483647 : Int32)))])) t
      refine XS.iconst X21.here hx rfl (hb hby at_78) ?_
      show Steps p.tables e below (T21.setTop (mkF m 79 #[.val (.int p1), .val (.int p2), .val (.int p3), .val (.int p4), .val (.int p5), .val (.int p6), .val (.int ww), .val (.int (0 : Int32)), .val (.ref b5), .val (.int (0 : Int32)), .val (.int ((0 : Int32) + (1 : Int32))), .val (.int (((0 : Int32) + (1 : Int32)) + (1 : Int32))), .unset, .unset, .unset, .unset, .unset, .unset, .unset, .unset, .unset] [(.int (3 : Int32)), (.int (p2 &&& (2147483647 : Int32)))])) t
      refine iremM (g := (mkF m 79 #[.val (.int p1), .val (.int p2), .val (.int p3), .val (.int p4), .val (.int p5), .val (.int p6), .val (.int ww), .val (.int (0 : Int32)), .val (.ref b5), .val (.int (0 : Int32)), .val (.int ((0 : Int32) + (1 : Int32))), .val (.int (((0 : Int32) + (1 : Int32)) + (1 : Int32))), .unset, .unset, .unset, .unset, .unset, .unset, .unset, .unset, .unset] [(.int (3 : Int32)), (.int (p2 &&& (2147483647 : Int32)))])) X21 hx rfl (hb hby at_79) rfl (by decide) ?_
      show Steps p.tables e below (T21.setTop (mkF m 80 #[.val (.int p1), .val (.int p2), .val (.int p3), .val (.int p4), .val (.int p5), .val (.int p6), .val (.int ww), .val (.int (0 : Int32)), .val (.ref b5), .val (.int (0 : Int32)), .val (.int ((0 : Int32) + (1 : Int32))), .val (.int (((0 : Int32) + (1 : Int32)) + (1 : Int32))), .unset, .unset, .unset, .unset, .unset, .unset, .unset, .unset, .unset] [(.int ((p2 &&& (2147483647 : Int32)) % (3 : Int32)))])) t
      refine XS.istore X21.here hx rfl (hb hby at_80) rfl (l' := #[.val (.int p1), .val (.int p2), .val (.int p3), .val (.int p4), .val (.int p5), .val (.int p6), .val (.int ww), .val (.int (0 : Int32)), .val (.ref b5), .val (.int (0 : Int32)), .val (.int ((0 : Int32) + (1 : Int32))), .val (.int (((0 : Int32) + (1 : Int32)) + (1 : Int32))), .val (.int ((p2 &&& (2147483647 : Int32)) % (3 : Int32))), .unset, .unset, .unset, .unset, .unset, .unset, .unset, .unset]) rfl ?_
      exact k
    obtain ⟨ii, hv_ii⟩ : ∃ z, z = ((p2 &&& (2147483647 : Int32)) % (3 : Int32)) := ⟨_, rfl⟩
    rw [← hv_ii] at P24
    have i0 : 0 ≤ ii.toInt := by rw [hv_ii]; exact (own_i p2).1
    have i2 : ii.toInt ≤ 2 := by rw [hv_ii]; exact (own_i p2).2
    have P25 : ∀ t, Steps p.tables e below (T21.setTop (mkF m 94 #[.val (.int p1), .val (.int p2), .val (.int p3), .val (.int p4), .val (.int p5), .val (.int p6), .val (.int ww), .val (.int (0 : Int32)), .val (.ref b5), .val (.int (0 : Int32)), .val (.int ((0 : Int32) + (1 : Int32))), .val (.int (((0 : Int32) + (1 : Int32)) + (1 : Int32))), .val (.int ii), .val (.int (((ii + (1 : Int32)) + (p3 &&& (1 : Int32))) % (3 : Int32))), .unset, .unset, .unset, .unset, .unset, .unset, .unset] [])) t → Steps p.tables e below (s₁.setTop (mkF m 0 #[.val (.int p1), .val (.int p2), .val (.int p3), .val (.int p4), .val (.int p5), .val (.int p6), .unset, .unset, .unset, .unset, .unset, .unset, .unset, .unset, .unset, .unset, .unset, .unset, .unset, .unset, .unset] [])) t := fun t k => by
      refine P24 t ?_
      show Steps p.tables e below (T21.setTop (mkF m 82 #[.val (.int p1), .val (.int p2), .val (.int p3), .val (.int p4), .val (.int p5), .val (.int p6), .val (.int ww), .val (.int (0 : Int32)), .val (.ref b5), .val (.int (0 : Int32)), .val (.int ((0 : Int32) + (1 : Int32))), .val (.int (((0 : Int32) + (1 : Int32)) + (1 : Int32))), .val (.int ii), .unset, .unset, .unset, .unset, .unset, .unset, .unset, .unset] [])) t
      refine XS.iload X21.here hx rfl (hb hby at_82) rfl ?_
      show Steps p.tables e below (T21.setTop (mkF m 84 #[.val (.int p1), .val (.int p2), .val (.int p3), .val (.int p4), .val (.int p5), .val (.int p6), .val (.int ww), .val (.int (0 : Int32)), .val (.ref b5), .val (.int (0 : Int32)), .val (.int ((0 : Int32) + (1 : Int32))), .val (.int (((0 : Int32) + (1 : Int32)) + (1 : Int32))), .val (.int ii), .unset, .unset, .unset, .unset, .unset, .unset, .unset, .unset] [(.int ii)])) t
      refine XS.iconst X21.here hx rfl (hb hby at_84) ?_
      show Steps p.tables e below (T21.setTop (mkF m 85 #[.val (.int p1), .val (.int p2), .val (.int p3), .val (.int p4), .val (.int p5), .val (.int p6), .val (.int ww), .val (.int (0 : Int32)), .val (.ref b5), .val (.int (0 : Int32)), .val (.int ((0 : Int32) + (1 : Int32))), .val (.int (((0 : Int32) + (1 : Int32)) + (1 : Int32))), .val (.int ii), .unset, .unset, .unset, .unset, .unset, .unset, .unset, .unset] [(.int (1 : Int32)), (.int ii)])) t
      refine XS.iadd X21.here hx rfl (hb hby at_85) rfl ?_
      show Steps p.tables e below (T21.setTop (mkF m 86 #[.val (.int p1), .val (.int p2), .val (.int p3), .val (.int p4), .val (.int p5), .val (.int p6), .val (.int ww), .val (.int (0 : Int32)), .val (.ref b5), .val (.int (0 : Int32)), .val (.int ((0 : Int32) + (1 : Int32))), .val (.int (((0 : Int32) + (1 : Int32)) + (1 : Int32))), .val (.int ii), .unset, .unset, .unset, .unset, .unset, .unset, .unset, .unset] [(.int (ii + (1 : Int32)))])) t
      refine XS.iloadN X21.here hx rfl (hb hby at_86) rfl ?_
      show Steps p.tables e below (T21.setTop (mkF m 87 #[.val (.int p1), .val (.int p2), .val (.int p3), .val (.int p4), .val (.int p5), .val (.int p6), .val (.int ww), .val (.int (0 : Int32)), .val (.ref b5), .val (.int (0 : Int32)), .val (.int ((0 : Int32) + (1 : Int32))), .val (.int (((0 : Int32) + (1 : Int32)) + (1 : Int32))), .val (.int ii), .unset, .unset, .unset, .unset, .unset, .unset, .unset, .unset] [(.int p3), (.int (ii + (1 : Int32)))])) t
      refine XS.iconst X21.here hx rfl (hb hby at_87) ?_
      show Steps p.tables e below (T21.setTop (mkF m 88 #[.val (.int p1), .val (.int p2), .val (.int p3), .val (.int p4), .val (.int p5), .val (.int p6), .val (.int ww), .val (.int (0 : Int32)), .val (.ref b5), .val (.int (0 : Int32)), .val (.int ((0 : Int32) + (1 : Int32))), .val (.int (((0 : Int32) + (1 : Int32)) + (1 : Int32))), .val (.int ii), .unset, .unset, .unset, .unset, .unset, .unset, .unset, .unset] [(.int (1 : Int32)), (.int p3), (.int (ii + (1 : Int32)))])) t
      refine XS.iand X21.here hx rfl (hb hby at_88) rfl ?_
      show Steps p.tables e below (T21.setTop (mkF m 89 #[.val (.int p1), .val (.int p2), .val (.int p3), .val (.int p4), .val (.int p5), .val (.int p6), .val (.int ww), .val (.int (0 : Int32)), .val (.ref b5), .val (.int (0 : Int32)), .val (.int ((0 : Int32) + (1 : Int32))), .val (.int (((0 : Int32) + (1 : Int32)) + (1 : Int32))), .val (.int ii), .unset, .unset, .unset, .unset, .unset, .unset, .unset, .unset] [(.int (p3 &&& (1 : Int32))), (.int (ii + (1 : Int32)))])) t
      refine XS.iadd X21.here hx rfl (hb hby at_89) rfl ?_
      show Steps p.tables e below (T21.setTop (mkF m 90 #[.val (.int p1), .val (.int p2), .val (.int p3), .val (.int p4), .val (.int p5), .val (.int p6), .val (.int ww), .val (.int (0 : Int32)), .val (.ref b5), .val (.int (0 : Int32)), .val (.int ((0 : Int32) + (1 : Int32))), .val (.int (((0 : Int32) + (1 : Int32)) + (1 : Int32))), .val (.int ii), .unset, .unset, .unset, .unset, .unset, .unset, .unset, .unset] [(.int ((ii + (1 : Int32)) + (p3 &&& (1 : Int32))))])) t
      refine XS.iconst X21.here hx rfl (hb hby at_90) ?_
      show Steps p.tables e below (T21.setTop (mkF m 91 #[.val (.int p1), .val (.int p2), .val (.int p3), .val (.int p4), .val (.int p5), .val (.int p6), .val (.int ww), .val (.int (0 : Int32)), .val (.ref b5), .val (.int (0 : Int32)), .val (.int ((0 : Int32) + (1 : Int32))), .val (.int (((0 : Int32) + (1 : Int32)) + (1 : Int32))), .val (.int ii), .unset, .unset, .unset, .unset, .unset, .unset, .unset, .unset] [(.int (3 : Int32)), (.int ((ii + (1 : Int32)) + (p3 &&& (1 : Int32))))])) t
      refine iremM (g := (mkF m 91 #[.val (.int p1), .val (.int p2), .val (.int p3), .val (.int p4), .val (.int p5), .val (.int p6), .val (.int ww), .val (.int (0 : Int32)), .val (.ref b5), .val (.int (0 : Int32)), .val (.int ((0 : Int32) + (1 : Int32))), .val (.int (((0 : Int32) + (1 : Int32)) + (1 : Int32))), .val (.int ii), .unset, .unset, .unset, .unset, .unset, .unset, .unset, .unset] [(.int (3 : Int32)), (.int ((ii + (1 : Int32)) + (p3 &&& (1 : Int32))))])) X21 hx rfl (hb hby at_91) rfl (by decide) ?_
      show Steps p.tables e below (T21.setTop (mkF m 92 #[.val (.int p1), .val (.int p2), .val (.int p3), .val (.int p4), .val (.int p5), .val (.int p6), .val (.int ww), .val (.int (0 : Int32)), .val (.ref b5), .val (.int (0 : Int32)), .val (.int ((0 : Int32) + (1 : Int32))), .val (.int (((0 : Int32) + (1 : Int32)) + (1 : Int32))), .val (.int ii), .unset, .unset, .unset, .unset, .unset, .unset, .unset, .unset] [(.int (((ii + (1 : Int32)) + (p3 &&& (1 : Int32))) % (3 : Int32)))])) t
      refine XS.istore X21.here hx rfl (hb hby at_92) rfl (l' := #[.val (.int p1), .val (.int p2), .val (.int p3), .val (.int p4), .val (.int p5), .val (.int p6), .val (.int ww), .val (.int (0 : Int32)), .val (.ref b5), .val (.int (0 : Int32)), .val (.int ((0 : Int32) + (1 : Int32))), .val (.int (((0 : Int32) + (1 : Int32)) + (1 : Int32))), .val (.int ii), .val (.int (((ii + (1 : Int32)) + (p3 &&& (1 : Int32))) % (3 : Int32))), .unset, .unset, .unset, .unset, .unset, .unset, .unset]) rfl ?_
      exact k
    obtain ⟨jj, hv_jj⟩ : ∃ z, z = (((ii + (1 : Int32)) + (p3 &&& (1 : Int32))) % (3 : Int32)) := ⟨_, rfl⟩
    rw [← hv_jj] at P25
    have j0 : 0 ≤ jj.toInt := by rw [hv_jj]; exact (own_j i0 i2).1
    have j2 : jj.toInt ≤ 2 := by rw [hv_jj]; exact (own_j i0 i2).2.1
    have hij : ii.toInt ≠ jj.toInt := by rw [hv_jj]; exact (own_j i0 i2).2.2
    have P26 : ∀ t, Steps p.tables e below (T21.setTop (mkF m 103 #[.val (.int p1), .val (.int p2), .val (.int p3), .val (.int p4), .val (.int p5), .val (.int p6), .val (.int ww), .val (.int (0 : Int32)), .val (.ref b5), .val (.int (0 : Int32)), .val (.int ((0 : Int32) + (1 : Int32))), .val (.int (((0 : Int32) + (1 : Int32)) + (1 : Int32))), .val (.int ii), .val (.int jj), .val (.int (((3 : Int32) - ii) - jj)), .unset, .unset, .unset, .unset, .unset, .unset] [])) t → Steps p.tables e below (s₁.setTop (mkF m 0 #[.val (.int p1), .val (.int p2), .val (.int p3), .val (.int p4), .val (.int p5), .val (.int p6), .unset, .unset, .unset, .unset, .unset, .unset, .unset, .unset, .unset, .unset, .unset, .unset, .unset, .unset, .unset] [])) t := fun t k => by
      refine P25 t ?_
      show Steps p.tables e below (T21.setTop (mkF m 94 #[.val (.int p1), .val (.int p2), .val (.int p3), .val (.int p4), .val (.int p5), .val (.int p6), .val (.int ww), .val (.int (0 : Int32)), .val (.ref b5), .val (.int (0 : Int32)), .val (.int ((0 : Int32) + (1 : Int32))), .val (.int (((0 : Int32) + (1 : Int32)) + (1 : Int32))), .val (.int ii), .val (.int jj), .unset, .unset, .unset, .unset, .unset, .unset, .unset] [])) t
      refine XS.iconst X21.here hx rfl (hb hby at_94) ?_
      show Steps p.tables e below (T21.setTop (mkF m 95 #[.val (.int p1), .val (.int p2), .val (.int p3), .val (.int p4), .val (.int p5), .val (.int p6), .val (.int ww), .val (.int (0 : Int32)), .val (.ref b5), .val (.int (0 : Int32)), .val (.int ((0 : Int32) + (1 : Int32))), .val (.int (((0 : Int32) + (1 : Int32)) + (1 : Int32))), .val (.int ii), .val (.int jj), .unset, .unset, .unset, .unset, .unset, .unset, .unset] [(.int (3 : Int32))])) t
      refine XS.iload X21.here hx rfl (hb hby at_95) rfl ?_
      show Steps p.tables e below (T21.setTop (mkF m 97 #[.val (.int p1), .val (.int p2), .val (.int p3), .val (.int p4), .val (.int p5), .val (.int p6), .val (.int ww), .val (.int (0 : Int32)), .val (.ref b5), .val (.int (0 : Int32)), .val (.int ((0 : Int32) + (1 : Int32))), .val (.int (((0 : Int32) + (1 : Int32)) + (1 : Int32))), .val (.int ii), .val (.int jj), .unset, .unset, .unset, .unset, .unset, .unset, .unset] [(.int ii), (.int (3 : Int32))])) t
      refine XS.isub X21.here hx rfl (hb hby at_97) rfl ?_
      show Steps p.tables e below (T21.setTop (mkF m 98 #[.val (.int p1), .val (.int p2), .val (.int p3), .val (.int p4), .val (.int p5), .val (.int p6), .val (.int ww), .val (.int (0 : Int32)), .val (.ref b5), .val (.int (0 : Int32)), .val (.int ((0 : Int32) + (1 : Int32))), .val (.int (((0 : Int32) + (1 : Int32)) + (1 : Int32))), .val (.int ii), .val (.int jj), .unset, .unset, .unset, .unset, .unset, .unset, .unset] [(.int ((3 : Int32) - ii))])) t
      refine XS.iload X21.here hx rfl (hb hby at_98) rfl ?_
      show Steps p.tables e below (T21.setTop (mkF m 100 #[.val (.int p1), .val (.int p2), .val (.int p3), .val (.int p4), .val (.int p5), .val (.int p6), .val (.int ww), .val (.int (0 : Int32)), .val (.ref b5), .val (.int (0 : Int32)), .val (.int ((0 : Int32) + (1 : Int32))), .val (.int (((0 : Int32) + (1 : Int32)) + (1 : Int32))), .val (.int ii), .val (.int jj), .unset, .unset, .unset, .unset, .unset, .unset, .unset] [(.int jj), (.int ((3 : Int32) - ii))])) t
      refine XS.isub X21.here hx rfl (hb hby at_100) rfl ?_
      show Steps p.tables e below (T21.setTop (mkF m 101 #[.val (.int p1), .val (.int p2), .val (.int p3), .val (.int p4), .val (.int p5), .val (.int p6), .val (.int ww), .val (.int (0 : Int32)), .val (.ref b5), .val (.int (0 : Int32)), .val (.int ((0 : Int32) + (1 : Int32))), .val (.int (((0 : Int32) + (1 : Int32)) + (1 : Int32))), .val (.int ii), .val (.int jj), .unset, .unset, .unset, .unset, .unset, .unset, .unset] [(.int (((3 : Int32) - ii) - jj))])) t
      refine XS.istore X21.here hx rfl (hb hby at_101) rfl (l' := #[.val (.int p1), .val (.int p2), .val (.int p3), .val (.int p4), .val (.int p5), .val (.int p6), .val (.int ww), .val (.int (0 : Int32)), .val (.ref b5), .val (.int (0 : Int32)), .val (.int ((0 : Int32) + (1 : Int32))), .val (.int (((0 : Int32) + (1 : Int32)) + (1 : Int32))), .val (.int ii), .val (.int jj), .val (.int (((3 : Int32) - ii) - jj)), .unset, .unset, .unset, .unset, .unset, .unset]) rfl ?_
      exact k
    obtain ⟨kk, hv_kk⟩ : ∃ z, z = (((3 : Int32) - ii) - jj) := ⟨_, rfl⟩
    rw [← hv_kk] at P26
    have hkk : kk.toInt = 3 - ii.toInt - jj.toInt := by rw [hv_kk]; exact own_k i0 i2 j0 j2
    have P27 : ∀ t, Steps p.tables e below (T21.setTop (mkF m 112 #[.val (.int p1), .val (.int p2), .val (.int p3), .val (.int p4), .val (.int p5), .val (.int p6), .val (.int ww), .val (.int (0 : Int32)), .val (.ref b5), .val (.int (0 : Int32)), .val (.int ((0 : Int32) + (1 : Int32))), .val (.int (((0 : Int32) + (1 : Int32)) + (1 : Int32))), .val (.int ii), .val (.int jj), .val (.int kk), .val (.int ((p4 &&& (2147483647 : Int32)) % ww)), .unset, .unset, .unset, .unset, .unset] [])) t → Steps p.tables e below (s₁.setTop (mkF m 0 #[.val (.int p1), .val (.int p2), .val (.int p3), .val (.int p4), .val (.int p5), .val (.int p6), .unset, .unset, .unset, .unset, .unset, .unset, .unset, .unset, .unset, .unset, .unset, .unset, .unset, .unset, .unset] [])) t := fun t k => by
      refine P26 t ?_
      show Steps p.tables e below (T21.setTop (mkF m 103 #[.val (.int p1), .val (.int p2), .val (.int p3), .val (.int p4), .val (.int p5), .val (.int p6), .val (.int ww), .val (.int (0 : Int32)), .val (.ref b5), .val (.int (0 : Int32)), .val (.int ((0 : Int32) + (1 : Int32))), .val (.int (((0 : Int32) + (1 : Int32)) + (1 : Int32))), .val (.int ii), .val (.int jj), .val (.int kk), .unset, .unset, .unset, .unset, .unset, .unset] [])) t
      refine XS.iloadN X21.here hx rfl (hb hby at_103) rfl ?_
      show Steps p.tables e below (T21.setTop (mkF m 104 #[.val (.int p1), .val (.int p2), .val (.int p3), .val (.int p4), .val (.int p5), .val (.int p6), .val (.int ww), .val (.int (0 : Int32)), .val (.ref b5), .val (.int (0 : Int32)), .val (.int ((0 : Int32) + (1 : Int32))), .val (.int (((0 : Int32) + (1 : Int32)) + (1 : Int32))), .val (.int ii), .val (.int jj), .val (.int kk), .unset, .unset, .unset, .unset, .unset, .unset] [(.int p4)])) t
      refine X21.ldcInt hx hown (mvT hZ (hw _ (List.mem_of_getElem? (i := 34) rfl))) (g := (mkF m 104 #[.val (.int p1), .val (.int p2), .val (.int p3), .val (.int p4), .val (.int p5), .val (.int p6), .val (.int ww), .val (.int (0 : Int32)), .val (.ref b5), .val (.int (0 : Int32)), .val (.int ((0 : Int32) + (1 : Int32))), .val (.int (((0 : Int32) + (1 : Int32)) + (1 : Int32))), .val (.int ii), .val (.int jj), .val (.int kk), .unset, .unset, .unset, .unset, .unset, .unset] [(.int p4)])) rfl (hb hby at_104) _ ?_
      show Steps p.tables e below (T21.setTop (mkF m 106 #[.val (.int p1), .val (.int p2), .val (.int p3), .val (.int p4), .val (.int p5), .val (.int p6), .val (.int ww), .val (.int (0 : Int32)), .val (.ref b5), .val (.int (0 : Int32)), .val (.int ((0 : Int32) + (1 : Int32))), .val (.int (((0 : Int32) + (1 : Int32)) + (1 : Int32))), .val (.int ii), .val (.int jj), .val (.int kk), .unset, .unset, .unset, .unset, .unset, .unset] [(.int (2147483647 : Int32)), (.int p4)])) t
      refine XS.iand X21.here hx rfl (hb hby at_106) rfl ?_
      show Steps p.tables e below (T21.setTop (mkF m 107 #[.val (.int p1), .val (.int p2), .val (.int p3), .val (.int p4), .val (.int p5), .val (.int p6), .val (.int ww), .val (.int (0 : Int32)), .val (.ref b5), .val (.int (0 : Int32)), .val (.int ((0 : Int32) + (1 : Int32))), .val (.int (((0 : Int32) + (1 : Int32)) + (1 : Int32))), .val (.int ii), .val (.int jj), .val (.int kk), .unset, .unset, .unset, .unset, .unset, .unset] [(.int (p4 &&& (2147483647 : Int32)))])) t
      refine XS.iload X21.here hx rfl (hb hby at_107) rfl ?_
      show Steps p.tables e below (T21.setTop (mkF m 109 #[.val (.int p1), .val (.int p2), .val (.int p3), .val (.int p4), .val (.int p5), .val (.int p6), .val (.int ww), .val (.int (0 : Int32)), .val (.ref b5), .val (.int (0 : Int32)), .val (.int ((0 : Int32) + (1 : Int32))), .val (.int (((0 : Int32) + (1 : Int32)) + (1 : Int32))), .val (.int ii), .val (.int jj), .val (.int kk), .unset, .unset, .unset, .unset, .unset, .unset] [(.int ww), (.int (p4 &&& (2147483647 : Int32)))])) t
      refine iremM (g := (mkF m 109 #[.val (.int p1), .val (.int p2), .val (.int p3), .val (.int p4), .val (.int p5), .val (.int p6), .val (.int ww), .val (.int (0 : Int32)), .val (.ref b5), .val (.int (0 : Int32)), .val (.int ((0 : Int32) + (1 : Int32))), .val (.int (((0 : Int32) + (1 : Int32)) + (1 : Int32))), .val (.int ii), .val (.int jj), .val (.int kk), .unset, .unset, .unset, .unset, .unset, .unset] [(.int ww), (.int (p4 &&& (2147483647 : Int32)))])) X21 hx rfl (hb hby at_109) rfl hww0 ?_
      show Steps p.tables e below (T21.setTop (mkF m 110 #[.val (.int p1), .val (.int p2), .val (.int p3), .val (.int p4), .val (.int p5), .val (.int p6), .val (.int ww), .val (.int (0 : Int32)), .val (.ref b5), .val (.int (0 : Int32)), .val (.int ((0 : Int32) + (1 : Int32))), .val (.int (((0 : Int32) + (1 : Int32)) + (1 : Int32))), .val (.int ii), .val (.int jj), .val (.int kk), .unset, .unset, .unset, .unset, .unset, .unset] [(.int ((p4 &&& (2147483647 : Int32)) % ww))])) t
      refine XS.istore X21.here hx rfl (hb hby at_110) rfl (l' := #[.val (.int p1), .val (.int p2), .val (.int p3), .val (.int p4), .val (.int p5), .val (.int p6), .val (.int ww), .val (.int (0 : Int32)), .val (.ref b5), .val (.int (0 : Int32)), .val (.int ((0 : Int32) + (1 : Int32))), .val (.int (((0 : Int32) + (1 : Int32)) + (1 : Int32))), .val (.int ii), .val (.int jj), .val (.int kk), .val (.int ((p4 &&& (2147483647 : Int32)) % ww)), .unset, .unset, .unset, .unset, .unset]) rfl ?_
      exact k
    obtain ⟨ff, hv_ff⟩ : ∃ z, z = ((p4 &&& (2147483647 : Int32)) % ww) := ⟨_, rfl⟩
    rw [← hv_ff] at P27
    have f0 : 0 ≤ ff.toInt := by rw [hv_ff]; exact (own_f w1).1
    have f1 : ff.toInt < ww.toInt := by rw [hv_ff]; exact (own_f w1).2
    have hx1 := own_ixb (k := kk) w1 w4 (by omega) (by omega) f0 f1
    have ex : ((ww * kk) + ff).toInt = ww.toInt * kk.toInt + ff.toInt := own_ix w1 w4 (by omega) (by omega) f0 f1
    have ei : (ww * ii).toInt = ww.toInt * ii.toInt := own_wr w1 w4 i0 (by omega)
    have ei1 : (ww * (ii + (1 : Int32))).toInt = ww.toInt * (ii.toInt + 1) := by rw [own_wr w1 w4 (by rw [own_add rfl (q := 1) rfl (by omega) (by omega)]; omega) (by rw [own_add rfl (q := 1) rfl (by omega) (by omega)]; omega), own_add rfl (q := 1) rfl (by omega) (by omega)]
    have hi1 : ¬ ii = (-1 : Int32) := fun q => by rw [q] at i0; exact absurd i0 (by decide)
    have ej : (ww * jj).toInt = ww.toInt * jj.toInt := own_wr w1 w4 j0 (by omega)
    have ej1 : (ww * (jj + (1 : Int32))).toInt = ww.toInt * (jj.toInt + 1) := by rw [own_wr w1 w4 (by rw [own_add rfl (q := 1) rfl (by omega) (by omega)]; omega) (by rw [own_add rfl (q := 1) rfl (by omega) (by omega)]; omega), own_add rfl (q := 1) rfl (by omega) (by omega)]
    have hj1 : ¬ jj = (-1 : Int32) := fun q => by rw [q] at j0; exact absurd j0 (by decide)
    have P28 : ∀ t, Steps p.tables e below (T21.setTop (mkF m 120 #[.val (.int p1), .val (.int p2), .val (.int p3), .val (.int p4), .val (.int p5), .val (.int p6), .val (.int ww), .val (.int (0 : Int32)), .val (.ref b5), .val (.int (0 : Int32)), .val (.int ((0 : Int32) + (1 : Int32))), .val (.int (((0 : Int32) + (1 : Int32)) + (1 : Int32))), .val (.int ii), .val (.int jj), .val (.int kk), .val (.int ff), .unset, .unset, .unset, .unset, .unset] [(.int p5), (.int ff), (.int kk), (.ref b5)])) t → Steps p.tables e below (s₁.setTop (mkF m 0 #[.val (.int p1), .val (.int p2), .val (.int p3), .val (.int p4), .val (.int p5), .val (.int p6), .unset, .unset, .unset, .unset, .unset, .unset, .unset, .unset, .unset, .unset, .unset, .unset, .unset, .unset, .unset] [])) t := fun t k => by
      refine P27 t ?_
      show Steps p.tables e below (T21.setTop (mkF m 112 #[.val (.int p1), .val (.int p2), .val (.int p3), .val (.int p4), .val (.int p5), .val (.int p6), .val (.int ww), .val (.int (0 : Int32)), .val (.ref b5), .val (.int (0 : Int32)), .val (.int ((0 : Int32) + (1 : Int32))), .val (.int (((0 : Int32) + (1 : Int32)) + (1 : Int32))), .val (.int ii), .val (.int jj), .val (.int kk), .val (.int ff), .unset, .unset, .unset, .unset, .unset] [])) t
      refine XS.aload X21.here hx rfl (hb hby at_112) rfl rfl ?_
      show Steps p.tables e below (T21.setTop (mkF m 114 #[.val (.int p1), .val (.int p2), .val (.int p3), .val (.int p4), .val (.int p5), .val (.int p6), .val (.int ww), .val (.int (0 : Int32)), .val (.ref b5), .val (.int (0 : Int32)), .val (.int ((0 : Int32) + (1 : Int32))), .val (.int (((0 : Int32) + (1 : Int32)) + (1 : Int32))), .val (.int ii), .val (.int jj), .val (.int kk), .val (.int ff), .unset, .unset, .unset, .unset, .unset] [(.ref b5)])) t
      refine XS.iload X21.here hx rfl (hb hby at_114) rfl ?_
      show Steps p.tables e below (T21.setTop (mkF m 116 #[.val (.int p1), .val (.int p2), .val (.int p3), .val (.int p4), .val (.int p5), .val (.int p6), .val (.int ww), .val (.int (0 : Int32)), .val (.ref b5), .val (.int (0 : Int32)), .val (.int ((0 : Int32) + (1 : Int32))), .val (.int (((0 : Int32) + (1 : Int32)) + (1 : Int32))), .val (.int ii), .val (.int jj), .val (.int kk), .val (.int ff), .unset, .unset, .unset, .unset, .unset] [(.int kk), (.ref b5)])) t
      refine XS.iload X21.here hx rfl (hb hby at_116) rfl ?_
      show Steps p.tables e below (T21.setTop (mkF m 118 #[.val (.int p1), .val (.int p2), .val (.int p3), .val (.int p4), .val (.int p5), .val (.int p6), .val (.int ww), .val (.int (0 : Int32)), .val (.ref b5), .val (.int (0 : Int32)), .val (.int ((0 : Int32) + (1 : Int32))), .val (.int (((0 : Int32) + (1 : Int32)) + (1 : Int32))), .val (.int ii), .val (.int jj), .val (.int kk), .val (.int ff), .unset, .unset, .unset, .unset, .unset] [(.int ff), (.int kk), (.ref b5)])) t
      refine XS.iload X21.here hx rfl (hb hby at_118) rfl ?_
      exact k
    obtain ⟨cq29, kq29, q29a, q29b, q29c⟩ := isOf hZ rfl A5_21
    obtain ⟨_, _, ⟨T29, L29, k29, n29⟩, -, X29, ⟨Lc29, hQ29, l29, y29, z29⟩, st29⟩ := X21.virtualBack hx (y := (⟨"com/example/weftwork/weftwork/Rows", "set", "(III)V"⟩ : MethodName)) (z := (⟨"com/example/weftwork/weftwork/Rows", "set", "(III)V"⟩ : MethodName)) hown (mvT hZ (hw _ (List.mem_of_getElem? (i := 35) rfl))) (mvT hZ (hw _ (List.mem_of_getElem? (i := 36) rfl))) (notFace_of_selects (args := #[]) (mvT hZ (hw _ (List.mem_of_getElem? (i := 38) rfl)))) (mvT hZ (hw _ (List.mem_of_getElem? (i := 38) rfl))) (mvT hZ (hw _ (List.mem_of_getElem? (i := 37) rfl))) (by decide) (backOf (W := 0) (rm3 l Z a0 hw [] b5 fa kk ff p5 ww φ21 T21.heap n0 Z_22 Fb21 Fc21 V21x hx1.1 hx1.2 ne_r_fa g_fa) hZ (hw _ (List.mem_of_getElem? (i := 39) rfl)) (hw _ (List.mem_of_getElem? (i := 2) rfl)) (by decide) (by decide)) q29a q29c (g := (mkF m 120 #[.val (.int p1), .val (.int p2), .val (.int p3), .val (.int p4), .val (.int p5), .val (.int p6), .val (.int ww), .val (.int (0 : Int32)), .val (.ref b5), .val (.int (0 : Int32)), .val (.int ((0 : Int32) + (1 : Int32))), .val (.int (((0 : Int32) + (1 : Int32)) + (1 : Int32))), .val (.int ii), .val (.int jj), .val (.int kk), .val (.int ff), .unset, .unset, .unset, .unset, .unset] [(.int p5), (.int ff), (.int kk), (.ref b5)])) rfl (by rw [hml]; rfl) (Steps.refl _) (argsL := [(.int kk), (.int ff), (.int p5)]) (rest := []) (lenOf pd__III_V rfl) rfl (by show 2 * 0 + _ ≤ _; exact Nat.le_of_eq rfl) (hb hby at_120) (fun _ _ => ⟨rfl, rfl, (by decide : 2 + 0 ≤ _), (by decide : 69 + 0 ≤ _)⟩)
    dsimp only [Pt.U, Pt.locs, Pt.cells, Pt.slots] at X29 l29 y29 z29 st29 hQ29
    subst l29 y29 z29
    obtain ⟨rfl, N29q, K29, V29x⟩ := hQ29
    have OL_29 := OL_21.keep K29 (allS g_fa all0)
    have A5_29 := A5_21.keep K29
    have Fa21_29 := Fa21.keep K29 (ninS ne_r_fa nin0)
    have Fb21_29 := Fb21.keep K29 (ninS ne_r_fa nin0)
    have Fc21_29 := Fc21.keep K29 (ninS ne_r_fa nin0)
    have Fd21_29 := Fd21.keep K29 (ninS ne_r_fa nin0)
    have Fe21_29 := Fe21.keep K29 (ninS ne_r_fa nin0)
    have Z_30 : n0 ≤ T29.heap.size := Nat.le_trans Z_22 K29.1
    obtain ⟨φ29, hφ29⟩ : ∃ z, z = own_put φ21 ((ww * kk) + ff).toInt p5 := ⟨_, rfl⟩
    rw [← hφ29] at V29x
    have N29 := Fr.app N21 N29q
    have P31 : ∀ t, Steps p.tables e below (T29.setTop (mkF m 123 #[.val (.int p1), .val (.int p2), .val (.int p3), .val (.int p4), .val (.int p5), .val (.int p6), .val (.int ww), .val (.int (0 : Int32)), .val (.ref b5), .val (.int (0 : Int32)), .val (.int ((0 : Int32) + (1 : Int32))), .val (.int (((0 : Int32) + (1 : Int32)) + (1 : Int32))), .val (.int ii), .val (.int jj), .val (.int kk), .val (.int ff), .unset, .unset, .unset, .unset, .unset] [])) t → Steps p.tables e below (s₁.setTop (mkF m 0 #[.val (.int p1), .val (.int p2), .val (.int p3), .val (.int p4), .val (.int p5), .val (.int p6), .unset, .unset, .unset, .unset, .unset, .unset, .unset, .unset, .unset, .unset, .unset, .unset, .unset, .unset, .unset] [])) t := fun t k => P28 t (st29.trans k)
    have P32 : ∀ t, Steps p.tables e below (T29.setTop (mkF m 144 #[.val (.int p1), .val (.int p2), .val (.int p3), .val (.int p4), .val (.int p5), .val (.int p6), .val (.int ww), .val (.int (0 : Int32)), .val (.ref b5), .val (.int (0 : Int32)), .val (.int ((0 : Int32) + (1 : Int32))), .val (.int (((0 : Int32) + (1 : Int32)) + (1 : Int32))), .val (.int ii), .val (.int jj), .val (.int kk), .val (.int ff), .unset, .unset, .unset, .unset, .unset] [(.int ii), (.ref b5)])) t → Steps p.tables e below (s₁.setTop (mkF m 0 #[.val (.int p1), .val (.int p2), .val (.int p3), .val (.int p4), .val (.int p5), .val (.int p6), .unset, .unset, .unset, .unset, .unset, .unset, .unset, .unset, .unset, .unset, .unset, .unset, .unset, .unset, .unset] [])) t := fun t k => by
      refine P31 t ?_
      show Steps p.tables e below (T29.setTop (mkF m 123 #[.val (.int p1), .val (.int p2), .val (.int p3), .val (.int p4), .val (.int p5), .val (.int p6), .val (.int ww), .val (.int (0 : Int32)), .val (.ref b5), .val (.int (0 : Int32)), .val (.int ((0 : Int32) + (1 : Int32))), .val (.int (((0 : Int32) + (1 : Int32)) + (1 : Int32))), .val (.int ii), .val (.int jj), .val (.int kk), .val (.int ff), .unset, .unset, .unset, .unset, .unset] [])) t
      refine XS.iload X29.here hx rfl (hb hby at_123) rfl ?_
      show Steps p.tables e below (T29.setTop (mkF m 125 #[.val (.int p1), .val (.int p2), .val (.int p3), .val (.int p4), .val (.int p5), .val (.int p6), .val (.int ww), .val (.int (0 : Int32)), .val (.ref b5), .val (.int (0 : Int32)), .val (.int ((0 : Int32) + (1 : Int32))), .val (.int (((0 : Int32) + (1 : Int32)) + (1 : Int32))), .val (.int ii), .val (.int jj), .val (.int kk), .val (.int ff), .unset, .unset, .unset, .unset, .unset] [(.int (0 : Int32))])) t
      refine XS.ifYes X29.here hx rfl (pc0 := 125) (pc' := 140) rfl (hb hby at_125) rfl ((if0 _ _).trans (teq rfl).1) (by decide) (by decide) ?_
      show Steps p.tables e below (T29.setTop (mkF m 140 #[.val (.int p1), .val (.int p2), .val (.int p3), .val (.int p4), .val (.int p5), .val (.int p6), .val (.int ww), .val (.int (0 : Int32)), .val (.ref b5), .val (.int (0 : Int32)), .val (.int ((0 : Int32) + (1 : Int32))), .val (.int (((0 : Int32) + (1 : Int32)) + (1 : Int32))), .val (.int ii), .val (.int jj), .val (.int kk), .val (.int ff), .unset, .unset, .unset, .unset, .unset] [])) t
      refine XS.aload X29.here hx rfl (hb hby at_140) rfl rfl ?_
      show Steps p.tables e below (T29.setTop (mkF m 142 #[.val (.int p1), .val (.int p2), .val (.int p3), .val (.int p4), .val (.int p5), .val (.int p6), .val (.int ww), .val (.int (0 : Int32)), .val (.ref b5), .val (.int (0 : Int32)), .val (.int ((0 : Int32) + (1 : Int32))), .val (.int (((0 : Int32) + (1 : Int32)) + (1 : Int32))), .val (.int ii), .val (.int jj), .val (.int kk), .val (.int ff), .unset, .unset, .unset, .unset, .unset] [(.ref b5)])) t
      refine XS.iload X29.here hx rfl (hb hby at_142) rfl ?_
      exact k
    obtain ⟨cq33, kq33, q33a, q33b, q33c⟩ := isOf hZ rfl A5_29
    obtain ⟨_, _, ⟨T33, L33, k33, n33⟩, -, X33, ⟨Lc33, hQ33, l33, y33, z33⟩, st33⟩ := X29.virtualBack hx (y := (⟨"com/example/weftwork/weftwork/Rows", "free", "(I)V"⟩ : MethodName)) (z := (⟨"com/example/weftwork/weftwork/Rows", "free", "(I)V"⟩ : MethodName)) hown (mvT hZ (hw _ (List.mem_of_getElem? (i := 53) rfl))) (mvT hZ (hw _ (List.mem_of_getElem? (i := 54) rfl))) (notFace_of_selects (args := #[]) (mvT hZ (hw _ (List.mem_of_getElem? (i := 56) rfl)))) (mvT hZ (hw _ (List.mem_of_getElem? (i := 56) rfl))) (mvT hZ (hw _ (List.mem_of_getElem? (i := 55) rfl))) (by decide) (backOf (W := 0) (rm7n l Z a0 hw [] b5 fa ii ww ((((0 : Int32) + (1 : Int32)) + (1 : Int32)) + (1 : Int32)) (-1 : Int32) φ29 T29.heap n0 Z_30 A5_29 Fa21_29 Fb21_29 Fc21_29 Fd21_29 Fe21_29 V29x ne_r_fa g_b5 g_fa w1 w4 i0 (by omega)) hZ (hw _ (List.mem_of_getElem? (i := 57) rfl)) (hw _ (List.mem_of_getElem? (i := 2) rfl)) (by decide) (by decide)) q33a q33c (g := (mkF m 144 #[.val (.int p1), .val (.int p2), .val (.int p3), .val (.int p4), .val (.int p5), .val (.int p6), .val (.int ww), .val (.int (0 : Int32)), .val (.ref b5), .val (.int (0 : Int32)), .val (.int ((0 : Int32) + (1 : Int32))), .val (.int (((0 : Int32) + (1 : Int32)) + (1 : Int32))), .val (.int ii), .val (.int jj), .val (.int kk), .val (.int ff), .unset, .unset, .unset, .unset, .unset] [(.int ii), (.ref b5)])) rfl (by rw [hml]; rfl) (Steps.refl _) (argsL := [(.int ii)]) (rest := []) (lenOf pd__I_V rfl) rfl (by show 2 * 0 + _ ≤ _; exact Nat.le_of_eq rfl) (hb hby at_144) (fun _ _ => ⟨rfl, rfl, (by decide : 2 + 0 ≤ _), (by decide : 69 + 0 ≤ _)⟩)
    dsimp only [Pt.U, Pt.locs, Pt.cells, Pt.slots] at X33 l33 y33 z33 st33 hQ33
    subst l33 y33 z33
    obtain ⟨rfl, N33q, K33, E33x, Fa33, Fb33, Fc33, Fd33, Fe33, V33x⟩ := hQ33
    have OL_33 := OL_29.keep K33 (allS g_b5 (allS g_fa all0))
    have A5_33 := A5_29.keep K33
    have Z_34 : n0 ≤ T33.heap.size := Nat.le_trans Z_30 K33.1
    obtain ⟨φ33, hφ33⟩ : ∃ z, z = own_put φ29 (ww * ii).toInt (-1 : Int32) := ⟨_, rfl⟩
    rw [← hφ33] at V33x
    have N33 := Fr.app N29 N33q
    have P35 : ∀ t, Steps p.tables e below (T33.setTop (mkF m 147 #[.val (.int p1), .val (.int p2), .val (.int p3), .val (.int p4), .val (.int p5), .val (.int p6), .val (.int ww), .val (.int (0 : Int32)), .val (.ref b5), .val (.int (0 : Int32)), .val (.int ((0 : Int32) + (1 : Int32))), .val (.int (((0 : Int32) + (1 : Int32)) + (1 : Int32))), .val (.int ii), .val (.int jj), .val (.int kk), .val (.int ff), .unset, .unset, .unset, .unset, .unset] [])) t → Steps p.tables e below (s₁.setTop (mkF m 0 #[.val (.int p1), .val (.int p2), .val (.int p3), .val (.int p4), .val (.int p5), .val (.int p6), .unset, .unset, .unset, .unset, .unset, .unset, .unset, .unset, .unset, .unset, .unset, .unset, .unset, .unset, .unset] [])) t := fun t k => P32 t (st33.trans k)
    have P36 : ∀ t, Steps p.tables e below (T33.setTop (mkF m 151 #[.val (.int p1), .val (.int p2), .val (.int p3), .val (.int p4), .val (.int p5), .val (.int p6), .val (.int ww), .val (.int (0 : Int32)), .val (.ref b5), .val (.int (0 : Int32)), .val (.int ((0 : Int32) + (1 : Int32))), .val (.int (((0 : Int32) + (1 : Int32)) + (1 : Int32))), .val (.int ii), .val (.int jj), .val (.int kk), .val (.int ff), .unset, .unset, .unset, .unset, .unset] [(.int jj), (.ref b5)])) t → Steps p.tables e below (s₁.setTop (mkF m 0 #[.val (.int p1), .val (.int p2), .val (.int p3), .val (.int p4), .val (.int p5), .val (.int p6), .unset, .unset, .unset, .unset, .unset, .unset, .unset, .unset, .unset, .unset, .unset, .unset, .unset, .unset, .unset] [])) t := fun t k => by
      refine P35 t ?_
      show Steps p.tables e below (T33.setTop (mkF m 147 #[.val (.int p1), .val (.int p2), .val (.int p3), .val (.int p4), .val (.int p5), .val (.int p6), .val (.int ww), .val (.int (0 : Int32)), .val (.ref b5), .val (.int (0 : Int32)), .val (.int ((0 : Int32) + (1 : Int32))), .val (.int (((0 : Int32) + (1 : Int32)) + (1 : Int32))), .val (.int ii), .val (.int jj), .val (.int kk), .val (.int ff), .unset, .unset, .unset, .unset, .unset] [])) t
      refine XS.aload X33.here hx rfl (hb hby at_147) rfl rfl ?_
      show Steps p.tables e below (T33.setTop (mkF m 149 #[.val (.int p1), .val (.int p2), .val (.int p3), .val (.int p4), .val (.int p5), .val (.int p6), .val (.int ww), .val (.int (0 : Int32)), .val (.ref b5), .val (.int (0 : Int32)), .val (.int ((0 : Int32) + (1 : Int32))), .val (.int (((0 : Int32) + (1 : Int32)) + (1 : Int32))), .val (.int ii), .val (.int jj), .val (.int kk), .val (.int ff), .unset, .unset, .unset, .unset, .unset] [(.ref b5)])) t
      refine XS.iload X33.here hx rfl (hb hby at_149) rfl ?_
      exact k
    obtain ⟨cq37, kq37, q37a, q37b, q37c⟩ := isOf hZ rfl A5_33
    obtain ⟨_, _, ⟨T37, L37, k37, n37⟩, -, X37, ⟨Lc37, hQ37, l37, y37, z37⟩, st37⟩ := X33.virtualBack hx (y := (⟨"com/example/weftwork/weftwork/Rows", "free", "(I)V"⟩ : MethodName)) (z := (⟨"com/example/weftwork/weftwork/Rows", "free", "(I)V"⟩ : MethodName)) hown (mvT hZ (hw _ (List.mem_of_getElem? (i := 53) rfl))) (mvT hZ (hw _ (List.mem_of_getElem? (i := 54) rfl))) (notFace_of_selects (args := #[]) (mvT hZ (hw _ (List.mem_of_getElem? (i := 56) rfl)))) (mvT hZ (hw _ (List.mem_of_getElem? (i := 56) rfl))) (mvT hZ (hw _ (List.mem_of_getElem? (i := 55) rfl))) (by decide) (backOf (W := 0) (rm7n l Z a0 hw [] b5 fa jj ww ((((0 : Int32) + (1 : Int32)) + (1 : Int32)) + (1 : Int32)) ii φ33 T33.heap n0 Z_34 A5_33 Fa33 Fb33 Fc33 Fd33 Fe33 V33x ne_r_fa g_b5 g_fa w1 w4 j0 (by omega)) hZ (hw _ (List.mem_of_getElem? (i := 57) rfl)) (hw _ (List.mem_of_getElem? (i := 2) rfl)) (by decide) (by decide)) q37a q37c (g := (mkF m 151 #[.val (.int p1), .val (.int p2), .val (.int p3), .val (.int p4), .val (.int p5), .val (.int p6), .val (.int ww), .val (.int (0 : Int32)), .val (.ref b5), .val (.int (0 : Int32)), .val (.int ((0 : Int32) + (1 : Int32))), .val (.int (((0 : Int32) + (1 : Int32)) + (1 : Int32))), .val (.int ii), .val (.int jj), .val (.int kk), .val (.int ff), .unset, .unset, .unset, .unset, .unset] [(.int jj), (.ref b5)])) rfl (by rw [hml]; rfl) (Steps.refl _) (argsL := [(.int jj)]) (rest := []) (lenOf pd__I_V rfl) rfl (by show 2 * 0 + _ ≤ _; exact Nat.le_of_eq rfl) (hb hby at_151) (fun _ _ => ⟨rfl, rfl, (by decide : 2 + 0 ≤ _), (by decide : 69 + 0 ≤ _)⟩)
    dsimp only [Pt.U, Pt.locs, Pt.cells, Pt.slots] at X37 l37 y37 z37 st37 hQ37
    subst l37 y37 z37
    obtain ⟨rfl, N37q, K37, E37x, Fa37, Fb37, Fc37, Fd37, Fe37, V37x⟩ := hQ37
    have OL_37 := OL_33.keep K37 (allS g_b5 (allS g_fa all0))
    have A5_37 := A5_33.keep K37
    have Z_38 : n0 ≤ T37.heap.size := Nat.le_trans Z_34 K37.1
    obtain ⟨φ37, hφ37⟩ : ∃ z, z = own_put φ33 (ww * jj).toInt ii := ⟨_, rfl⟩
    rw [← hφ37] at V37x
    have N37 := Fr.app N33 N37q
    have P39 : ∀ t, Steps p.tables e below (T37.setTop (mkF m 154 #[.val (.int p1), .val (.int p2), .val (.int p3), .val (.int p4), .val (.int p5), .val (.int p6), .val (.int ww), .val (.int (0 : Int32)), .val (.ref b5), .val (.int (0 : Int32)), .val (.int ((0 : Int32) + (1 : Int32))), .val (.int (((0 : Int32) + (1 : Int32)) + (1 : Int32))), .val (.int ii), .val (.int jj), .val (.int kk), .val (.int ff), .unset, .unset, .unset, .unset, .unset] [])) t → Steps p.tables e below (s₁.setTop (mkF m 0 #[.val (.int p1), .val (.int p2), .val (.int p3), .val (.int p4), .val (.int p5), .val (.int p6), .unset, .unset, .unset, .unset, .unset, .unset, .unset, .unset, .unset, .unset, .unset, .unset, .unset, .unset, .unset] [])) t := fun t k => P36 t (st37.trans k)
    have P40 : ∀ t, Steps p.tables e below (T37.setTop (mkF m 156 #[.val (.int p1), .val (.int p2), .val (.int p3), .val (.int p4), .val (.int p5), .val (.int p6), .val (.int ww), .val (.int (0 : Int32)), .val (.ref b5), .val (.int (0 : Int32)), .val (.int ((0 : Int32) + (1 : Int32))), .val (.int (((0 : Int32) + (1 : Int32)) + (1 : Int32))), .val (.int ii), .val (.int jj), .val (.int kk), .val (.int ff), .unset, .unset, .unset, .unset, .unset] [(.ref b5)])) t → Steps p.tables e below (s₁.setTop (mkF m 0 #[.val (.int p1), .val (.int p2), .val (.int p3), .val (.int p4), .val (.int p5), .val (.int p6), .unset, .unset, .unset, .unset, .unset, .unset, .unset, .unset, .unset, .unset, .unset, .unset, .unset, .unset, .unset] [])) t := fun t k => by
      refine P39 t ?_
      show Steps p.tables e below (T37.setTop (mkF m 154 #[.val (.int p1), .val (.int p2), .val (.int p3), .val (.int p4), .val (.int p5), .val (.int p6), .val (.int ww), .val (.int (0 : Int32)), .val (.ref b5), .val (.int (0 : Int32)), .val (.int ((0 : Int32) + (1 : Int32))), .val (.int (((0 : Int32) + (1 : Int32)) + (1 : Int32))), .val (.int ii), .val (.int jj), .val (.int kk), .val (.int ff), .unset, .unset, .unset, .unset, .unset] [])) t
      refine XS.aload X37.here hx rfl (hb hby at_154) rfl rfl ?_
      exact k
    obtain ⟨cq41, kq41, q41a, q41b, q41c⟩ := isOf hZ rfl A5_37
    obtain ⟨_, _, ⟨T41, L41, k41, n41⟩, -, X41, ⟨Lc41, hQ41, l41, y41, z41⟩, st41⟩ := X37.virtualBack hx (y := (⟨"com/example/weftwork/weftwork/Rows", "make", "()I"⟩ : MethodName)) (z := (⟨"com/example/weftwork/weftwork/Rows", "make", "()I"⟩ : MethodName)) hown (mvT hZ (hw _ (List.mem_of_getElem? (i := 20) rfl))) (mvT hZ (hw _ (List.mem_of_getElem? (i := 21) rfl))) (notFace_of_selects (args := #[]) (mvT hZ (hw _ (List.mem_of_getElem? (i := 23) rfl)))) (mvT hZ (hw _ (List.mem_of_getElem? (i := 23) rfl))) (mvT hZ (hw _ (List.mem_of_getElem? (i := 22) rfl))) (by decide) (backOf (W := 0) (rm2r l Z a0 hw [] b5 fa .null ww ((((0 : Int32) + (1 : Int32)) + (1 : Int32)) + (1 : Int32)) jj φ37 T37.heap n0 Z_38 A5_37 Fa37 Fb37 Fc37 Fd37 Fe37 V37x ne_r_fa g_b5 g_fa w1 w4 j0 (by omega) hj1) hZ (hw _ (List.mem_of_getElem? (i := 24) rfl)) (hw _ (List.mem_of_getElem? (i := 2) rfl)) (by decide) (by decide)) q41a q41c (g := (mkF m 156 #[.val (.int p1), .val (.int p2), .val (.int p3), .val (.int p4), .val (.int p5), .val (.int p6), .val (.int ww), .val (.int (0 : Int32)), .val (.ref b5), .val (.int (0 : Int32)), .val (.int ((0 : Int32) + (1 : Int32))), .val (.int (((0 : Int32) + (1 : Int32)) + (1 : Int32))), .val (.int ii), .val (.int jj), .val (.int kk), .val (.int ff), .unset, .unset, .unset, .unset, .unset] [(.ref b5)])) rfl (by rw [hml]; rfl) (Steps.refl _) (argsL := []) (rest := []) (lenOf pd___I rfl) rfl (by show 2 * 0 + _ ≤ _; exact Nat.le_of_eq rfl) (hb hby at_156) (fun _ _ => ⟨rfl, rfl, (by decide : 2 + 0 ≤ _), (by decide : 69 + 0 ≤ _)⟩)
    dsimp only [Pt.U, Pt.locs, Pt.cells, Pt.slots] at X41 l41 y41 z41 st41 hQ41
    subst l41 y41 z41
    obtain ⟨rfl, N41q, K41, E41x, Fa41, Fb41, Fc41, Fd41, Fe41, V41x⟩ := hQ41
    have OL_41 := OL_37.keep K41 (allS g_b5 (allS g_fa all0))
    have A5_41 := A5_37.keep K41
    have Z_42 : n0 ≤ T41.heap.size := Nat.le_trans Z_38 K41.1
    have hfr41 : φ37 (ww * jj).toInt = ii := by rw [hφ37, hφ33, hφ29, ej, ei, ex]; exact (own_pure w1 w4 i0 i2 j0 j2 hij hkk f0 f1 _ p5 ii).1
    rw [hfr41] at Fa41
    obtain ⟨φ41, hφ41⟩ : ∃ z, z = own_fill φ37 (ww * jj).toInt (ww * (jj + (1 : Int32))).toInt (-1 : Int32) := ⟨_, rfl⟩
    rw [← hφ41] at V41x
    have N41 := Fr.app N37 N41q
    have P43 : ∀ t, Steps p.tables e below (T41.setTop (mkF m 159 #[.val (.int p1), .val (.int p2), .val (.int p3), .val (.int p4), .val (.int p5), .val (.int p6), .val (.int ww), .val (.int (0 : Int32)), .val (.ref b5), .val (.int (0 : Int32)), .val (.int ((0 : Int32) + (1 : Int32))), .val (.int (((0 : Int32) + (1 : Int32)) + (1 : Int32))), .val (.int ii), .val (.int jj), .val (.int kk), .val (.int ff), .unset, .unset, .unset, .unset, .unset] [(.int jj)])) t → Steps p.tables e below (s₁.setTop (mkF m 0 #[.val (.int p1), .val (.int p2), .val (.int p3), .val (.int p4), .val (.int p5), .val (.int p6), .unset, .unset, .unset, .unset, .unset, .unset, .unset, .unset, .unset, .unset, .unset, .unset, .unset, .unset, .unset] [])) t := fun t k => P40 t (st41.trans k)
    have P44 : ∀ t, Steps p.tables e below (T41.setTop (mkF m 163 #[.val (.int p1), .val (.int p2), .val (.int p3), .val (.int p4), .val (.int p5), .val (.int p6), .val (.int ww), .val (.int (0 : Int32)), .val (.ref b5), .val (.int (0 : Int32)), .val (.int ((0 : Int32) + (1 : Int32))), .val (.int (((0 : Int32) + (1 : Int32)) + (1 : Int32))), .val (.int ii), .val (.int jj), .val (.int kk), .val (.int ff), .val (.int jj), .unset, .unset, .unset, .unset] [(.ref b5)])) t → Steps p.tables e below (s₁.setTop (mkF m 0 #[.val (.int p1), .val (.int p2), .val (.int p3), .val (.int p4), .val (.int p5), .val (.int p6), .unset, .unset, .unset, .unset, .unset, .unset, .unset, .unset, .unset, .unset, .unset, .unset, .unset, .unset, .unset] [])) t := fun t k => by
      refine P43 t ?_
      show Steps p.tables e below (T41.setTop (mkF m 159 #[.val (.int p1), .val (.int p2), .val (.int p3), .val (.int p4), .val (.int p5), .val (.int p6), .val (.int ww), .val (.int (0 : Int32)), .val (.ref b5), .val (.int (0 : Int32)), .val (.int ((0 : Int32) + (1 : Int32))), .val (.int (((0 : Int32) + (1 : Int32)) + (1 : Int32))), .val (.int ii), .val (.int jj), .val (.int kk), .val (.int ff), .unset, .unset, .unset, .unset, .unset] [(.int jj)])) t
      refine XS.istore X41.here hx rfl (hb hby at_159) rfl (l' := #[.val (.int p1), .val (.int p2), .val (.int p3), .val (.int p4), .val (.int p5), .val (.int p6), .val (.int ww), .val (.int (0 : Int32)), .val (.ref b5), .val (.int (0 : Int32)), .val (.int ((0 : Int32) + (1 : Int32))), .val (.int (((0 : Int32) + (1 : Int32)) + (1 : Int32))), .val (.int ii), .val (.int jj), .val (.int kk), .val (.int ff), .val (.int jj), .unset, .unset, .unset, .unset]) rfl ?_
      show Steps p.tables e below (T41.setTop (mkF m 161 #[.val (.int p1), .val (.int p2), .val (.int p3), .val (.int p4), .val (.int p5), .val (.int p6), .val (.int ww), .val (.int (0 : Int32)), .val (.ref b5), .val (.int (0 : Int32)), .val (.int ((0 : Int32) + (1 : Int32))), .val (.int (((0 : Int32) + (1 : Int32)) + (1 : Int32))), .val (.int ii), .val (.int jj), .val (.int kk), .val (.int ff), .val (.int jj), .unset, .unset, .unset, .unset] [])) t
      refine XS.aload X41.here hx rfl (hb hby at_161) rfl rfl ?_
      exact k
    obtain ⟨cq45, kq45, q45a, q45b, q45c⟩ := isOf hZ rfl A5_41
    obtain ⟨_, _, ⟨T45, L45, k45, n45⟩, -, X45, ⟨Lc45, hQ45, l45, y45, z45⟩, st45⟩ := X41.virtualBack hx (y := (⟨"com/example/weftwork/weftwork/Rows", "make", "()I"⟩ : MethodName)) (z := (⟨"com/example/weftwork/weftwork/Rows", "make", "()I"⟩ : MethodName)) hown (mvT hZ (hw _ (List.mem_of_getElem? (i := 20) rfl))) (mvT hZ (hw _ (List.mem_of_getElem? (i := 21) rfl))) (notFace_of_selects (args := #[]) (mvT hZ (hw _ (List.mem_of_getElem? (i := 23) rfl)))) (mvT hZ (hw _ (List.mem_of_getElem? (i := 23) rfl))) (mvT hZ (hw _ (List.mem_of_getElem? (i := 22) rfl))) (by decide) (backOf (W := 0) (rm2r l Z a0 hw [] b5 fa .null ww ((((0 : Int32) + (1 : Int32)) + (1 : Int32)) + (1 : Int32)) ii φ41 T41.heap n0 Z_42 A5_41 Fa41 Fb41 Fc41 Fd41 Fe41 V41x ne_r_fa g_b5 g_fa w1 w4 i0 (by omega) hi1) hZ (hw _ (List.mem_of_getElem? (i := 24) rfl)) (hw _ (List.mem_of_getElem? (i := 2) rfl)) (by decide) (by decide)) q45a q45c (g := (mkF m 163 #[.val (.int p1), .val (.int p2), .val (.int p3), .val (.int p4), .val (.int p5), .val (.int p6), .val (.int ww), .val (.int (0 : Int32)), .val (.ref b5), .val (.int (0 : Int32)), .val (.int ((0 : Int32) + (1 : Int32))), .val (.int (((0 : Int32) + (1 : Int32)) + (1 : Int32))), .val (.int ii), .val (.int jj), .val (.int kk), .val (.int ff), .val (.int jj), .unset, .unset, .unset, .unset] [(.ref b5)])) rfl (by rw [hml]; rfl) (Steps.refl _) (argsL := []) (rest := []) (lenOf pd___I rfl) rfl (by show 2 * 0 + _ ≤ _; exact Nat.le_of_eq rfl) (hb hby at_163) (fun _ _ => ⟨rfl, rfl, (by decide : 2 + 0 ≤ _), (by decide : 69 + 0 ≤ _)⟩)
    dsimp only [Pt.U, Pt.locs, Pt.cells, Pt.slots] at X45 l45 y45 z45 st45 hQ45
    subst l45 y45 z45
    obtain ⟨rfl, N45q, K45, E45x, Fa45, Fb45, Fc45, Fd45, Fe45, V45x⟩ := hQ45
    have OL_45 := OL_41.keep K45 (allS g_b5 (allS g_fa all0))
    have A5_45 := A5_41.keep K45
    have Z_46 : n0 ≤ T45.heap.size := Nat.le_trans Z_42 K45.1
    have hfr45 : φ41 (ww * ii).toInt = (-1 : Int32) := by rw [hφ41, hφ37, hφ33, hφ29, ej1, ej, ei, ex]; exact (own_pure w1 w4 i0 i2 j0 j2 hij hkk f0 f1 _ p5 ii).2.1
    rw [hfr45] at Fa45
    obtain ⟨φ45, hφ45⟩ : ∃ z, z = own_fill φ41 (ww * ii).toInt (ww * (ii + (1 : Int32))).toInt (-1 : Int32) := ⟨_, rfl⟩
    rw [← hφ45] at V45x
    have N45 := Fr.app N41 N45q
    have P47 : ∀ t, Steps p.tables e below (T45.setTop (mkF m 166 #[.val (.int p1), .val (.int p2), .val (.int p3), .val (.int p4), .val (.int p5), .val (.int p6), .val (.int ww), .val (.int (0 : Int32)), .val (.ref b5), .val (.int (0 : Int32)), .val (.int ((0 : Int32) + (1 : Int32))), .val (.int (((0 : Int32) + (1 : Int32)) + (1 : Int32))), .val (.int ii), .val (.int jj), .val (.int kk), .val (.int ff), .val (.int jj), .unset, .unset, .unset, .unset] [(.int ii)])) t → Steps p.tables e below (s₁.setTop (mkF m 0 #[.val (.int p1), .val (.int p2), .val (.int p3), .val (.int p4), .val (.int p5), .val (.int p6), .unset, .unset, .unset, .unset, .unset, .unset, .unset, .unset, .unset, .unset, .unset, .unset, .unset, .unset, .unset] [])) t := fun t k => P44 t (st45.trans k)
    have P48 : ∀ t, Steps p.tables e below (T45.setTop (mkF m 170 #[.val (.int p1), .val (.int p2), .val (.int p3), .val (.int p4), .val (.int p5), .val (.int p6), .val (.int ww), .val (.int (0 : Int32)), .val (.ref b5), .val (.int (0 : Int32)), .val (.int ((0 : Int32) + (1 : Int32))), .val (.int (((0 : Int32) + (1 : Int32)) + (1 : Int32))), .val (.int ii), .val (.int jj), .val (.int kk), .val (.int ff), .val (.int jj), .val (.int ii), .unset, .unset, .unset] [(.ref b5)])) t → Steps p.tables e below (s₁.setTop (mkF m 0 #[.val (.int p1), .val (.int p2), .val (.int p3), .val (.int p4), .val (.int p5), .val (.int p6), .unset, .unset, .unset, .unset, .unset, .unset, .unset, .unset, .unset, .unset, .unset, .unset, .unset, .unset, .unset] [])) t := fun t k => by
      refine P47 t ?_
      show Steps p.tables e below (T45.setTop (mkF m 166 #[.val (.int p1), .val (.int p2), .val (.int p3), .val (.int p4), .val (.int p5), .val (.int p6), .val (.int ww), .val (.int (0 : Int32)), .val (.ref b5), .val (.int (0 : Int32)), .val (.int ((0 : Int32) + (1 : Int32))), .val (.int (((0 : Int32) + (1 : Int32)) + (1 : Int32))), .val (.int ii), .val (.int jj), .val (.int kk), .val (.int ff), .val (.int jj), .unset, .unset, .unset, .unset] [(.int ii)])) t
      refine XS.istore X45.here hx rfl (hb hby at_166) rfl (l' := #[.val (.int p1), .val (.int p2), .val (.int p3), .val (.int p4), .val (.int p5), .val (.int p6), .val (.int ww), .val (.int (0 : Int32)), .val (.ref b5), .val (.int (0 : Int32)), .val (.int ((0 : Int32) + (1 : Int32))), .val (.int (((0 : Int32) + (1 : Int32)) + (1 : Int32))), .val (.int ii), .val (.int jj), .val (.int kk), .val (.int ff), .val (.int jj), .val (.int ii), .unset, .unset, .unset]) rfl ?_
      show Steps p.tables e below (T45.setTop (mkF m 168 #[.val (.int p1), .val (.int p2), .val (.int p3), .val (.int p4), .val (.int p5), .val (.int p6), .val (.int ww), .val (.int (0 : Int32)), .val (.ref b5), .val (.int (0 : Int32)), .val (.int ((0 : Int32) + (1 : Int32))), .val (.int (((0 : Int32) + (1 : Int32)) + (1 : Int32))), .val (.int ii), .val (.int jj), .val (.int kk), .val (.int ff), .val (.int jj), .val (.int ii), .unset, .unset, .unset] [])) t
      refine XS.aload X45.here hx rfl (hb hby at_168) rfl rfl ?_
      exact k
    obtain ⟨cq49, kq49, q49a, q49b, q49c⟩ := isOf hZ rfl A5_45
    obtain ⟨_, _, ⟨T49, L49, k49, n49⟩, -, X49, ⟨Lc49, hQ49, l49, y49, z49⟩, st49⟩ := X45.virtualBack hx (y := (⟨"com/example/weftwork/weftwork/Rows", "make", "()I"⟩ : MethodName)) (z := (⟨"com/example/weftwork/weftwork/Rows", "make", "()I"⟩ : MethodName)) hown (mvT hZ (hw _ (List.mem_of_getElem? (i := 20) rfl))) (mvT hZ (hw _ (List.mem_of_getElem? (i := 21) rfl))) (notFace_of_selects (args := #[]) (mvT hZ (hw _ (List.mem_of_getElem? (i := 23) rfl)))) (mvT hZ (hw _ (List.mem_of_getElem? (i := 23) rfl))) (mvT hZ (hw _ (List.mem_of_getElem? (i := 22) rfl))) (by decide) (backOf (W := 0) (rm2f l Z a0 hw [] b5 fa .null ww ((((0 : Int32) + (1 : Int32)) + (1 : Int32)) + (1 : Int32)) φ45 T45.heap n0 Z_46 A5_45 Fa45 Fb45 Fc45 Fd45 Fe45 V45x ne_r_fa g_b5 g_fa w1 w4 (by decide) (by decide)) hZ (hw _ (List.mem_of_getElem? (i := 24) rfl)) (hw _ (List.mem_of_getElem? (i := 2) rfl)) (by decide) (by decide)) q49a q49c (g := (mkF m 170 #[.val (.int p1), .val (.int p2), .val (.int p3), .val (.int p4), .val (.int p5), .val (.int p6), .val (.int ww), .val (.int (0 : Int32)), .val (.ref b5), .val (.int (0 : Int32)), .val (.int ((0 : Int32) + (1 : Int32))), .val (.int (((0 : Int32) + (1 : Int32)) + (1 : Int32))), .val (.int ii), .val (.int jj), .val (.int kk), .val (.int ff), .val (.int jj), .val (.int ii), .unset, .unset, .unset] [(.ref b5)])) rfl (by rw [hml]; rfl) (Steps.refl _) (argsL := []) (rest := []) (lenOf pd___I rfl) rfl (by show 2 * 0 + _ ≤ _; exact Nat.le_of_eq rfl) (hb hby at_170) (fun _ _ => ⟨rfl, rfl, (by decide : 2 + 0 ≤ _), (by decide : 69 + 0 ≤ _)⟩)
    dsimp only [Pt.U, Pt.locs, Pt.cells, Pt.slots] at X49 l49 y49 z49 st49 hQ49
    subst l49 y49 z49
    obtain ⟨rfl, N49q, K49, E49x, Fa49, Fb49, Fc49, Fd49, Fe49, V49x⟩ := hQ49
    have OL_49 := OL_45.keep K49 (allS g_b5 (allS g_fa all0))
    have A5_49 := A5_45.keep K49
    have Z_50 : n0 ≤ T49.heap.size := Nat.le_trans Z_46 K49.1
    obtain ⟨φ49, hφ49⟩ : ∃ z, z = own_fill φ45 (ww * ((((0 : Int32) + (1 : Int32)) + (1 : Int32)) + (1 : Int32))).toInt (ww * (((((0 : Int32) + (1 : Int32)) + (1 : Int32)) + (1 : Int32)) + (1 : Int32))).toInt (-1 : Int32) := ⟨_, rfl⟩
    rw [← hφ49] at V49x
    have N49 := Fr.app N45 N49q
    have P51 : ∀ t, Steps p.tables e below (T49.setTop (mkF m 173 #[.val (.int p1), .val (.int p2), .val (.int p3), .val (.int p4), .val (.int p5), .val (.int p6), .val (.int ww), .val (.int (0 : Int32)), .val (.ref b5), .val (.int (0 : Int32)), .val (.int ((0 : Int32) + (1 : Int32))), .val (.int (((0 : Int32) + (1 : Int32)) + (1 : Int32))), .val (.int ii), .val (.int jj), .val (.int kk), .val (.int ff), .val (.int jj), .val (.int ii), .unset, .unset, .unset] [(.int ((((0 : Int32) + (1 : Int32)) + (1 : Int32)) + (1 : Int32)))])) t → Steps p.tables e below (s₁.setTop (mkF m 0 #[.val (.int p1), .val (.int p2), .val (.int p3), .val (.int p4), .val (.int p5), .val (.int p6), .unset, .unset, .unset, .unset, .unset, .unset, .unset, .unset, .unset, .unset, .unset, .unset, .unset, .unset, .unset] [])) t := fun t k => P48 t (st49.trans k)
    have P52 : ∀ t, Steps p.tables e below (T49.setTop (mkF m 181 #[.val (.int p1), .val (.int p2), .val (.int p3), .val (.int p4), .val (.int p5), .val (.int p6), .val (.int ww), .val (.int (0 : Int32)), .val (.ref b5), .val (.int (0 : Int32)), .val (.int ((0 : Int32) + (1 : Int32))), .val (.int (((0 : Int32) + (1 : Int32)) + (1 : Int32))), .val (.int ii), .val (.int jj), .val (.int kk), .val (.int ff), .val (.int jj), .val (.int ii), .val (.int ((((0 : Int32) + (1 : Int32)) + (1 : Int32)) + (1 : Int32))), .unset, .unset] [(.int ff), (.int kk), (.ref b5)])) t → Steps p.tables e below (s₁.setTop (mkF m 0 #[.val (.int p1), .val (.int p2), .val (.int p3), .val (.int p4), .val (.int p5), .val (.int p6), .unset, .unset, .unset, .unset, .unset, .unset, .unset, .unset, .unset, .unset, .unset, .unset, .unset, .unset, .unset] [])) t := fun t k => by
      refine P51 t ?_
      show Steps p.tables e below (T49.setTop (mkF m 173 #[.val (.int p1), .val (.int p2), .val (.int p3), .val (.int p4), .val (.int p5), .val (.int p6), .val (.int ww), .val (.int (0 : Int32)), .val (.ref b5), .val (.int (0 : Int32)), .val (.int ((0 : Int32) + (1 : Int32))), .val (.int (((0 : Int32) + (1 : Int32)) + (1 : Int32))), .val (.int ii), .val (.int jj), .val (.int kk), .val (.int ff), .val (.int jj), .val (.int ii), .unset, .unset, .unset] [(.int ((((0 : Int32) + (1 : Int32)) + (1 : Int32)) + (1 : Int32)))])) t
      refine XS.istore X49.here hx rfl (hb hby at_173) rfl (l' := #[.val (.int p1), .val (.int p2), .val (.int p3), .val (.int p4), .val (.int p5), .val (.int p6), .val (.int ww), .val (.int (0 : Int32)), .val (.ref b5), .val (.int (0 : Int32)), .val (.int ((0 : Int32) + (1 : Int32))), .val (.int (((0 : Int32) + (1 : Int32)) + (1 : Int32))), .val (.int ii), .val (.int jj), .val (.int kk), .val (.int ff), .val (.int jj), .val (.int ii), .val (.int ((((0 : Int32) + (1 : Int32)) + (1 : Int32)) + (1 : Int32))), .unset, .unset]) rfl ?_
      show Steps p.tables e below (T49.setTop (mkF m 175 #[.val (.int p1), .val (.int p2), .val (.int p3), .val (.int p4), .val (.int p5), .val (.int p6), .val (.int ww), .val (.int (0 : Int32)), .val (.ref b5), .val (.int (0 : Int32)), .val (.int ((0 : Int32) + (1 : Int32))), .val (.int (((0 : Int32) + (1 : Int32)) + (1 : Int32))), .val (.int ii), .val (.int jj), .val (.int kk), .val (.int ff), .val (.int jj), .val (.int ii), .val (.int ((((0 : Int32) + (1 : Int32)) + (1 : Int32)) + (1 : Int32))), .unset, .unset] [])) t
      refine XS.aload X49.here hx rfl (hb hby at_175) rfl rfl ?_
      show Steps p.tables e below (T49.setTop (mkF m 177 #[.val (.int p1), .val (.int p2), .val (.int p3), .val (.int p4), .val (.int p5), .val (.int p6), .val (.int ww), .val (.int (0 : Int32)), .val (.ref b5), .val (.int (0 : Int32)), .val (.int ((0 : Int32) + (1 : Int32))), .val (.int (((0 : Int32) + (1 : Int32)) + (1 : Int32))), .val (.int ii), .val (.int jj), .val (.int kk), .val (.int ff), .val (.int jj), .val (.int ii), .val (.int ((((0 : Int32) + (1 : Int32)) + (1 : Int32)) + (1 : Int32))), .unset, .unset] [(.ref b5)])) t
      refine XS.iload X49.here hx rfl (hb hby at_177) rfl ?_
      show Steps p.tables e below (T49.setTop (mkF m 179 #[.val (.int p1), .val (.int p2), .val (.int p3), .val (.int p4), .val (.int p5), .val (.int p6), .val (.int ww), .val (.int (0 : Int32)), .val (.ref b5), .val (.int (0 : Int32)), .val (.int ((0 : Int32) + (1 : Int32))), .val (.int (((0 : Int32) + (1 : Int32)) + (1 : Int32))), .val (.int ii), .val (.int jj), .val (.int kk), .val (.int ff), .val (.int jj), .val (.int ii), .val (.int ((((0 : Int32) + (1 : Int32)) + (1 : Int32)) + (1 : Int32))), .unset, .unset] [(.int kk), (.ref b5)])) t
      refine XS.iload X49.here hx rfl (hb hby at_179) rfl ?_
      exact k
    have e31 : ((((0 : Int32) + (1 : Int32)) + (1 : Int32)) + (1 : Int32)).toInt = 3 := rfl
    have e33 : (ww * ((((0 : Int32) + (1 : Int32)) + (1 : Int32)) + (1 : Int32))).toInt = ww.toInt * 3 := own_wr w1 w4 (by decide) (by decide)
    have e34 : (ww * (((((0 : Int32) + (1 : Int32)) + (1 : Int32)) + (1 : Int32)) + (1 : Int32))).toInt = ww.toInt * 4 := own_wr w1 w4 (by decide) (by decide)
    have hkept : φ49 ((ww * kk) + ff).toInt = p5 := by rw [hφ49, hφ45, hφ41, hφ37, hφ33, hφ29, e33, e34, ei1, ej1, ej, ei, ex]; exact (own_pure w1 w4 i0 i2 j0 j2 hij hkk f0 f1 _ p5 ii).2.2
    obtain ⟨cq53, kq53, q53a, q53b, q53c⟩ := isOf hZ rfl A5_49
    obtain ⟨_, _, ⟨T53, L53, k53, n53⟩, -, X53, ⟨Lc53, hQ53, l53, y53, z53⟩, st53⟩ := X49.virtualBack hx (y := (⟨"com/example/weftwork/weftwork/Rows", "get", "(II)I"⟩ : MethodName)) (z := (⟨"com/example/weftwork/weftwork/Rows", "get", "(II)I"⟩ : MethodName)) hown (mvT hZ (hw _ (List.mem_of_getElem? (i := 58) rfl))) (mvT hZ (hw _ (List.mem_of_getElem? (i := 59) rfl))) (notFace_of_selects (args := #[]) (mvT hZ (hw _ (List.mem_of_getElem? (i := 61) rfl)))) (mvT hZ (hw _ (List.mem_of_getElem? (i := 61) rfl))) (mvT hZ (hw _ (List.mem_of_getElem? (i := 60) rfl))) (by decide) (backOf (W := 0) (rm4 l Z a0 hw [] b5 fa kk ff ww φ49 T49.heap n0 Z_50 Fb49 Fc49 V49x hx1.1 hx1.2) hZ (hw _ (List.mem_of_getElem? (i := 62) rfl)) (hw _ (List.mem_of_getElem? (i := 2) rfl)) (by decide) (by decide)) q53a q53c (g := (mkF m 181 #[.val (.int p1), .val (.int p2), .val (.int p3), .val (.int p4), .val (.int p5), .val (.int p6), .val (.int ww), .val (.int (0 : Int32)), .val (.ref b5), .val (.int (0 : Int32)), .val (.int ((0 : Int32) + (1 : Int32))), .val (.int (((0 : Int32) + (1 : Int32)) + (1 : Int32))), .val (.int ii), .val (.int jj), .val (.int kk), .val (.int ff), .val (.int jj), .val (.int ii), .val (.int ((((0 : Int32) + (1 : Int32)) + (1 : Int32)) + (1 : Int32))), .unset, .unset] [(.int ff), (.int kk), (.ref b5)])) rfl (by rw [hml]; rfl) (Steps.refl _) (argsL := [(.int kk), (.int ff)]) (rest := []) (lenOf pd__II_I rfl) rfl (by show 2 * 0 + _ ≤ _; exact Nat.le_of_eq rfl) (hb hby at_181) (fun _ _ => ⟨rfl, rfl, (by decide : 2 + 0 ≤ _), (by decide : 69 + 0 ≤ _)⟩)
    dsimp only [Pt.U, Pt.locs, Pt.cells, Pt.slots] at X53 l53 y53 z53 st53 hQ53
    subst l53 y53 z53
    obtain ⟨rfl, N53q, e53⟩ := hQ53
    have N53 := Fr.app N49 N53q
    have P54 : ∀ t, Steps p.tables e below (T53.setTop (mkF m 184 #[.val (.int p1), .val (.int p2), .val (.int p3), .val (.int p4), .val (.int p5), .val (.int p6), .val (.int ww), .val (.int (0 : Int32)), .val (.ref b5), .val (.int (0 : Int32)), .val (.int ((0 : Int32) + (1 : Int32))), .val (.int (((0 : Int32) + (1 : Int32)) + (1 : Int32))), .val (.int ii), .val (.int jj), .val (.int kk), .val (.int ff), .val (.int jj), .val (.int ii), .val (.int ((((0 : Int32) + (1 : Int32)) + (1 : Int32)) + (1 : Int32))), .unset, .unset] [(.int (φ49 ((ww * kk) + ff).toInt))])) t → Steps p.tables e below (s₁.setTop (mkF m 0 #[.val (.int p1), .val (.int p2), .val (.int p3), .val (.int p4), .val (.int p5), .val (.int p6), .unset, .unset, .unset, .unset, .unset, .unset, .unset, .unset, .unset, .unset, .unset, .unset, .unset, .unset, .unset] [])) t := fun t k => P52 t (st53.trans k)
    have P55 : ∀ t, Steps p.tables e below (T53.setTop (mkF m 249 #[.val (.int p1), .val (.int p2), .val (.int p3), .val (.int p4), .val (.int p5), .val (.int p6), .val (.int ww), .val (.int (0 : Int32)), .val (.ref b5), .val (.int (0 : Int32)), .val (.int ((0 : Int32) + (1 : Int32))), .val (.int (((0 : Int32) + (1 : Int32)) + (1 : Int32))), .val (.int ii), .val (.int jj), .val (.int kk), .val (.int ff), .val (.int jj), .val (.int ii), .val (.int ((((0 : Int32) + (1 : Int32)) + (1 : Int32)) + (1 : Int32))), .val (.int (φ49 ((ww * kk) + ff).toInt)), .val (.int (1 : Int32))] [(.int (1 : Int32))])) t → Steps p.tables e below (s₁.setTop (mkF m 0 #[.val (.int p1), .val (.int p2), .val (.int p3), .val (.int p4), .val (.int p5), .val (.int p6), .unset, .unset, .unset, .unset, .unset, .unset, .unset, .unset, .unset, .unset, .unset, .unset, .unset, .unset, .unset] [])) t := fun t k => by
      refine P54 t ?_
      show Steps p.tables e below (T53.setTop (mkF m 184 #[.val (.int p1), .val (.int p2), .val (.int p3), .val (.int p4), .val (.int p5), .val (.int p6), .val (.int ww), .val (.int (0 : Int32)), .val (.ref b5), .val (.int (0 : Int32)), .val (.int ((0 : Int32) + (1 : Int32))), .val (.int (((0 : Int32) + (1 : Int32)) + (1 : Int32))), .val (.int ii), .val (.int jj), .val (.int kk), .val (.int ff), .val (.int jj), .val (.int ii), .val (.int ((((0 : Int32) + (1 : Int32)) + (1 : Int32)) + (1 : Int32))), .unset, .unset] [(.int (φ49 ((ww * kk) + ff).toInt))])) t
      refine XS.istore X53.here hx rfl (hb hby at_184) rfl (l' := #[.val (.int p1), .val (.int p2), .val (.int p3), .val (.int p4), .val (.int p5), .val (.int p6), .val (.int ww), .val (.int (0 : Int32)), .val (.ref b5), .val (.int (0 : Int32)), .val (.int ((0 : Int32) + (1 : Int32))), .val (.int (((0 : Int32) + (1 : Int32)) + (1 : Int32))), .val (.int ii), .val (.int jj), .val (.int kk), .val (.int ff), .val (.int jj), .val (.int ii), .val (.int ((((0 : Int32) + (1 : Int32)) + (1 : Int32)) + (1 : Int32))), .val (.int (φ49 ((ww * kk) + ff).toInt)), .unset]) rfl ?_
      show Steps p.tables e below (T53.setTop (mkF m 186 #[.val (.int p1), .val (.int p2), .val (.int p3), .val (.int p4), .val (.int p5), .val (.int p6), .val (.int ww), .val (.int (0 : Int32)), .val (.ref b5), .val (.int (0 : Int32)), .val (.int ((0 : Int32) + (1 : Int32))), .val (.int (((0 : Int32) + (1 : Int32)) + (1 : Int32))), .val (.int ii), .val (.int jj), .val (.int kk), .val (.int ff), .val (.int jj), .val (.int ii), .val (.int ((((0 : Int32) + (1 : Int32)) + (1 : Int32)) + (1 : Int32))), .val (.int (φ49 ((ww * kk) + ff).toInt)), .unset] [])) t
      refine XS.iload X53.here hx rfl (hb hby at_186) rfl ?_
      show Steps p.tables e below (T53.setTop (mkF m 188 #[.val (.int p1), .val (.int p2), .val (.int p3), .val (.int p4), .val (.int p5), .val (.int p6), .val (.int ww), .val (.int (0 : Int32)), .val (.ref b5), .val (.int (0 : Int32)), .val (.int ((0 : Int32) + (1 : Int32))), .val (.int (((0 : Int32) + (1 : Int32)) + (1 : Int32))), .val (.int ii), .val (.int jj), .val (.int kk), .val (.int ff), .val (.int jj), .val (.int ii), .val (.int ((((0 : Int32) + (1 : Int32)) + (1 : Int32)) + (1 : Int32))), .val (.int (φ49 ((ww * kk) + ff).toInt)), .unset] [(.int jj)])) t
      refine XS.iload X53.here hx rfl (hb hby at_188) rfl ?_
      show Steps p.tables e below (T53.setTop (mkF m 190 #[.val (.int p1), .val (.int p2), .val (.int p3), .val (.int p4), .val (.int p5), .val (.int p6), .val (.int ww), .val (.int (0 : Int32)), .val (.ref b5), .val (.int (0 : Int32)), .val (.int ((0 : Int32) + (1 : Int32))), .val (.int (((0 : Int32) + (1 : Int32)) + (1 : Int32))), .val (.int ii), .val (.int jj), .val (.int kk), .val (.int ff), .val (.int jj), .val (.int ii), .val (.int ((((0 : Int32) + (1 : Int32)) + (1 : Int32)) + (1 : Int32))), .val (.int (φ49 ((ww * kk) + ff).toInt)), .unset] [(.int jj), (.int jj)])) t
      refine XS.icmpNo X53.here hx rfl (hb hby at_190) rfl (teq rfl).2 ?_
      show Steps p.tables e below (T53.setTop (mkF m 193 #[.val (.int p1), .val (.int p2), .val (.int p3), .val (.int p4), .val (.int p5), .val (.int p6), .val (.int ww), .val (.int (0 : Int32)), .val (.ref b5), .val (.int (0 : Int32)), .val (.int ((0 : Int32) + (1 : Int32))), .val (.int (((0 : Int32) + (1 : Int32)) + (1 : Int32))), .val (.int ii), .val (.int jj), .val (.int kk), .val (.int ff), .val (.int jj), .val (.int ii), .val (.int ((((0 : Int32) + (1 : Int32)) + (1 : Int32)) + (1 : Int32))), .val (.int (φ49 ((ww * kk) + ff).toInt)), .unset] [])) t
      refine XS.iload X53.here hx rfl (hb hby at_193) rfl ?_
      show Steps p.tables e below (T53.setTop (mkF m 195 #[.val (.int p1), .val (.int p2), .val (.int p3), .val (.int p4), .val (.int p5), .val (.int p6), .val (.int ww), .val (.int (0 : Int32)), .val (.ref b5), .val (.int (0 : Int32)), .val (.int ((0 : Int32) + (1 : Int32))), .val (.int (((0 : Int32) + (1 : Int32)) + (1 : Int32))), .val (.int ii), .val (.int jj), .val (.int kk), .val (.int ff), .val (.int jj), .val (.int ii), .val (.int ((((0 : Int32) + (1 : Int32)) + (1 : Int32)) + (1 : Int32))), .val (.int (φ49 ((ww * kk) + ff).toInt)), .unset] [(.int ii)])) t
      refine XS.iload X53.here hx rfl (hb hby at_195) rfl ?_
      show Steps p.tables e below (T53.setTop (mkF m 197 #[.val (.int p1), .val (.int p2), .val (.int p3), .val (.int p4), .val (.int p5), .val (.int p6), .val (.int ww), .val (.int (0 : Int32)), .val (.ref b5), .val (.int (0 : Int32)), .val (.int ((0 : Int32) + (1 : Int32))), .val (.int (((0 : Int32) + (1 : Int32)) + (1 : Int32))), .val (.int ii), .val (.int jj), .val (.int kk), .val (.int ff), .val (.int jj), .val (.int ii), .val (.int ((((0 : Int32) + (1 : Int32)) + (1 : Int32)) + (1 : Int32))), .val (.int (φ49 ((ww * kk) + ff).toInt)), .unset] [(.int ii), (.int ii)])) t
      refine XS.icmpNo X53.here hx rfl (hb hby at_197) rfl (teq rfl).2 ?_
      show Steps p.tables e below (T53.setTop (mkF m 200 #[.val (.int p1), .val (.int p2), .val (.int p3), .val (.int p4), .val (.int p5), .val (.int p6), .val (.int ww), .val (.int (0 : Int32)), .val (.ref b5), .val (.int (0 : Int32)), .val (.int ((0 : Int32) + (1 : Int32))), .val (.int (((0 : Int32) + (1 : Int32)) + (1 : Int32))), .val (.int ii), .val (.int jj), .val (.int kk), .val (.int ff), .val (.int jj), .val (.int ii), .val (.int ((((0 : Int32) + (1 : Int32)) + (1 : Int32)) + (1 : Int32))), .val (.int (φ49 ((ww * kk) + ff).toInt)), .unset] [])) t
      refine XS.iload X53.here hx rfl (hb hby at_200) rfl ?_
      show Steps p.tables e below (T53.setTop (mkF m 202 #[.val (.int p1), .val (.int p2), .val (.int p3), .val (.int p4), .val (.int p5), .val (.int p6), .val (.int ww), .val (.int (0 : Int32)), .val (.ref b5), .val (.int (0 : Int32)), .val (.int ((0 : Int32) + (1 : Int32))), .val (.int (((0 : Int32) + (1 : Int32)) + (1 : Int32))), .val (.int ii), .val (.int jj), .val (.int kk), .val (.int ff), .val (.int jj), .val (.int ii), .val (.int ((((0 : Int32) + (1 : Int32)) + (1 : Int32)) + (1 : Int32))), .val (.int (φ49 ((ww * kk) + ff).toInt)), .unset] [(.int ((((0 : Int32) + (1 : Int32)) + (1 : Int32)) + (1 : Int32)))])) t
      refine XS.iconst X53.here hx rfl (hb hby at_202) ?_
      show Steps p.tables e below (T53.setTop (mkF m 203 #[.val (.int p1), .val (.int p2), .val (.int p3), .val (.int p4), .val (.int p5), .val (.int p6), .val (.int ww), .val (.int (0 : Int32)), .val (.ref b5), .val (.int (0 : Int32)), .val (.int ((0 : Int32) + (1 : Int32))), .val (.int (((0 : Int32) + (1 : Int32)) + (1 : Int32))), .val (.int ii), .val (.int jj), .val (.int kk), .val (.int ff), .val (.int jj), .val (.int ii), .val (.int ((((0 : Int32) + (1 : Int32)) + (1 : Int32)) + (1 : Int32))), .val (.int (φ49 ((ww * kk) + ff).toInt)), .unset] [(.int (3 : Int32)), (.int ((((0 : Int32) + (1 : Int32)) + (1 : Int32)) + (1 : Int32)))])) t
      refine XS.icmpNo X53.here hx rfl (hb hby at_203) rfl (teq (by decide)).2 ?_
      show Steps p.tables e below (T53.setTop (mkF m 206 #[.val (.int p1), .val (.int p2), .val (.int p3), .val (.int p4), .val (.int p5), .val (.int p6), .val (.int ww), .val (.int (0 : Int32)), .val (.ref b5), .val (.int (0 : Int32)), .val (.int ((0 : Int32) + (1 : Int32))), .val (.int (((0 : Int32) + (1 : Int32)) + (1 : Int32))), .val (.int ii), .val (.int jj), .val (.int kk), .val (.int ff), .val (.int jj), .val (.int ii), .val (.int ((((0 : Int32) + (1 : Int32)) + (1 : Int32)) + (1 : Int32))), .val (.int (φ49 ((ww * kk) + ff).toInt)), .unset] [])) t
      refine XS.iload X53.here hx rfl (hb hby at_206) rfl ?_
      show Steps p.tables e below (T53.setTop (mkF m 208 #[.val (.int p1), .val (.int p2), .val (.int p3), .val (.int p4), .val (.int p5), .val (.int p6), .val (.int ww), .val (.int (0 : Int32)), .val (.ref b5), .val (.int (0 : Int32)), .val (.int ((0 : Int32) + (1 : Int32))), .val (.int (((0 : Int32) + (1 : Int32)) + (1 : Int32))), .val (.int ii), .val (.int jj), .val (.int kk), .val (.int ff), .val (.int jj), .val (.int ii), .val (.int ((((0 : Int32) + (1 : Int32)) + (1 : Int32)) + (1 : Int32))), .val (.int (φ49 ((ww * kk) + ff).toInt)), .unset] [(.int (φ49 ((ww * kk) + ff).toInt))])) t
      refine XS.iload X53.here hx rfl (hb hby at_208) rfl ?_
      show Steps p.tables e below (T53.setTop (mkF m 210 #[.val (.int p1), .val (.int p2), .val (.int p3), .val (.int p4), .val (.int p5), .val (.int p6), .val (.int ww), .val (.int (0 : Int32)), .val (.ref b5), .val (.int (0 : Int32)), .val (.int ((0 : Int32) + (1 : Int32))), .val (.int (((0 : Int32) + (1 : Int32)) + (1 : Int32))), .val (.int ii), .val (.int jj), .val (.int kk), .val (.int ff), .val (.int jj), .val (.int ii), .val (.int ((((0 : Int32) + (1 : Int32)) + (1 : Int32)) + (1 : Int32))), .val (.int (φ49 ((ww * kk) + ff).toInt)), .unset] [(.int p5), (.int (φ49 ((ww * kk) + ff).toInt))])) t
      refine XS.icmpNo X53.here hx rfl (hb hby at_210) rfl (teq hkept).2 ?_
      show Steps p.tables e below (T53.setTop (mkF m 213 #[.val (.int p1), .val (.int p2), .val (.int p3), .val (.int p4), .val (.int p5), .val (.int p6), .val (.int ww), .val (.int (0 : Int32)), .val (.ref b5), .val (.int (0 : Int32)), .val (.int ((0 : Int32) + (1 : Int32))), .val (.int (((0 : Int32) + (1 : Int32)) + (1 : Int32))), .val (.int ii), .val (.int jj), .val (.int kk), .val (.int ff), .val (.int jj), .val (.int ii), .val (.int ((((0 : Int32) + (1 : Int32)) + (1 : Int32)) + (1 : Int32))), .val (.int (φ49 ((ww * kk) + ff).toInt)), .unset] [])) t
      refine XS.iconst X53.here hx rfl (hb hby at_213) ?_
      show Steps p.tables e below (T53.setTop (mkF m 214 #[.val (.int p1), .val (.int p2), .val (.int p3), .val (.int p4), .val (.int p5), .val (.int p6), .val (.int ww), .val (.int (0 : Int32)), .val (.ref b5), .val (.int (0 : Int32)), .val (.int ((0 : Int32) + (1 : Int32))), .val (.int (((0 : Int32) + (1 : Int32)) + (1 : Int32))), .val (.int ii), .val (.int jj), .val (.int kk), .val (.int ff), .val (.int jj), .val (.int ii), .val (.int ((((0 : Int32) + (1 : Int32)) + (1 : Int32)) + (1 : Int32))), .val (.int (φ49 ((ww * kk) + ff).toInt)), .unset] [(.int (1 : Int32))])) t
      refine XS.goto X53.here hx rfl (pc0 := 214) (pc' := 218) rfl (hb hby at_214) (by decide) (by decide) ?_
      show Steps p.tables e below (T53.setTop (mkF m 218 #[.val (.int p1), .val (.int p2), .val (.int p3), .val (.int p4), .val (.int p5), .val (.int p6), .val (.int ww), .val (.int (0 : Int32)), .val (.ref b5), .val (.int (0 : Int32)), .val (.int ((0 : Int32) + (1 : Int32))), .val (.int (((0 : Int32) + (1 : Int32)) + (1 : Int32))), .val (.int ii), .val (.int jj), .val (.int kk), .val (.int ff), .val (.int jj), .val (.int ii), .val (.int ((((0 : Int32) + (1 : Int32)) + (1 : Int32)) + (1 : Int32))), .val (.int (φ49 ((ww * kk) + ff).toInt)), .unset] [(.int (1 : Int32))])) t
      refine XS.istore X53.here hx rfl (hb hby at_218) rfl (l' := #[.val (.int p1), .val (.int p2), .val (.int p3), .val (.int p4), .val (.int p5), .val (.int p6), .val (.int ww), .val (.int (0 : Int32)), .val (.ref b5), .val (.int (0 : Int32)), .val (.int ((0 : Int32) + (1 : Int32))), .val (.int (((0 : Int32) + (1 : Int32)) + (1 : Int32))), .val (.int ii), .val (.int jj), .val (.int kk), .val (.int ff), .val (.int jj), .val (.int ii), .val (.int ((((0 : Int32) + (1 : Int32)) + (1 : Int32)) + (1 : Int32))), .val (.int (φ49 ((ww * kk) + ff).toInt)), .val (.int (1 : Int32))]) rfl ?_
      show Steps p.tables e below (T53.setTop (mkF m 220 #[.val (.int p1), .val (.int p2), .val (.int p3), .val (.int p4), .val (.int p5), .val (.int p6), .val (.int ww), .val (.int (0 : Int32)), .val (.ref b5), .val (.int (0 : Int32)), .val (.int ((0 : Int32) + (1 : Int32))), .val (.int (((0 : Int32) + (1 : Int32)) + (1 : Int32))), .val (.int ii), .val (.int jj), .val (.int kk), .val (.int ff), .val (.int jj), .val (.int ii), .val (.int ((((0 : Int32) + (1 : Int32)) + (1 : Int32)) + (1 : Int32))), .val (.int (φ49 ((ww * kk) + ff).toInt)), .val (.int (1 : Int32))] [])) t
      refine XS.iload X53.here hx rfl (hb hby at_220) rfl ?_
      show Steps p.tables e below (T53.setTop (mkF m 222 #[.val (.int p1), .val (.int p2), .val (.int p3), .val (.int p4), .val (.int p5), .val (.int p6), .val (.int ww), .val (.int (0 : Int32)), .val (.ref b5), .val (.int (0 : Int32)), .val (.int ((0 : Int32) + (1 : Int32))), .val (.int (((0 : Int32) + (1 : Int32)) + (1 : Int32))), .val (.int ii), .val (.int jj), .val (.int kk), .val (.int ff), .val (.int jj), .val (.int ii), .val (.int ((((0 : Int32) + (1 : Int32)) + (1 : Int32)) + (1 : Int32))), .val (.int (φ49 ((ww * kk) + ff).toInt)), .val (.int (1 : Int32))] [(.int (0 : Int32))])) t
      refine XS.ifYes X53.here hx rfl (pc0 := 222) (pc' := 247) rfl (hb hby at_222) rfl ((if0 _ _).trans (teq rfl).1) (by decide) (by decide) ?_
      show Steps p.tables e below (T53.setTop (mkF m 247 #[.val (.int p1), .val (.int p2), .val (.int p3), .val (.int p4), .val (.int p5), .val (.int p6), .val (.int ww), .val (.int (0 : Int32)), .val (.ref b5), .val (.int (0 : Int32)), .val (.int ((0 : Int32) + (1 : Int32))), .val (.int (((0 : Int32) + (1 : Int32)) + (1 : Int32))), .val (.int ii), .val (.int jj), .val (.int kk), .val (.int ff), .val (.int jj), .val (.int ii), .val (.int ((((0 : Int32) + (1 : Int32)) + (1 : Int32)) + (1 : Int32))), .val (.int (φ49 ((ww * kk) + ff).toInt)), .val (.int (1 : Int32))] [])) t
      refine XS.iload X53.here hx rfl (hb hby at_247) rfl ?_
      exact k
    obtain ⟨fs, hr, hrun, hended, hW, hsame⟩ := X53.leave (v := some (.int (1 : Int32))) (fun h => by rw [Bd.returns] at h; cases h)
    refine ⟨_, _, pre0 _ (P55 _ ?_), hrun, hended, _, _, rfl, ?_, ⟨_, rfl⟩, hW, hsame.mono (by decide) (by decide)⟩
    · exact retN X53 hx (t := .boolean) Bd.returns (by simp) (hb hby at_249) hr
    · show Q0 Z p1 p2 p3 p4 p5 p6 wC cC h0 n0 _ T53.heap _
      rw [e53]
      exact ⟨rfl, N53⟩
  · have P56 : ∀ t, Steps p.tables e below (s₁.setTop (mkF m 21 #[.val (.int p1), .val (.int p2), .val (.int p3), .val (.int p4), .val (.int p5), .val (.int p6), .val (.int ww), .val (.int (1 : Int32)), .unset, .unset, .unset, .unset, .unset, .unset, .unset, .unset, .unset, .unset, .unset, .unset, .unset] [])) t → Steps p.tables e below (s₁.setTop (mkF m 0 #[.val (.int p1), .val (.int p2), .val (.int p3), .val (.int p4), .val (.int p5), .val (.int p6), .unset, .unset, .unset, .unset, .unset, .unset, .unset, .unset, .unset, .unset, .unset, .unset, .unset, .unset, .unset] [])) t := fun t k => by
      refine P2 t ?_
      show Steps p.tables e below (s₁.setTop (mkF m 11 #[.val (.int p1), .val (.int p2), .val (.int p3), .val (.int p4), .val (.int p5), .val (.int p6), .val (.int ww), .unset, .unset, .unset, .unset, .unset, .unset, .unset, .unset, .unset, .unset, .unset, .unset, .unset, .unset] [(.int (p6 &&& (1 : Int32)))])) t
      refine XS.ifNo X0.here hx rfl (hb hby at_11) rfl ((if0 _ _).trans (feq hc3).1) ?_
      show Steps p.tables e below (s₁.setTop (mkF m 14 #[.val (.int p1), .val (.int p2), .val (.int p3), .val (.int p4), .val (.int p5), .val (.int p6), .val (.int ww), .unset, .unset, .unset, .unset, .unset, .unset, .unset, .unset, .unset, .unset, .unset, .unset, .unset, .unset] [])) t
      refine XS.iconst X0.here hx rfl (hb hby at_14) ?_
      show Steps p.tables e below (s₁.setTop (mkF m 15 #[.val (.int p1), .val (.int p2), .val (.int p3), .val (.int p4), .val (.int p5), .val (.int p6), .val (.int ww), .unset, .unset, .unset, .unset, .unset, .unset, .unset, .unset, .unset, .unset, .unset, .unset, .unset, .unset] [(.int (1 : Int32))])) t
      refine XS.goto X0.here hx rfl (pc0 := 15) (pc' := 19) rfl (hb hby at_15) (by decide) (by decide) ?_
      show Steps p.tables e below (s₁.setTop (mkF m 19 #[.val (.int p1), .val (.int p2), .val (.int p3), .val (.int p4), .val (.int p5), .val (.int p6), .val (.int ww), .unset, .unset, .unset, .unset, .unset, .unset, .unset, .unset, .unset, .unset, .unset, .unset, .unset, .unset] [(.int (1 : Int32))])) t
      refine XS.istore X0.here hx rfl (hb hby at_19) rfl (l' := #[.val (.int p1), .val (.int p2), .val (.int p3), .val (.int p4), .val (.int p5), .val (.int p6), .val (.int ww), .val (.int (1 : Int32)), .unset, .unset, .unset, .unset, .unset, .unset, .unset, .unset, .unset, .unset, .unset, .unset, .unset]) rfl ?_
      exact k
    obtain ⟨T57, h57, X57, e57, E57, A57, D57, -, st57⟩ := newO X0 hx hZ hown (hw _ (List.mem_of_getElem? (i := 0) rfl)) (hw _ (List.mem_of_getElem? (i := 1) rfl)) (hw _ (List.mem_of_getElem? (i := 2) rfl)) e0 (g := (mkF m 21 #[.val (.int p1), .val (.int p2), .val (.int p3), .val (.int p4), .val (.int p5), .val (.int p6), .val (.int ww), .val (.int (1 : Int32)), .unset, .unset, .unset, .unset, .unset, .unset, .unset, .unset, .unset, .unset, .unset, .unset, .unset] [])) rfl (hb hby at_21) (by decide) (by decide)
    obtain ⟨b57, g57⟩ : ∃ z, z = h0.size := ⟨_, rfl⟩
    rw [← g57] at A57 D57 st57
    have g_b57 : n0 ≤ b57 := Nat.le_trans Z0 (Nat.le_of_eq g57.symm)
    have OL_57 := OL_0.ext E57
    have Z_58 : n0 ≤ h57.size := Nat.le_trans Z0 E57.1
    have F_free_b57 : Fld Z h57 b57 "com/example/weftwork/weftwork/Rows" "free" "I" (.int (0 : Int32)) := D57 (Or.inl (hw _ (List.mem_of_getElem? (i := 10) rfl))) (ty := .int) (by decide)
    have F_width_b57 : Fld Z h57 b57 "com/example/weftwork/weftwork/Rows" "width" "I" (.int (0 : Int32)) := D57 (Or.inr (hw _ (List.mem_of_getElem? (i := 12) rfl))) (ty := .int) (by decide)
    have F_fields_b57 : Fld Z h57 b57 "com/example/weftwork/weftwork/Rows" "fields" "[I" .null := D57 (Or.inl (hw _ (List.mem_of_getElem? (i := 15) rfl))) (ty := (.array .int)) (by decide)
    have F_objects_b57 : Fld Z h57 b57 "com/example/weftwork/weftwork/Rows" "objects" "[Ljava/lang/Object;" .null := D57 (Or.inl (hw _ (List.mem_of_getElem? (i := 19) rfl))) (ty := (.array (.object "java/lang/Object"))) (by decide)
    have F_made_b57 : Fld Z h57 b57 "com/example/weftwork/weftwork/Rows" "made" "I" (.int (0 : Int32)) := D57 (Or.inl (hw _ (List.mem_of_getElem? (i := 26) rfl))) (ty := .int) (by decide)
    have P59 : ∀ t, Steps p.tables e below (T57.setTop (mkF m 24 #[.val (.int p1), .val (.int p2), .val (.int p3), .val (.int p4), .val (.int p5), .val (.int p6), .val (.int ww), .val (.int (1 : Int32)), .unset, .unset, .unset, .unset, .unset, .unset, .unset, .unset, .unset, .unset, .unset, .unset, .unset] [(.ref b57)])) t → Steps p.tables e below (s₁.setTop (mkF m 0 #[.val (.int p1), .val (.int p2), .val (.int p3), .val (.int p4), .val (.int p5), .val (.int p6), .unset, .unset, .unset, .unset, .unset, .unset, .unset, .unset, .unset, .unset, .unset, .unset, .unset, .unset, .unset] [])) t := fun t k => P56 t (st57 _ k)
    have P60 : ∀ t, Steps p.tables e below (T57.setTop (mkF m 29 #[.val (.int p1), .val (.int p2), .val (.int p3), .val (.int p4), .val (.int p5), .val (.int p6), .val (.int ww), .val (.int (1 : Int32)), .unset, .unset, .unset, .unset, .unset, .unset, .unset, .unset, .unset, .unset, .unset, .unset, .unset] [(.int (1 : Int32)), (.int ww), (.ref b57), (.ref b57)])) t → Steps p.tables e below (s₁.setTop (mkF m 0 #[.val (.int p1), .val (.int p2), .val (.int p3), .val (.int p4), .val (.int p5), .val (.int p6), .unset, .unset, .unset, .unset, .unset, .unset, .unset, .unset, .unset, .unset, .unset, .unset, .unset, .unset, .unset] [])) t := fun t k => by
      refine P59 t ?_
      show Steps p.tables e below (T57.setTop (mkF m 24 #[.val (.int p1), .val (.int p2), .val (.int p3), .val (.int p4), .val (.int p5), .val (.int p6), .val (.int ww), .val (.int (1 : Int32)), .unset, .unset, .unset, .unset, .unset, .unset, .unset, .unset, .unset, .unset, .unset, .unset, .unset] [(.ref b57)])) t
      refine XS.dup X57.here hx rfl (hb hby at_24) rfl rfl ?_
      show Steps p.tables e below (T57.setTop (mkF m 25 #[.val (.int p1), .val (.int p2), .val (.int p3), .val (.int p4), .val (.int p5), .val (.int p6), .val (.int ww), .val (.int (1 : Int32)), .unset, .unset, .unset, .unset, .unset, .unset, .unset, .unset, .unset, .unset, .unset, .unset, .unset] [(.ref b57), (.ref b57)])) t
      refine XS.iload X57.here hx rfl (hb hby at_25) rfl ?_
      show Steps p.tables e below (T57.setTop (mkF m 27 #[.val (.int p1), .val (.int p2), .val (.int p3), .val (.int p4), .val (.int p5), .val (.int p6), .val (.int ww), .val (.int (1 : Int32)), .unset, .unset, .unset, .unset, .unset, .unset, .unset, .unset, .unset, .unset, .unset, .unset, .unset] [(.int ww), (.ref b57), (.ref b57)])) t
      refine XS.iload X57.here hx rfl (hb hby at_27) rfl ?_
      exact k
    obtain ⟨_, _, ⟨T61, L61, k61, n61⟩, -, X61, ⟨Lc61, hQ61, l61, y61, z61⟩, st61⟩ := X57.specialBack hx (y := (⟨"com/example/weftwork/weftwork/Rows", "<init>", "(IZ)V"⟩ : MethodName)) rfl hown (mvT hZ (hw _ (List.mem_of_getElem? (i := 3) rfl))) (mvT hZ (hw _ (List.mem_of_getElem? (i := 4) rfl))) (mvT hZ (hw _ (List.mem_of_getElem? (i := 5) rfl))) (by decide) (backOf (W := 1) (rm1o l Z a0 hw [] b57 ww (1 : Int32) h57 n0 Z_58 A57 F_free_b57 F_width_b57 F_fields_b57 F_objects_b57 F_made_b57 g_b57 hneg hcap (by decide)) hZ (hw _ (List.mem_of_getElem? (i := 5) rfl)) (hw _ (List.mem_of_getElem? (i := 2) rfl)) (by decide) (by decide)) (g := (mkF m 29 #[.val (.int p1), .val (.int p2), .val (.int p3), .val (.int p4), .val (.int p5), .val (.int p6), .val (.int ww), .val (.int (1 : Int32)), .unset, .unset, .unset, .unset, .unset, .unset, .unset, .unset, .unset, .unset, .unset, .unset, .unset] [(.int (1 : Int32)), (.int ww), (.ref b57), (.ref b57)])) rfl (by rw [hml]; rfl) (Steps.refl _) (a := b57) (argsL := [(.int ww), (.int (1 : Int32))]) (rest := [(.ref b57)]) (lenOf pd__IZ_V rfl) rfl (by show 2 * 0 + _ ≤ _; exact Nat.le_of_eq rfl) (hb hby at_29) (fun _ _ => ⟨rfl, e57, (by decide : 1 + 2 ≤ _), (by decide : 5 + 80 ≤ _)⟩)
    dsimp only [Pt.U, Pt.locs, Pt.cells, Pt.slots] at X61 l61 y61 z61 st61 hQ61
    subst l61 y61 z61
    obtain ⟨fa, oa, rfl, N61q, K61, E61x, Fa61, Fb61, Fc61, Fd61, Fe61, V61x, ne_r_fa, g_fa, ne_r_oa, g_oa, ne_fa_oa, ko, VO_0, OV⟩ := hQ61
    have OL_61 := OL_57.keep K61 (allS g_b57 all0)
    have A57_61 := A57.keep K61
    have Z_62 : n0 ≤ T61.heap.size := Nat.le_trans Z_58 K61.1
    obtain ⟨φ61, hφ61⟩ : ∃ z, z = (fun _ => 0 : Int → Int32) := ⟨_, rfl⟩
    rw [← hφ61] at V61x
    have N61 := Fr.app N0 N61q
    have P63 : ∀ t, Steps p.tables e below (T61.setTop (mkF m 32 #[.val (.int p1), .val (.int p2), .val (.int p3), .val (.int p4), .val (.int p5), .val (.int p6), .val (.int ww), .val (.int (1 : Int32)), .unset, .unset, .unset, .unset, .unset, .unset, .unset, .unset, .unset, .unset, .unset, .unset, .unset] [(.ref b57)])) t → Steps p.tables e below (s₁.setTop (mkF m 0 #[.val (.int p1), .val (.int p2), .val (.int p3), .val (.int p4), .val (.int p5), .val (.int p6), .unset, .unset, .unset, .unset, .unset, .unset, .unset, .unset, .unset, .unset, .unset, .unset, .unset, .unset, .unset] [])) t := fun t k => P60 t (st61.trans k)
    have P64 : ∀ t, Steps p.tables e below (T61.setTop (mkF m 36 #[.val (.int p1), .val (.int p2), .val (.int p3), .val (.int p4), .val (.int p5), .val (.int p6), .val (.int ww), .val (.int (1 : Int32)), .val (.ref b57), .unset, .unset, .unset, .unset, .unset, .unset, .unset, .unset, .unset, .unset, .unset, .unset] [(.ref b57)])) t → Steps p.tables e below (s₁.setTop (mkF m 0 #[.val (.int p1), .val (.int p2), .val (.int p3), .val (.int p4), .val (.int p5), .val (.int p6), .unset, .unset, .unset, .unset, .unset, .unset, .unset, .unset, .unset, .unset, .unset, .unset, .unset, .unset, .unset] [])) t := fun t k => by
      refine P63 t ?_
      show Steps p.tables e below (T61.setTop (mkF m 32 #[.val (.int p1), .val (.int p2), .val (.int p3), .val (.int p4), .val (.int p5), .val (.int p6), .val (.int ww), .val (.int (1 : Int32)), .unset, .unset, .unset, .unset, .unset, .unset, .unset, .unset, .unset, .unset, .unset, .unset, .unset] [(.ref b57)])) t
      refine XS.astore X61.here hx rfl (hb hby at_32) rfl rfl (l' := #[.val (.int p1), .val (.int p2), .val (.int p3), .val (.int p4), .val (.int p5), .val (.int p6), .val (.int ww), .val (.int (1 : Int32)), .val (.ref b57), .unset, .unset, .unset, .unset, .unset, .unset, .unset, .unset, .unset, .unset, .unset, .unset]) rfl ?_
      show Steps p.tables e below (T61.setTop (mkF m 34 #[.val (.int p1), .val (.int p2), .val (.int p3), .val (.int p4), .val (.int p5), .val (.int p6), .val (.int ww), .val (.int (1 : Int32)), .val (.ref b57), .unset, .unset, .unset, .unset, .unset, .unset, .unset, .unset, .unset, .unset, .unset, .unset] [])) t
      refine XS.aload X61.here hx rfl (hb hby at_34) rfl rfl ?_
      exact k
    obtain ⟨cq65, kq65, q65a, q65b, q65c⟩ := isOf hZ rfl A57_61
    obtain ⟨_, _, ⟨T65, L65, k65, n65⟩, -, X65, ⟨Lc65, hQ65, l65, y65, z65⟩, st65⟩ := X61.virtualBack hx (y := (⟨"com/example/weftwork/weftwork/Rows", "make", "()I"⟩ : MethodName)) (z := (⟨"com/example/weftwork/weftwork/Rows", "make", "()I"⟩ : MethodName)) hown (mvT hZ (hw _ (List.mem_of_getElem? (i := 20) rfl))) (mvT hZ (hw _ (List.mem_of_getElem? (i := 21) rfl))) (notFace_of_selects (args := #[]) (mvT hZ (hw _ (List.mem_of_getElem? (i := 23) rfl)))) (mvT hZ (hw _ (List.mem_of_getElem? (i := 23) rfl))) (mvT hZ (hw _ (List.mem_of_getElem? (i := 22) rfl))) (by decide) (backOf (W := 0) (rm2f l Z a0 hw [] b57 fa (.ref oa) ww (0 : Int32) φ61 T61.heap n0 Z_62 A57_61 Fa61 Fb61 Fc61 Fd61 Fe61 V61x ne_r_fa g_b57 g_fa w1 w4 (by decide) (by decide)) hZ (hw _ (List.mem_of_getElem? (i := 24) rfl)) (hw _ (List.mem_of_getElem? (i := 2) rfl)) (by decide) (by decide)) q65a q65c (g := (mkF m 36 #[.val (.int p1), .val (.int p2), .val (.int p3), .val (.int p4), .val (.int p5), .val (.int p6), .val (.int ww), .val (.int (1 : Int32)), .val (.ref b57), .unset, .unset, .unset, .unset, .unset, .unset, .unset, .unset, .unset, .unset, .unset, .unset] [(.ref b57)])) rfl (by rw [hml]; rfl) (Steps.refl _) (argsL := []) (rest := []) (lenOf pd___I rfl) rfl (by show 2 * 0 + _ ≤ _; exact Nat.le_of_eq rfl) (hb hby at_36) (fun _ _ => ⟨rfl, rfl, (by decide : 3 + 0 ≤ _), (by decide : 85 + 0 ≤ _)⟩)
    dsimp only [Pt.U, Pt.locs, Pt.cells, Pt.slots] at X65 l65 y65 z65 st65 hQ65
    subst l65 y65 z65
    obtain ⟨rfl, N65q, K65, E65x, Fa65, Fb65, Fc65, Fd65, Fe65, V65x⟩ := hQ65
    have OL_65 := OL_61.keep K65 (allS g_b57 (allS g_fa all0))
    have A57_65 := A57_61.keep K65
    have VO_65 := VO_0.keep K65 (ninS (Ne.symm ne_r_oa) (ninS (Ne.symm ne_fa_oa) nin0))
    have Z_66 : n0 ≤ T65.heap.size := Nat.le_trans Z_62 K65.1
    obtain ⟨φ65, hφ65⟩ : ∃ z, z = own_fill φ61 (ww * (0 : Int32)).toInt (ww * ((0 : Int32) + (1 : Int32))).toInt (-1 : Int32) := ⟨_, rfl⟩
    rw [← hφ65] at V65x
    have N65 := Fr.app N61 N65q
    have P67 : ∀ t, Steps p.tables e below (T65.setTop (mkF m 39 #[.val (.int p1), .val (.int p2), .val (.int p3), .val (.int p4), .val (.int p5), .val (.int p6), .val (.int ww), .val (.int (1 : Int32)), .val (.ref b57), .unset, .unset, .unset, .unset, .unset, .unset, .unset, .unset, .unset, .unset, .unset, .unset] [(.int (0 : Int32))])) t → Steps p.tables e below (s₁.setTop (mkF m 0 #[.val (.int p1), .val (.int p2), .val (.int p3), .val (.int p4), .val (.int p5), .val (.int p6), .unset, .unset, .unset, .unset, .unset, .unset, .unset, .unset, .unset, .unset, .unset, .unset, .unset, .unset, .unset] [])) t := fun t k => P64 t (st65.trans k)
    have P68 : ∀ t, Steps p.tables e below (T65.setTop (mkF m 43 #[.val (.int p1), .val (.int p2), .val (.int p3), .val (.int p4), .val (.int p5), .val (.int p6), .val (.int ww), .val (.int (1 : Int32)), .val (.ref b57), .val (.int (0 : Int32)), .unset, .unset, .unset, .unset, .unset, .unset, .unset, .unset, .unset, .unset, .unset] [(.ref b57)])) t → Steps p.tables e below (s₁.setTop (mkF m 0 #[.val (.int p1), .val (.int p2), .val (.int p3), .val (.int p4), .val (.int p5), .val (.int p6), .unset, .unset, .unset, .unset, .unset, .unset, .unset, .unset, .unset, .unset, .unset, .unset, .unset, .unset, .unset] [])) t := fun t k => by
      refine P67 t ?_
      show Steps p.tables e below (T65.setTop (mkF m 39 #[.val (.int p1), .val (.int p2), .val (.int p3), .val (.int p4), .val (.int p5), .val (.int p6), .val (.int ww), .val (.int (1 : Int32)), .val (.ref b57), .unset, .unset, .unset, .unset, .unset, .unset, .unset, .unset, .unset, .unset, .unset, .unset] [(.int (0 : Int32))])) t
      refine XS.istore X65.here hx rfl (hb hby at_39) rfl (l' := #[.val (.int p1), .val (.int p2), .val (.int p3), .val (.int p4), .val (.int p5), .val (.int p6), .val (.int ww), .val (.int (1 : Int32)), .val (.ref b57), .val (.int (0 : Int32)), .unset, .unset, .unset, .unset, .unset, .unset, .unset, .unset, .unset, .unset, .unset]) rfl ?_
      show Steps p.tables e below (T65.setTop (mkF m 41 #[.val (.int p1), .val (.int p2), .val (.int p3), .val (.int p4), .val (.int p5), .val (.int p6), .val (.int ww), .val (.int (1 : Int32)), .val (.ref b57), .val (.int (0 : Int32)), .unset, .unset, .unset, .unset, .unset, .unset, .unset, .unset, .unset, .unset, .unset] [])) t
      refine XS.aload X65.here hx rfl (hb hby at_41) rfl rfl ?_
      exact k
    obtain ⟨cq69, kq69, q69a, q69b, q69c⟩ := isOf hZ rfl A57_65
    obtain ⟨_, _, ⟨T69, L69, k69, n69⟩, -, X69, ⟨Lc69, hQ69, l69, y69, z69⟩, st69⟩ := X65.virtualBack hx (y := (⟨"com/example/weftwork/weftwork/Rows", "make", "()I"⟩ : MethodName)) (z := (⟨"com/example/weftwork/weftwork/Rows", "make", "()I"⟩ : MethodName)) hown (mvT hZ (hw _ (List.mem_of_getElem? (i := 20) rfl))) (mvT hZ (hw _ (List.mem_of_getElem? (i := 21) rfl))) (notFace_of_selects (args := #[]) (mvT hZ (hw _ (List.mem_of_getElem? (i := 23) rfl)))) (mvT hZ (hw _ (List.mem_of_getElem? (i := 23) rfl))) (mvT hZ (hw _ (List.mem_of_getElem? (i := 22) rfl))) (by decide) (backOf (W := 0) (rm2f l Z a0 hw [] b57 fa (.ref oa) ww ((0 : Int32) + (1 : Int32)) φ65 T65.heap n0 Z_66 A57_65 Fa65 Fb65 Fc65 Fd65 Fe65 V65x ne_r_fa g_b57 g_fa w1 w4 (by decide) (by decide)) hZ (hw _ (List.mem_of_getElem? (i := 24) rfl)) (hw _ (List.mem_of_getElem? (i := 2) rfl)) (by decide) (by decide)) q69a q69c (g := (mkF m 43 #[.val (.int p1), .val (.int p2), .val (.int p3), .val (.int p4), .val (.int p5), .val (.int p6), .val (.int ww), .val (.int (1 : Int32)), .val (.ref b57), .val (.int (0 : Int32)), .unset, .unset, .unset, .unset, .unset, .unset, .unset, .unset, .unset, .unset, .unset] [(.ref b57)])) rfl (by rw [hml]; rfl) (Steps.refl _) (argsL := []) (rest := []) (lenOf pd___I rfl) rfl (by show 2 * 0 + _ ≤ _; exact Nat.le_of_eq rfl) (hb hby at_43) (fun _ _ => ⟨rfl, rfl, (by decide : 3 + 0 ≤ _), (by decide : 85 + 0 ≤ _)⟩)
    dsimp only [Pt.U, Pt.locs, Pt.cells, Pt.slots] at X69 l69 y69 z69 st69 hQ69
    subst l69 y69 z69
    obtain ⟨rfl, N69q, K69, E69x, Fa69, Fb69, Fc69, Fd69, Fe69, V69x⟩ := hQ69
    have OL_69 := OL_65.keep K69 (allS g_b57 (allS g_fa all0))
    have A57_69 := A57_65.keep K69
    have VO_69 := VO_65.keep K69 (ninS (Ne.symm ne_r_oa) (ninS (Ne.symm ne_fa_oa) nin0))
    have Z_70 : n0 ≤ T69.heap.size := Nat.le_trans Z_66 K69.1
    obtain ⟨φ69, hφ69⟩ : ∃ z, z = own_fill φ65 (ww * ((0 : Int32) + (1 : Int32))).toInt (ww * (((0 : Int32) + (1 : Int32)) + (1 : Int32))).toInt (-1 : Int32) := ⟨_, rfl⟩
    rw [← hφ69] at V69x
    have N69 := Fr.app N65 N69q
    have P71 : ∀ t, Steps p.tables e below (T69.setTop (mkF m 46 #[.val (.int p1), .val (.int p2), .val (.int p3), .val (.int p4), .val (.int p5), .val (.int p6), .val (.int ww), .val (.int (1 : Int32)), .val (.ref b57), .val (.int (0 : Int32)), .unset, .unset, .unset, .unset, .unset, .unset, .unset, .unset, .unset, .unset, .unset] [(.int ((0 : Int32) + (1 : Int32)))])) t → Steps p.tables e below (s₁.setTop (mkF m 0 #[.val (.int p1), .val (.int p2), .val (.int p3), .val (.int p4), .val (.int p5), .val (.int p6), .unset, .unset, .unset, .unset, .unset, .unset, .unset, .unset, .unset, .unset, .unset, .unset, .unset, .unset, .unset] [])) t := fun t k => P68 t (st69.trans k)
    have P72 : ∀ t, Steps p.tables e below (T69.setTop (mkF m 50 #[.val (.int p1), .val (.int p2), .val (.int p3), .val (.int p4), .val (.int p5), .val (.int p6), .val (.int ww), .val (.int (1 : Int32)), .val (.ref b57), .val (.int (0 : Int32)), .val (.int ((0 : Int32) + (1 : Int32))), .unset, .unset, .unset, .unset, .unset, .unset, .unset, .unset, .unset, .unset] [(.ref b57)])) t → Steps p.tables e below (s₁.setTop (mkF m 0 #[.val (.int p1), .val (.int p2), .val (.int p3), .val (.int p4), .val (.int p5), .val (.int p6), .unset, .unset, .unset, .unset, .unset, .unset, .unset, .unset, .unset, .unset, .unset, .unset, .unset, .unset, .unset] [])) t := fun t k => by
      refine P71 t ?_
      show Steps p.tables e below (T69.setTop (mkF m 46 #[.val (.int p1), .val (.int p2), .val (.int p3), .val (.int p4), .val (.int p5), .val (.int p6), .val (.int ww), .val (.int (1 : Int32)), .val (.ref b57), .val (.int (0 : Int32)), .unset, .unset, .unset, .unset, .unset, .unset, .unset, .unset, .unset, .unset, .unset] [(.int ((0 : Int32) + (1 : Int32)))])) t
      refine XS.istore X69.here hx rfl (hb hby at_46) rfl (l' := #[.val (.int p1), .val (.int p2), .val (.int p3), .val (.int p4), .val (.int p5), .val (.int p6), .val (.int ww), .val (.int (1 : Int32)), .val (.ref b57), .val (.int (0 : Int32)), .val (.int ((0 : Int32) + (1 : Int32))), .unset, .unset, .unset, .unset, .unset, .unset, .unset, .unset, .unset, .unset]) rfl ?_
      show Steps p.tables e below (T69.setTop (mkF m 48 #[.val (.int p1), .val (.int p2), .val (.int p3), .val (.int p4), .val (.int p5), .val (.int p6), .val (.int ww), .val (.int (1 : Int32)), .val (.ref b57), .val (.int (0 : Int32)), .val (.int ((0 : Int32) + (1 : Int32))), .unset, .unset, .unset, .unset, .unset, .unset, .unset, .unset, .unset, .unset] [])) t
      refine XS.aload X69.here hx rfl (hb hby at_48) rfl rfl ?_
      exact k
    obtain ⟨cq73, kq73, q73a, q73b, q73c⟩ := isOf hZ rfl A57_69
    obtain ⟨_, _, ⟨T73, L73, k73, n73⟩, -, X73, ⟨Lc73, hQ73, l73, y73, z73⟩, st73⟩ := X69.virtualBack hx (y := (⟨"com/example/weftwork/weftwork/Rows", "make", "()I"⟩ : MethodName)) (z := (⟨"com/example/weftwork/weftwork/Rows", "make", "()I"⟩ : MethodName)) hown (mvT hZ (hw _ (List.mem_of_getElem? (i := 20) rfl))) (mvT hZ (hw _ (List.mem_of_getElem? (i := 21) rfl))) (notFace_of_selects (args := #[]) (mvT hZ (hw _ (List.mem_of_getElem? (i := 23) rfl)))) (mvT hZ (hw _ (List.mem_of_getElem? (i := 23) rfl))) (mvT hZ (hw _ (List.mem_of_getElem? (i := 22) rfl))) (by decide) (backOf (W := 0) (rm2f l Z a0 hw [] b57 fa (.ref oa) ww (((0 : Int32) + (1 : Int32)) + (1 : Int32)) φ69 T69.heap n0 Z_70 A57_69 Fa69 Fb69 Fc69 Fd69 Fe69 V69x ne_r_fa g_b57 g_fa w1 w4 (by decide) (by decide)) hZ (hw _ (List.mem_of_getElem? (i := 24) rfl)) (hw _ (List.mem_of_getElem? (i := 2) rfl)) (by decide) (by decide)) q73a q73c (g := (mkF m 50 #[.val (.int p1), .val (.int p2), .val (.int p3), .val (.int p4), .val (.int p5), .val (.int p6), .val (.int ww), .val (.int (1 : Int32)), .val (.ref b57), .val (.int (0 : Int32)), .val (.int ((0 : Int32) + (1 : Int32))), .unset, .unset, .unset, .unset, .unset, .unset, .unset, .unset, .unset, .unset] [(.ref b57)])) rfl (by rw [hml]; rfl) (Steps.refl _) (argsL := []) (rest := []) (lenOf pd___I rfl) rfl (by show 2 * 0 + _ ≤ _; exact Nat.le_of_eq rfl) (hb hby at_50) (fun _ _ => ⟨rfl, rfl, (by decide : 3 + 0 ≤ _), (by decide : 85 + 0 ≤ _)⟩)
    dsimp only [Pt.U, Pt.locs, Pt.cells, Pt.slots] at X73 l73 y73 z73 st73 hQ73
    subst l73 y73 z73
    obtain ⟨rfl, N73q, K73, E73x, Fa73, Fb73, Fc73, Fd73, Fe73, V73x⟩ := hQ73
    have OL_73 := OL_69.keep K73 (allS g_b57 (allS g_fa all0))
    have A57_73 := A57_69.keep K73
    have VO_73 := VO_69.keep K73 (ninS (Ne.symm ne_r_oa) (ninS (Ne.symm ne_fa_oa) nin0))
    have Z_74 : n0 ≤ T73.heap.size := Nat.le_trans Z_70 K73.1
    obtain ⟨φ73, hφ73⟩ : ∃ z, z = own_fill φ69 (ww * (((0 : Int32) + (1 : Int32)) + (1 : Int32))).toInt (ww * ((((0 : Int32) + (1 : Int32)) + (1 : Int32)) + (1 : Int32))).toInt (-1 : Int32) := ⟨_, rfl⟩
    rw [← hφ73] at V73x
    have N73 := Fr.app N69 N73q
    have P75 : ∀ t, Steps p.tables e below (T73.setTop (mkF m 53 #[.val (.int p1), .val (.int p2), .val (.int p3), .val (.int p4), .val (.int p5), .val (.int p6), .val (.int ww), .val (.int (1 : Int32)), .val (.ref b57), .val (.int (0 : Int32)), .val (.int ((0 : Int32) + (1 : Int32))), .unset, .unset, .unset, .unset, .unset, .unset, .unset, .unset, .unset, .unset] [(.int (((0 : Int32) + (1 : Int32)) + (1 : Int32)))])) t → Steps p.tables e below (s₁.setTop (mkF m 0 #[.val (.int p1), .val (.int p2), .val (.int p3), .val (.int p4), .val (.int p5), .val (.int p6), .unset, .unset, .unset, .unset, .unset, .unset, .unset, .unset, .unset, .unset, .unset, .unset, .unset, .unset, .unset] [])) t := fun t k => P72 t (st73.trans k)
    have P76 : ∀ t, Steps p.tables e below (T73.setTop (mkF m 82 #[.val (.int p1), .val (.int p2), .val (.int p3), .val (.int p4), .val (.int p5), .val (.int p6), .val (.int ww), .val (.int (1 : Int32)), .val (.ref b57), .val (.int (0 : Int32)), .val (.int ((0 : Int32) + (1 : Int32))), .val (.int (((0 : Int32) + (1 : Int32)) + (1 : Int32))), .val (.int ((p2 &&& (2147483647 : Int32)) % (3 : Int32))), .unset, .unset, .unset, .unset, .unset, .unset, .unset, .unset] [])) t → Steps p.tables e below (s₁.setTop (mkF m 0 #[.val (.int p1), .val (.int p2), .val (.int p3), .val (.int p4), .val (.int p5), .val (.int p6), .unset, .unset, .unset, .unset, .unset, .unset, .unset, .unset, .unset, .unset, .unset, .unset, .unset, .unset, .unset] [])) t := fun t k => by
      refine P75 t ?_
      show Steps p.tables e below (T73.setTop (mkF m 53 #[.val (.int p1), .val (.int p2), .val (.int p3), .val (.int p4), .val (.int p5), .val (.int p6), .val (.int ww), .val (.int (1 : Int32)), .val (.ref b57), .val (.int (0 : Int32)), .val (.int ((0 : Int32) + (1 : Int32))), .unset, .unset, .unset, .unset, .unset, .unset, .unset, .unset, .unset, .unset] [(.int (((0 : Int32) + (1 : Int32)) + (1 : Int32)))])) t
      refine XS.istore X73.here hx rfl (hb hby at_53) rfl (l' := #[.val (.int p1), .val (.int p2), .val (.int p3), .val (.int p4), .val (.int p5), .val (.int p6), .val (.int ww), .val (.int (1 : Int32)), .val (.ref b57), .val (.int (0 : Int32)), .val (.int ((0 : Int32) + (1 : Int32))), .val (.int (((0 : Int32) + (1 : Int32)) + (1 : Int32))), .unset, .unset, .unset, .unset, .unset, .unset, .unset, .unset, .unset]) rfl ?_
      show Steps p.tables e below (T73.setTop (mkF m 55 #[.val (.int p1), .val (.int p2), .val (.int p3), .val (.int p4), .val (.int p5), .val (.int p6), .val (.int ww), .val (.int (1 : Int32)), .val (.ref b57), .val (.int (0 : Int32)), .val (.int ((0 : Int32) + (1 : Int32))), .val (.int (((0 : Int32) + (1 : Int32)) + (1 : Int32))), .unset, .unset, .unset, .unset, .unset, .unset, .unset, .unset, .unset] [])) t
      refine XS.iload X73.here hx rfl (hb hby at_55) rfl ?_
      show Steps p.tables e below (T73.setTop (mkF m 57 #[.val (.int p1), .val (.int p2), .val (.int p3), .val (.int p4), .val (.int p5), .val (.int p6), .val (.int ww), .val (.int (1 : Int32)), .val (.ref b57), .val (.int (0 : Int32)), .val (.int ((0 : Int32) + (1 : Int32))), .val (.int (((0 : Int32) + (1 : Int32)) + (1 : Int32))), .unset, .unset, .unset, .unset, .unset, .unset, .unset, .unset, .unset] [(.int (0 : Int32))])) t
      refine XS.ifNo X73.here hx rfl (hb hby at_57) rfl ((if0 _ _).trans (teq rfl).2) ?_
      show Steps p.tables e below (T73.setTop (mkF m 60 #[.val (.int p1), .val (.int p2), .val (.int p3), .val (.int p4), .val (.int p5), .val (.int p6), .val (.int ww), .val (.int (1 : Int32)), .val (.ref b57), .val (.int (0 : Int32)), .val (.int ((0 : Int32) + (1 : Int32))), .val (.int (((0 : Int32) + (1 : Int32)) + (1 : Int32))), .unset, .unset, .unset, .unset, .unset, .unset, .unset, .unset, .unset] [])) t
      refine XS.iload X73.here hx rfl (hb hby at_60) rfl ?_
      show Steps p.tables e below (T73.setTop (mkF m 62 #[.val (.int p1), .val (.int p2), .val (.int p3), .val (.int p4), .val (.int p5), .val (.int p6), .val (.int ww), .val (.int (1 : Int32)), .val (.ref b57), .val (.int (0 : Int32)), .val (.int ((0 : Int32) + (1 : Int32))), .val (.int (((0 : Int32) + (1 : Int32)) + (1 : Int32))), .unset, .unset, .unset, .unset, .unset, .unset, .unset, .unset, .unset] [(.int ((0 : Int32) + (1 : Int32)))])) t
      refine XS.iconst X73.here hx rfl (hb hby at_62) ?_
      show Steps p.tables e below (T73.setTop (mkF m 63 #[.val (.int p1), .val (.int p2), .val (.int p3), .val (.int p4), .val (.int p5), .val (.int p6), .val (.int ww), .val (.int (1 : Int32)), .val (.ref b57), .val (.int (0 : Int32)), .val (.int ((0 : Int32) + (1 : Int32))), .val (.int (((0 : Int32) + (1 : Int32)) + (1 : Int32))), .unset, .unset, .unset, .unset, .unset, .unset, .unset, .unset, .unset] [(.int (1 : Int32)), (.int ((0 : Int32) + (1 : Int32)))])) t
      refine XS.icmpNo X73.here hx rfl (hb hby at_63) rfl (teq (by decide)).2 ?_
      show Steps p.tables e below (T73.setTop (mkF m 66 #[.val (.int p1), .val (.int p2), .val (.int p3), .val (.int p4), .val (.int p5), .val (.int p6), .val (.int ww), .val (.int (1 : Int32)), .val (.ref b57), .val (.int (0 : Int32)), .val (.int ((0 : Int32) + (1 : Int32))), .val (.int (((0 : Int32) + (1 : Int32)) + (1 : Int32))), .unset, .unset, .unset, .unset, .unset, .unset, .unset, .unset, .unset] [])) t
      refine XS.iload X73.here hx rfl (hb hby at_66) rfl ?_
      show Steps p.tables e below (T73.setTop (mkF m 68 #[.val (.int p1), .val (.int p2), .val (.int p3), .val (.int p4), .val (.int p5), .val (.int p6), .val (.int ww), .val (.int (1 : Int32)), .val (.ref b57), .val (.int (0 : Int32)), .val (.int ((0 : Int32) + (1 : Int32))), .val (.int (((0 : Int32) + (1 : Int32)) + (1 : Int32))), .unset, .unset, .unset, .unset, .unset, .unset, .unset, .unset, .unset] [(.int (((0 : Int32) + (1 : Int32)) + (1 : Int32)))])) t
      refine XS.iconst X73.here hx rfl (hb hby at_68) ?_
      show Steps p.tables e below (T73.setTop (mkF m 69 #[.val (.int p1), .val (.int p2), .val (.int p3), .val (.int p4), .val (.int p5), .val (.int p6), .val (.int ww), .val (.int (1 : Int32)), .val (.ref b57), .val (.int (0 : Int32)), .val (.int ((0 : Int32) + (1 : Int32))), .val (.int (((0 : Int32) + (1 : Int32)) + (1 : Int32))), .unset, .unset, .unset, .unset, .unset, .unset, .unset, .unset, .unset] [(.int (2 : Int32)), (.int (((0 : Int32) + (1 : Int32)) + (1 : Int32)))])) t
      refine XS.icmpYes X73.here hx rfl (pc0 := 69) (pc' := 74) rfl (hb hby at_69) rfl (teq (by decide)).1 (by decide) (by decide) ?_
      show Steps p.tables e below (T73.setTop (mkF m 74 #[.val (.int p1), .val (.int p2), .val (.int p3), .val (.int p4), .val (.int p5), .val (.int p6), .val (.int ww), .val (.int (1 : Int32)), .val (.ref b57), .val (.int (0 : Int32)), .val (.int ((0 : Int32) + (1 : Int32))), .val (.int (((0 : Int32) + (1 : Int32)) + (1 : Int32))), .unset, .unset, .unset, .unset, .unset, .unset, .unset, .unset, .unset] [])) t
      refine XS.iloadN X73.here hx rfl (hb hby at_74) rfl ?_
      show Steps p.tables e below (T73.setTop (mkF m 75 #[.val (.int p1), .val (.int p2), .val (.int p3), .val (.int p4), .val (.int p5), .val (.int p6), .val (.int ww), .val (.int (1 : Int32)), .val (.ref b57), .val (.int (0 : Int32)), .val (.int ((0 : Int32) + (1 : Int32))), .val (.int (((0 : Int32) + (1 : Int32)) + (1 : Int32))), .unset, .unset, .unset, .unset, .unset, .unset, .unset, .unset, .unset] [(.int p2)])) t
      refine X73.ldcInt hx hown (mvT hZ (hw _ (List.mem_of_getElem? (i := 34) rfl))) (g := (mkF m 75 #[.val (.int p1), .val (.int p2), .val (.int p3), .val (.int p4), .val (.int p5), .val (.int p6), .val (.int ww), .val (.int (1 : Int32)), .val (.ref b57), .val (.int (0 : Int32)), .val (.int ((0 : Int32) + (1 : Int32))), .val (.int (((0 : Int32) + (1 : Int32)) + (1 : Int32))), .unset, .unset, .unset, .unset, .unset, .unset, .unset, .unset, .unset] [(.int p2)])) rfl (hb hby at_75) _ ?_
      show Steps p.tables e below (T73.setTop (mkF m 77 #[.val (.int p1), .val (.int p2), .val (.int p3), .val (.int p4), .val (.int p5), .val (.int p6), .val (.int ww), .val (.int (1 : Int32)), .val (.ref b57), .val (.int (0 : Int32)), .val (.int ((0 : Int32) + (1 : Int32))), .val (.int (((0 : Int32) + (1 : Int32)) + (1 : Int32))), .unset, .unset, .unset, .unset, .unset, .unset, .unset, .unset, .unset] [(.int (2147483647 : Int32)), (.int p2)])) t
      refine XS.iand X73.here hx rfl (hb hby at_77) rfl ?_
      show Steps p.tables e below (T73.setTop (mkF m 78 #[.val (.int p1), .val (.int p2), .val (.int p3), .val (.int p4), .val (.int p5), .val (.int p6), .val (.int ww), .val (.int (1 : Int32)), .val (.ref b57), .val (.int (0 : Int32)), .val (.int ((0 : Int32) + (1 : Int32))), .val (.int (((0 : Int32) + (1 : Int32)) + (1 : Int32))), .unset, .unset, .unset, .unset, .unset, .unset, .unset, .unset, .unset] [(.int (p2 &&& (2147483647 : Int32)))])) t
      refine XS.iconst X73.here hx rfl (hb hby at_78) ?_
      show Steps p.tables e below (T73.setTop (mkF m 79 #[.val (.int p1), .val (.int p2), .val (.int p3), .val (.int p4), .val (.int p5), .val (.int p6), .val (.int ww), .val (.int (1 : Int32)), .val (.ref b57), .val (.int (0 : Int32)), .val (.int ((0 : Int32) + (1 : Int32))), .val (.int (((0 : Int32) + (1 : Int32)) + (1 : Int32))), .unset, .unset, .unset, .unset, .unset, .unset, .unset, .unset, .unset] [(.int (3 : Int32)), (.int (p2 &&& (2147483647 : Int32)))])) t
      refine iremM (g := (mkF m 79 #[.val (.int p1), .val (.int p2), .val (.int p3), .val (.int p4), .val (.int p5), .val (.int p6), .val (.int ww), .val (.int (1 : Int32)), .val (.ref b57), .val (.int (0 : Int32)), .val (.int ((0 : Int32) + (1 : Int32))), .val (.int (((0 : Int32) + (1 : Int32)) + (1 : Int32))), .unset, .unset, .unset, .unset, .unset, .unset, .unset, .unset, .unset] [(.int (3 : Int32)), (.int (p2 &&& (2147483647 : Int32)))])) X73 hx rfl (hb hby at_79) rfl (by decide) ?_
      show Steps p.tables e below (T73.setTop (mkF m 80 #[.val (.int p1), .val (.int p2), .val (.int p3), .val (.int p4), .val (.int p5), .val (.int p6), .val (.int ww), .val (.int (1 : Int32)), .val (.ref b57), .val (.int (0 : Int32)), .val (.int ((0 : Int32) + (1 : Int32))), .val (.int (((0 : Int32) + (1 : Int32)) + (1 : Int32))), .unset, .unset, .unset, .unset, .unset, .unset, .unset, .unset, .unset] [(.int ((p2 &&& (2147483647 : Int32)) % (3 : Int32)))])) t
      refine XS.istore X73.here hx rfl (hb hby at_80) rfl (l' := #[.val (.int p1), .val (.int p2), .val (.int p3), .val (.int p4), .val (.int p5), .val (.int p6), .val (.int ww), .val (.int (1 : Int32)), .val (.ref b57), .val (.int (0 : Int32)), .val (.int ((0 : Int32) + (1 : Int32))), .val (.int (((0 : Int32) + (1 : Int32)) + (1 : Int32))), .val (.int ((p2 &&& (2147483647 : Int32)) % (3 : Int32))), .unset, .unset, .unset, .unset, .unset, .unset, .unset, .unset]) rfl ?_
      exact k
    obtain ⟨ii, hv_ii⟩ : ∃ z, z = ((p2 &&& (2147483647 : Int32)) % (3 : Int32)) := ⟨_, rfl⟩
    rw [← hv_ii] at P76
    have i0 : 0 ≤ ii.toInt := by rw [hv_ii]; exact (own_i p2).1
    have i2 : ii.toInt ≤ 2 := by rw [hv_ii]; exact (own_i p2).2
    have P77 : ∀ t, Steps p.tables e below (T73.setTop (mkF m 94 #[.val (.int p1), .val (.int p2), .val (.int p3), .val (.int p4), .val (.int p5), .val (.int p6), .val (.int ww), .val (.int (1 : Int32)), .val (.ref b57), .val (.int (0 : Int32)), .val (.int ((0 : Int32) + (1 : Int32))), .val (.int (((0 : Int32) + (1 : Int32)) + (1 : Int32))), .val (.int ii), .val (.int (((ii + (1 : Int32)) + (p3 &&& (1 : Int32))) % (3 : Int32))), .unset, .unset, .unset, .unset, .unset, .unset, .unset] [])) t → Steps p.tables e below (s₁.setTop (mkF m 0 #[.val (.int p1), .val (.int p2), .val (.int p3), .val (.int p4), .val (.int p5), .val (.int p6), .unset, .unset, .unset, .unset, .unset, .unset, .unset, .unset, .unset, .unset, .unset, .unset, .unset, .unset, .unset] [])) t := fun t k => by
      refine P76 t ?_
      show Steps p.tables e below (T73.setTop (mkF m 82 #[.val (.int p1), .val (.int p2), .val (.int p3), .val (.int p4), .val (.int p5), .val (.int p6), .val (.int ww), .val (.int (1 : Int32)), .val (.ref b57), .val (.int (0 : Int32)), .val (.int ((0 : Int32) + (1 : Int32))), .val (.int (((0 : Int32) + (1 : Int32)) + (1 : Int32))), .val (.int ii), .unset, .unset, .unset, .unset, .unset, .unset, .unset, .unset] [])) t
      refine XS.iload X73.here hx rfl (hb hby at_82) rfl ?_
      show Steps p.tables e below (T73.setTop (mkF m 84 #[.val (.int p1), .val (.int p2), .val (.int p3), .val (.int p4), .val (.int p5), .val (.int p6), .val (.int ww), .val (.int (1 : Int32)), .val (.ref b57), .val (.int (0 : Int32)), .val (.int ((0 : Int32) + (1 : Int32))), .val (.int (((0 : Int32) + (1 : Int32)) + (1 : Int32))), .val (.int ii), .unset, .unset, .unset, .unset, .unset, .unset, .unset, .unset] [(.int ii)])) t
      refine XS.iconst X73.here hx rfl (hb hby at_84) ?_
      show Steps p.tables e below (T73.setTop (mkF m 85 #[.val (.int p1), .val (.int p2), .val (.int p3), .val (.int p4), .val (.int p5), .val (.int p6), .val (.int ww), .val (.int (1 : Int32)), .val (.ref b57), .val (.int (0 : Int32)), .val (.int ((0 : Int32) + (1 : Int32))), .val (.int (((0 : Int32) + (1 : Int32)) + (1 : Int32))), .val (.int ii), .unset, .unset, .unset, .unset, .unset, .unset, .unset, .unset] [(.int (1 : Int32)), (.int ii)])) t
      refine XS.iadd X73.here hx rfl (hb hby at_85) rfl ?_
      show Steps p.tables e below (T73.setTop (mkF m 86 #[.val (.int p1), .val (.int p2), .val (.int p3), .val (.int p4), .val (.int p5), .val (.int p6), .val (.int ww), .val (.int (1 : Int32)), .val (.ref b57), .val (.int (0 : Int32)), .val (.int ((0 : Int32) + (1 : Int32))), .val (.int (((0 : Int32) + (1 : Int32)) + (1 : Int32))), .val (.int ii), .unset, .unset, .unset, .unset, .unset, .unset, .unset, .unset] [(.int (ii + (1 : Int32)))])) t
      refine XS.iloadN X73.here hx rfl (hb hby at_86) rfl ?_
      show Steps p.tables e below (T73.setTop (mkF m 87 #[.val (.int p1), .val (.int p2), .val (.int p3), .val (.int p4), .val (.int p5), .val (.int p6), .val (.int ww), .val (.int (1 : Int32)), .val (.ref b57), .val (.int (0 : Int32)), .val (.int ((0 : Int32) + (1 : Int32))), .val (.int (((0 : Int32) + (1 : Int32)) + (1 : Int32))), .val (.int ii), .unset, .unset, .unset, .unset, .unset, .unset, .unset, .unset] [(.int p3), (.int (ii + (1 : Int32)))])) t
      refine XS.iconst X73.here hx rfl (hb hby at_87) ?_
      show Steps p.tables e below (T73.setTop (mkF m 88 #[.val (.int p1), .val (.int p2), .val (.int p3), .val (.int p4), .val (.int p5), .val (.int p6), .val (.int ww), .val (.int (1 : Int32)), .val (.ref b57), .val (.int (0 : Int32)), .val (.int ((0 : Int32) + (1 : Int32))), .val (.int (((0 : Int32) + (1 : Int32)) + (1 : Int32))), .val (.int ii), .unset, .unset, .unset, .unset, .unset, .unset, .unset, .unset] [(.int (1 : Int32)), (.int p3), (.int (ii + (1 : Int32)))])) t
      refine XS.iand X73.here hx rfl (hb hby at_88) rfl ?_
      show Steps p.tables e below (T73.setTop (mkF m 89 #[.val (.int p1), .val (.int p2), .val (.int p3), .val (.int p4), .val (.int p5), .val (.int p6), .val (.int ww), .val (.int (1 : Int32)), .val (.ref b57), .val (.int (0 : Int32)), .val (.int ((0 : Int32) + (1 : Int32))), .val (.int (((0 : Int32) + (1 : Int32)) + (1 : Int32))), .val (.int ii), .unset, .unset, .unset, .unset, .unset, .unset, .unset, .unset] [(.int (p3 &&& (1 : Int32))), (.int (ii + (1 : Int32)))])) t
      refine XS.iadd X73.here hx rfl (hb hby at_89) rfl ?_
      show Steps p.tables e below (T73.setTop (mkF m 90 #[.val (.int p1), .val (.int p2), .val (.int p3), .val (.int p4), .val (.int p5), .val (.int p6), .val (.int ww), .val (.int (1 : Int32)), .val (.ref b57), .val (.int (0 : Int32)), .val (.int ((0 : Int32) + (1 : Int32))), .val (.int (((0 : Int32) + (1 : Int32)) + (1 : Int32))), .val (.int ii), .unset, .unset, .unset, .unset, .unset, .unset, .unset, .unset] [(.int ((ii + (1 : Int32)) + (p3 &&& (1 : Int32))))])) t
      refine XS.iconst X73.here hx rfl (hb hby at_90) ?_
      show Steps p.tables e below (T73.setTop (mkF m 91 #[.val (.int p1), .val (.int p2), .val (.int p3), .val (.int p4), .val (.int p5), .val (.int p6), .val (.int ww), .val (.int (1 : Int32)), .val (.ref b57), .val (.int (0 : Int32)), .val (.int ((0 : Int32) + (1 : Int32))), .val (.int (((0 : Int32) + (1 : Int32)) + (1 : Int32))), .val (.int ii), .unset, .unset, .unset, .unset, .unset, .unset, .unset, .unset] [(.int (3 : Int32)), (.int ((ii + (1 : Int32)) + (p3 &&& (1 : Int32))))])) t
      refine iremM (g := (mkF m 91 #[.val (.int p1), .val (.int p2), .val (.int p3), .val (.int p4), .val (.int p5), .val (.int p6), .val (.int ww), .val (.int (1 : Int32)), .val (.ref b57), .val (.int (0 : Int32)), .val (.int ((0 : Int32) + (1 : Int32))), .val (.int (((0 : Int32) + (1 : Int32)) + (1 : Int32))), .val (.int ii), .unset, .unset, .unset, .unset, .unset, .unset, .unset, .unset] [(.int (3 : Int32)), (.int ((ii + (1 : Int32)) + (p3 &&& (1 : Int32))))])) X73 hx rfl (hb hby at_91) rfl (by decide) ?_
      show Steps p.tables e below (T73.setTop (mkF m 92 #[.val (.int p1), .val (.int p2), .val (.int p3), .val (.int p4), .val (.int p5), .val (.int p6), .val (.int ww), .val (.int (1 : Int32)), .val (.ref b57), .val (.int (0 : Int32)), .val (.int ((0 : Int32) + (1 : Int32))), .val (.int (((0 : Int32) + (1 : Int32)) + (1 : Int32))), .val (.int ii), .unset, .unset, .unset, .unset, .unset, .unset, .unset, .unset] [(.int (((ii + (1 : Int32)) + (p3 &&& (1 : Int32))) % (3 : Int32)))])) t
      refine XS.istore X73.here hx rfl (hb hby at_92) rfl (l' := #[.val (.int p1), .val (.int p2), .val (.int p3), .val (.int p4), .val (.int p5), .val (.int p6), .val (.int ww), .val (.int (1 : Int32)), .val (.ref b57), .val (.int (0 : Int32)), .val (.int ((0 : Int32) + (1 : Int32))), .val (.int (((0 : Int32) + (1 : Int32)) + (1 : Int32))), .val (.int ii), .val (.int (((ii + (1 : Int32)) + (p3 &&& (1 : Int32))) % (3 : Int32))), .unset, .unset, .unset, .unset, .unset, .unset, .unset]) rfl ?_
      exact k
    obtain ⟨jj, hv_jj⟩ : ∃ z, z = (((ii + (1 : Int32)) + (p3 &&& (1 : Int32))) % (3 : Int32)) := ⟨_, rfl⟩
    rw [← hv_jj] at P77
    have j0 : 0 ≤ jj.toInt := by rw [hv_jj]; exact (own_j i0 i2).1
    have j2 : jj.toInt ≤ 2 := by rw [hv_jj]; exact (own_j i0 i2).2.1
    have hij : ii.toInt ≠ jj.toInt := by rw [hv_jj]; exact (own_j i0 i2).2.2
    have P78 : ∀ t, Steps p.tables e below (T73.setTop (mkF m 103 #[.val (.int p1), .val (.int p2), .val (.int p3), .val (.int p4), .val (.int p5), .val (.int p6), .val (.int ww), .val (.int (1 : Int32)), .val (.ref b57), .val (.int (0 : Int32)), .val (.int ((0 : Int32) + (1 : Int32))), .val (.int (((0 : Int32) + (1 : Int32)) + (1 : Int32))), .val (.int ii), .val (.int jj), .val (.int (((3 : Int32) - ii) - jj)), .unset, .unset, .unset, .unset, .unset, .unset] [])) t → Steps p.tables e below (s₁.setTop (mkF m 0 #[.val (.int p1), .val (.int p2), .val (.int p3), .val (.int p4), .val (.int p5), .val (.int p6), .unset, .unset, .unset, .unset, .unset, .unset, .unset, .unset, .unset, .unset, .unset, .unset, .unset, .unset, .unset] [])) t := fun t k => by
      refine P77 t ?_
      show Steps p.tables e below (T73.setTop (mkF m 94 #[.val (.int p1), .val (.int p2), .val (.int p3), .val (.int p4), .val (.int p5), .val (.int p6), .val (.int ww), .val (.int (1 : Int32)), .val (.ref b57), .val (.int (0 : Int32)), .val (.int ((0 : Int32) + (1 : Int32))), .val (.int (((0 : Int32) + (1 : Int32)) + (1 : Int32))), .val (.int ii), .val (.int jj), .unset, .unset, .unset, .unset, .unset, .unset, .unset] [])) t
      refine XS.iconst X73.here hx rfl (hb hby at_94) ?_
      show Steps p.tables e below (T73.setTop (mkF m 95 #[.val (.int p1), .val (.int p2), .val (.int p3), .val (.int p4), .val (.int p5), .val (.int p6), .val (.int ww), .val (.int (1 : Int32)), .val (.ref b57), .val (.int (0 : Int32)), .val (.int ((0 : Int32) + (1 : Int32))), .val (.int (((0 : Int32) + (1 : Int32)) + (1 : Int32))), .val (.int ii), .val (.int jj), .unset, .unset, .unset, .unset, .unset, .unset, .unset] [(.int (3 : Int32))])) t
      refine XS.iload X73.here hx rfl (hb hby at_95) rfl ?_
      show Steps p.tables e below (T73.setTop (mkF m 97 #[.val (.int p1), .val (.int p2), .val (.int p3), .val (.int p4), .val (.int p5), .val (.int p6), .val (.int ww), .val (.int (1 : Int32)), .val (.ref b57), .val (.int (0 : Int32)), .val (.int ((0 : Int32) + (1 : Int32))), .val (.int (((0 : Int32) + (1 : Int32)) + (1 : Int32))), .val (.int ii), .val (.int jj), .unset, .unset, .unset, .unset, .unset, .unset, .unset] [(.int ii), (.int (3 : Int32))])) t
      refine XS.isub X73.here hx rfl (hb hby at_97) rfl ?_
      show Steps p.tables e below (T73.setTop (mkF m 98 #[.val (.int p1), .val (.int p2), .val (.int p3), .val (.int p4), .val (.int p5), .val (.int p6), .val (.int ww), .val (.int (1 : Int32)), .val (.ref b57), .val (.int (0 : Int32)), .val (.int ((0 : Int32) + (1 : Int32))), .val (.int (((0 : Int32) + (1 : Int32)) + (1 : Int32))), .val (.int ii), .val (.int jj), .unset, .unset, .unset, .unset, .unset, .unset, .unset] [(.int ((3 : Int32) - ii))])) t
      refine XS.iload X73.here hx rfl (hb hby at_98) rfl ?_
      show Steps p.tables e below (T73.setTop (mkF m 100 #[.val (.int p1), .val (.int p2), .val (.int p3), .val (.int p4), .val (.int p5), .val (.int p6), .val (.int ww), .val (.int (1 : Int32)), .val (.ref b57), .val (.int (0 : Int32)), .val (.int ((0 : Int32) + (1 : Int32))), .val (.int (((0 : Int32) + (1 : Int32)) + (1 : Int32))), .val (.int ii), .val (.int jj), .unset, .unset, .unset, .unset, .unset, .unset, .unset] [(.int jj), (.int ((3 : Int32) - ii))])) t
      refine XS.isub X73.here hx rfl (hb hby at_100) rfl ?_
      show Steps p.tables e below (T73.setTop (mkF m 101 #[.val (.int p1), .val (.int p2), .val (.int p3), .val (.int p4), .val (.int p5), .val (.int p6), .val (.int ww), .val (.int (1 : Int32)), .val (.ref b57), .val (.int (0 : Int32)), .val (.int ((0 : Int32) + (1 : Int32))), .val (.int (((0 : Int32) + (1 : Int32)) + (1 : Int32))), .val (.int ii), .val (.int jj), .unset, .unset, .unset, .unset, .unset, .unset, .unset] [(.int (((3 : Int32) - ii) - jj))])) t
      refine XS.istore X73.here hx rfl (hb hby at_101) rfl (l' := #[.val (.int p1), .val (.int p2), .val (.int p3), .val (.int p4), .val (.int p5), .val (.int p6), .val (.int ww), .val (.int (1 : Int32)), .val (.ref b57), .val (.int (0 : Int32)), .val (.int ((0 : Int32) + (1 : Int32))), .val (.int (((0 : Int32) + (1 : Int32)) + (1 : Int32))), .val (.int ii), .val (.int jj), .val (.int (((3 : Int32) - ii) - jj)), .unset, .unset, .unset, .unset, .unset, .unset]) rfl ?_
      exact k
    obtain ⟨kk, hv_kk⟩ : ∃ z, z = (((3 : Int32) - ii) - jj) := ⟨_, rfl⟩
    rw [← hv_kk] at P78
    have hkk : kk.toInt = 3 - ii.toInt - jj.toInt := by rw [hv_kk]; exact own_k i0 i2 j0 j2
    have P79 : ∀ t, Steps p.tables e below (T73.setTop (mkF m 112 #[.val (.int p1), .val (.int p2), .val (.int p3), .val (.int p4), .val (.int p5), .val (.int p6), .val (.int ww), .val (.int (1 : Int32)), .val (.ref b57), .val (.int (0 : Int32)), .val (.int ((0 : Int32) + (1 : Int32))), .val (.int (((0 : Int32) + (1 : Int32)) + (1 : Int32))), .val (.int ii), .val (.int jj), .val (.int kk), .val (.int ((p4 &&& (2147483647 : Int32)) % ww)), .unset, .unset, .unset, .unset, .unset] [])) t → Steps p.tables e below (s₁.setTop (mkF m 0 #[.val (.int p1), .val (.int p2), .val (.int p3), .val (.int p4), .val (.int p5), .val (.int p6), .unset, .unset, .unset, .unset, .unset, .unset, .unset, .unset, .unset, .unset, .unset, .unset, .unset, .unset, .unset] [])) t := fun t k => by
      refine P78 t ?_
      show Steps p.tables e below (T73.setTop (mkF m 103 #[.val (.int p1), .val (.int p2), .val (.int p3), .val (.int p4), .val (.int p5), .val (.int p6), .val (.int ww), .val (.int (1 : Int32)), .val (.ref b57), .val (.int (0 : Int32)), .val (.int ((0 : Int32) + (1 : Int32))), .val (.int (((0 : Int32) + (1 : Int32)) + (1 : Int32))), .val (.int ii), .val (.int jj), .val (.int kk), .unset, .unset, .unset, .unset, .unset, .unset] [])) t
      refine XS.iloadN X73.here hx rfl (hb hby at_103) rfl ?_
      show Steps p.tables e below (T73.setTop (mkF m 104 #[.val (.int p1), .val (.int p2), .val (.int p3), .val (.int p4), .val (.int p5), .val (.int p6), .val (.int ww), .val (.int (1 : Int32)), .val (.ref b57), .val (.int (0 : Int32)), .val (.int ((0 : Int32) + (1 : Int32))), .val (.int (((0 : Int32) + (1 : Int32)) + (1 : Int32))), .val (.int ii), .val (.int jj), .val (.int kk), .unset, .unset, .unset, .unset, .unset, .unset] [(.int p4)])) t
      refine X73.ldcInt hx hown (mvT hZ (hw _ (List.mem_of_getElem? (i := 34) rfl))) (g := (mkF m 104 #[.val (.int p1), .val (.int p2), .val (.int p3), .val (.int p4), .val (.int p5), .val (.int p6), .val (.int ww), .val (.int (1 : Int32)), .val (.ref b57), .val (.int (0 : Int32)), .val (.int ((0 : Int32) + (1 : Int32))), .val (.int (((0 : Int32) + (1 : Int32)) + (1 : Int32))), .val (.int ii), .val (.int jj), .val (.int kk), .unset, .unset, .unset, .unset, .unset, .unset] [(.int p4)])) rfl (hb hby at_104) _ ?_
      show Steps p.tables e below (T73.setTop (mkF m 106 #[.val (.int p1), .val (.int p2), .val (.int p3), .val (.int p4), .val (.int p5), .val (.int p6), .val (.int ww), .val (.int (1 : Int32)), .val (.ref b57), .val (.int (0 : Int32)), .val (.int ((0 : Int32) + (1 : Int32))), .val (.int (((0 : Int32) + (1 : Int32)) + (1 : Int32))), .val (.int ii), .val (.int jj), .val (.int kk), .unset, .unset, .unset, .unset, .unset, .unset] [(.int (2147483647 : Int32)), (.int p4)])) t
      refine XS.iand X73.here hx rfl (hb hby at_106) rfl ?_
      show Steps p.tables e below (T73.setTop (mkF m 107 #[.val (.int p1), .val (.int p2), .val (.int p3), .val (.int p4), .val (.int p5), .val (.int p6), .val (.int ww), .val (.int (1 : Int32)), .val (.ref b57), .val (.int (0 : Int32)), .val (.int ((0 : Int32) + (1 : Int32))), .val (.int (((0 : Int32) + (1 : Int32)) + (1 : Int32))), .val (.int ii), .val (.int jj), .val (.int kk), .unset, .unset, .unset, .unset, .unset, .unset] [(.int (p4 &&& (2147483647 : Int32)))])) t
      refine XS.iload X73.here hx rfl (hb hby at_107) rfl ?_
      show Steps p.tables e below (T73.setTop (mkF m 109 #[.val (.int p1), .val (.int p2), .val (.int p3), .val (.int p4), .val (.int p5), .val (.int p6), .val (.int ww), .val (.int (1 : Int32)), .val (.ref b57), .val (.int (0 : Int32)), .val (.int ((0 : Int32) + (1 : Int32))), .val (.int (((0 : Int32) + (1 : Int32)) + (1 : Int32))), .val (.int ii), .val (.int jj), .val (.int kk), .unset, .unset, .unset, .unset, .unset, .unset] [(.int ww), (.int (p4 &&& (2147483647 : Int32)))])) t
      refine iremM (g := (mkF m 109 #[.val (.int p1), .val (.int p2), .val (.int p3), .val (.int p4), .val (.int p5), .val (.int p6), .val (.int ww), .val (.int (1 : Int32)), .val (.ref b57), .val (.int (0 : Int32)), .val (.int ((0 : Int32) + (1 : Int32))), .val (.int (((0 : Int32) + (1 : Int32)) + (1 : Int32))), .val (.int ii), .val (.int jj), .val (.int kk), .unset, .unset, .unset, .unset, .unset, .unset] [(.int ww), (.int (p4 &&& (2147483647 : Int32)))])) X73 hx rfl (hb hby at_109) rfl hww0 ?_
      show Steps p.tables e below (T73.setTop (mkF m 110 #[.val (.int p1), .val (.int p2), .val (.int p3), .val (.int p4), .val (.int p5), .val (.int p6), .val (.int ww), .val (.int (1 : Int32)), .val (.ref b57), .val (.int (0 : Int32)), .val (.int ((0 : Int32) + (1 : Int32))), .val (.int (((0 : Int32) + (1 : Int32)) + (1 : Int32))), .val (.int ii), .val (.int jj), .val (.int kk), .unset, .unset, .unset, .unset, .unset, .unset] [(.int ((p4 &&& (2147483647 : Int32)) % ww))])) t
      refine XS.istore X73.here hx rfl (hb hby at_110) rfl (l' := #[.val (.int p1), .val (.int p2), .val (.int p3), .val (.int p4), .val (.int p5), .val (.int p6), .val (.int ww), .val (.int (1 : Int32)), .val (.ref b57), .val (.int (0 : Int32)), .val (.int ((0 : Int32) + (1 : Int32))), .val (.int (((0 : Int32) + (1 : Int32)) + (1 : Int32))), .val (.int ii), .val (.int jj), .val (.int kk), .val (.int ((p4 &&& (2147483647 : Int32)) % ww)), .unset, .unset, .unset, .unset, .unset]) rfl ?_
      exact k
    obtain ⟨ff, hv_ff⟩ : ∃ z, z = ((p4 &&& (2147483647 : Int32)) % ww) := ⟨_, rfl⟩
    rw [← hv_ff] at P79
    have f0 : 0 ≤ ff.toInt := by rw [hv_ff]; exact (own_f w1).1
    have f1 : ff.toInt < ww.toInt := by rw [hv_ff]; exact (own_f w1).2
    have hx1 := own_ixb (k := kk) w1 w4 (by omega) (by omega) f0 f1
    have ex : ((ww * kk) + ff).toInt = ww.toInt * kk.toInt + ff.toInt := own_ix w1 w4 (by omega) (by omega) f0 f1
    have ei : (ww * ii).toInt = ww.toInt * ii.toInt := own_wr w1 w4 i0 (by omega)
    have ei1 : (ww * (ii + (1 : Int32))).toInt = ww.toInt * (ii.toInt + 1) := by rw [own_wr w1 w4 (by rw [own_add rfl (q := 1) rfl (by omega) (by omega)]; omega) (by rw [own_add rfl (q := 1) rfl (by omega) (by omega)]; omega), own_add rfl (q := 1) rfl (by omega) (by omega)]
    have hi1 : ¬ ii = (-1 : Int32) := fun q => by rw [q] at i0; exact absurd i0 (by decide)
    have ej : (ww * jj).toInt = ww.toInt * jj.toInt := own_wr w1 w4 j0 (by omega)
    have ej1 : (ww * (jj + (1 : Int32))).toInt = ww.toInt * (jj.toInt + 1) := by rw [own_wr w1 w4 (by rw [own_add rfl (q := 1) rfl (by omega) (by omega)]; omega) (by rw [own_add rfl (q := 1) rfl (by omega) (by omega)]; omega), own_add rfl (q := 1) rfl (by omega) (by omega)]
    have hj1 : ¬ jj = (-1 : Int32) := fun q => by rw [q] at j0; exact absurd j0 (by decide)
    have P80 : ∀ t, Steps p.tables e below (T73.setTop (mkF m 120 #[.val (.int p1), .val (.int p2), .val (.int p3), .val (.int p4), .val (.int p5), .val (.int p6), .val (.int ww), .val (.int (1 : Int32)), .val (.ref b57), .val (.int (0 : Int32)), .val (.int ((0 : Int32) + (1 : Int32))), .val (.int (((0 : Int32) + (1 : Int32)) + (1 : Int32))), .val (.int ii), .val (.int jj), .val (.int kk), .val (.int ff), .unset, .unset, .unset, .unset, .unset] [(.int p5), (.int ff), (.int kk), (.ref b57)])) t → Steps p.tables e below (s₁.setTop (mkF m 0 #[.val (.int p1), .val (.int p2), .val (.int p3), .val (.int p4), .val (.int p5), .val (.int p6), .unset, .unset, .unset, .unset, .unset, .unset, .unset, .unset, .unset, .unset, .unset, .unset, .unset, .unset, .unset] [])) t := fun t k => by
      refine P79 t ?_
      show Steps p.tables e below (T73.setTop (mkF m 112 #[.val (.int p1), .val (.int p2), .val (.int p3), .val (.int p4), .val (.int p5), .val (.int p6), .val (.int ww), .val (.int (1 : Int32)), .val (.ref b57), .val (.int (0 : Int32)), .val (.int ((0 : Int32) + (1 : Int32))), .val (.int (((0 : Int32) + (1 : Int32)) + (1 : Int32))), .val (.int ii), .val (.int jj), .val (.int kk), .val (.int ff), .unset, .unset, .unset, .unset, .unset] [])) t
      refine XS.aload X73.here hx rfl (hb hby at_112) rfl rfl ?_
      show Steps p.tables e below (T73.setTop (mkF m 114 #[.val (.int p1), .val (.int p2), .val (.int p3), .val (.int p4), .val (.int p5), .val (.int p6), .val (.int ww), .val (.int (1 : Int32)), .val (.ref b57), .val (.int (0 : Int32)), .val (.int ((0 : Int32) + (1 : Int32))), .val (.int (((0 : Int32) + (1 : Int32)) + (1 : Int32))), .val (.int ii), .val (.int jj), .val (.int kk), .val (.int ff), .unset, .unset, .unset, .unset, .unset] [(.ref b57)])) t
      refine XS.iload X73.here hx rfl (hb hby at_114) rfl ?_
      show Steps p.tables e below (T73.setTop (mkF m 116 #[.val (.int p1), .val (.int p2), .val (.int p3), .val (.int p4), .val (.int p5), .val (.int p6), .val (.int ww), .val (.int (1 : Int32)), .val (.ref b57), .val (.int (0 : Int32)), .val (.int ((0 : Int32) + (1 : Int32))), .val (.int (((0 : Int32) + (1 : Int32)) + (1 : Int32))), .val (.int ii), .val (.int jj), .val (.int kk), .val (.int ff), .unset, .unset, .unset, .unset, .unset] [(.int kk), (.ref b57)])) t
      refine XS.iload X73.here hx rfl (hb hby at_116) rfl ?_
      show Steps p.tables e below (T73.setTop (mkF m 118 #[.val (.int p1), .val (.int p2), .val (.int p3), .val (.int p4), .val (.int p5), .val (.int p6), .val (.int ww), .val (.int (1 : Int32)), .val (.ref b57), .val (.int (0 : Int32)), .val (.int ((0 : Int32) + (1 : Int32))), .val (.int (((0 : Int32) + (1 : Int32)) + (1 : Int32))), .val (.int ii), .val (.int jj), .val (.int kk), .val (.int ff), .unset, .unset, .unset, .unset, .unset] [(.int ff), (.int kk), (.ref b57)])) t
      refine XS.iload X73.here hx rfl (hb hby at_118) rfl ?_
      exact k
    obtain ⟨cq81, kq81, q81a, q81b, q81c⟩ := isOf hZ rfl A57_73
    obtain ⟨_, _, ⟨T81, L81, k81, n81⟩, -, X81, ⟨Lc81, hQ81, l81, y81, z81⟩, st81⟩ := X73.virtualBack hx (y := (⟨"com/example/weftwork/weftwork/Rows", "set", "(III)V"⟩ : MethodName)) (z := (⟨"com/example/weftwork/weftwork/Rows", "set", "(III)V"⟩ : MethodName)) hown (mvT hZ (hw _ (List.mem_of_getElem? (i := 35) rfl))) (mvT hZ (hw _ (List.mem_of_getElem? (i := 36) rfl))) (notFace_of_selects (args := #[]) (mvT hZ (hw _ (List.mem_of_getElem? (i := 38) rfl)))) (mvT hZ (hw _ (List.mem_of_getElem? (i := 38) rfl))) (mvT hZ (hw _ (List.mem_of_getElem? (i := 37) rfl))) (by decide) (backOf (W := 0) (rm3 l Z a0 hw [] b57 fa kk ff p5 ww φ73 T73.heap n0 Z_74 Fb73 Fc73 V73x hx1.1 hx1.2 ne_r_fa g_fa) hZ (hw _ (List.mem_of_getElem? (i := 39) rfl)) (hw _ (List.mem_of_getElem? (i := 2) rfl)) (by decide) (by decide)) q81a q81c (g := (mkF m 120 #[.val (.int p1), .val (.int p2), .val (.int p3), .val (.int p4), .val (.int p5), .val (.int p6), .val (.int ww), .val (.int (1 : Int32)), .val (.ref b57), .val (.int (0 : Int32)), .val (.int ((0 : Int32) + (1 : Int32))), .val (.int (((0 : Int32) + (1 : Int32)) + (1 : Int32))), .val (.int ii), .val (.int jj), .val (.int kk), .val (.int ff), .unset, .unset, .unset, .unset, .unset] [(.int p5), (.int ff), (.int kk), (.ref b57)])) rfl (by rw [hml]; rfl) (Steps.refl _) (argsL := [(.int kk), (.int ff), (.int p5)]) (rest := []) (lenOf pd__III_V rfl) rfl (by show 2 * 0 + _ ≤ _; exact Nat.le_of_eq rfl) (hb hby at_120) (fun _ _ => ⟨rfl, rfl, (by decide : 3 + 0 ≤ _), (by decide : 85 + 0 ≤ _)⟩)
    dsimp only [Pt.U, Pt.locs, Pt.cells, Pt.slots] at X81 l81 y81 z81 st81 hQ81
    subst l81 y81 z81
    obtain ⟨rfl, N81q, K81, V81x⟩ := hQ81
    have OL_81 := OL_73.keep K81 (allS g_fa all0)
    have A57_81 := A57_73.keep K81
    have VO_81 := VO_73.keep K81 (ninS (Ne.symm ne_fa_oa) nin0)
    have Fa73_81 := Fa73.keep K81 (ninS ne_r_fa nin0)
    have Fb73_81 := Fb73.keep K81 (ninS ne_r_fa nin0)
    have Fc73_81 := Fc73.keep K81 (ninS ne_r_fa nin0)
    have Fd73_81 := Fd73.keep K81 (ninS ne_r_fa nin0)
    have Fe73_81 := Fe73.keep K81 (ninS ne_r_fa nin0)
    have Z_82 : n0 ≤ T81.heap.size := Nat.le_trans Z_74 K81.1
    obtain ⟨φ81, hφ81⟩ : ∃ z, z = own_put φ73 ((ww * kk) + ff).toInt p5 := ⟨_, rfl⟩
    rw [← hφ81] at V81x
    have N81 := Fr.app N73 N81q
    have P83 : ∀ t, Steps p.tables e below (T81.setTop (mkF m 123 #[.val (.int p1), .val (.int p2), .val (.int p3), .val (.int p4), .val (.int p5), .val (.int p6), .val (.int ww), .val (.int (1 : Int32)), .val (.ref b57), .val (.int (0 : Int32)), .val (.int ((0 : Int32) + (1 : Int32))), .val (.int (((0 : Int32) + (1 : Int32)) + (1 : Int32))), .val (.int ii), .val (.int jj), .val (.int kk), .val (.int ff), .unset, .unset, .unset, .unset, .unset] [])) t → Steps p.tables e below (s₁.setTop (mkF m 0 #[.val (.int p1), .val (.int p2), .val (.int p3), .val (.int p4), .val (.int p5), .val (.int p6), .unset, .unset, .unset, .unset, .unset, .unset, .unset, .unset, .unset, .unset, .unset, .unset, .unset, .unset, .unset] [])) t := fun t k => P80 t (st81.trans k)
    have P84 : ∀ t, Steps p.tables e below (T81.setTop (mkF m 134 #[.val (.int p1), .val (.int p2), .val (.int p3), .val (.int p4), .val (.int p5), .val (.int p6), .val (.int ww), .val (.int (1 : Int32)), .val (.ref b57), .val (.int (0 : Int32)), .val (.int ((0 : Int32) + (1 : Int32))), .val (.int (((0 : Int32) + (1 : Int32)) + (1 : Int32))), .val (.int ii), .val (.int jj), .val (.int kk), .val (.int ff), .unset, .unset, .unset, .unset, .unset] [(.int p5), (.int ii), (.ref b57)])) t → Steps p.tables e below (s₁.setTop (mkF m 0 #[.val (.int p1), .val (.int p2), .val (.int p3), .val (.int p4), .val (.int p5), .val (.int p6), .unset, .unset, .unset, .unset, .unset, .unset, .unset, .unset, .unset, .unset, .unset, .unset, .unset, .unset, .unset] [])) t := fun t k => by
      refine P83 t ?_
      show Steps p.tables e below (T81.setTop (mkF m 123 #[.val (.int p1), .val (.int p2), .val (.int p3), .val (.int p4), .val (.int p5), .val (.int p6), .val (.int ww), .val (.int (1 : Int32)), .val (.ref b57), .val (.int (0 : Int32)), .val (.int ((0 : Int32) + (1 : Int32))), .val (.int (((0 : Int32) + (1 : Int32)) + (1 : Int32))), .val (.int ii), .val (.int jj), .val (.int kk), .val (.int ff), .unset, .unset, .unset, .unset, .unset] [])) t
      refine XS.iload X81.here hx rfl (hb hby at_123) rfl ?_
      show Steps p.tables e below (T81.setTop (mkF m 125 #[.val (.int p1), .val (.int p2), .val (.int p3), .val (.int p4), .val (.int p5), .val (.int p6), .val (.int ww), .val (.int (1 : Int32)), .val (.ref b57), .val (.int (0 : Int32)), .val (.int ((0 : Int32) + (1 : Int32))), .val (.int (((0 : Int32) + (1 : Int32)) + (1 : Int32))), .val (.int ii), .val (.int jj), .val (.int kk), .val (.int ff), .unset, .unset, .unset, .unset, .unset] [(.int (1 : Int32))])) t
      refine XS.ifNo X81.here hx rfl (hb hby at_125) rfl ((if0 _ _).trans (feq (by decide)).1) ?_
      show Steps p.tables e below (T81.setTop (mkF m 128 #[.val (.int p1), .val (.int p2), .val (.int p3), .val (.int p4), .val (.int p5), .val (.int p6), .val (.int ww), .val (.int (1 : Int32)), .val (.ref b57), .val (.int (0 : Int32)), .val (.int ((0 : Int32) + (1 : Int32))), .val (.int (((0 : Int32) + (1 : Int32)) + (1 : Int32))), .val (.int ii), .val (.int jj), .val (.int kk), .val (.int ff), .unset, .unset, .unset, .unset, .unset] [])) t
      refine XS.aload X81.here hx rfl (hb hby at_128) rfl rfl ?_
      show Steps p.tables e below (T81.setTop (mkF m 130 #[.val (.int p1), .val (.int p2), .val (.int p3), .val (.int p4), .val (.int p5), .val (.int p6), .val (.int ww), .val (.int (1 : Int32)), .val (.ref b57), .val (.int (0 : Int32)), .val (.int ((0 : Int32) + (1 : Int32))), .val (.int (((0 : Int32) + (1 : Int32)) + (1 : Int32))), .val (.int ii), .val (.int jj), .val (.int kk), .val (.int ff), .unset, .unset, .unset, .unset, .unset] [(.ref b57)])) t
      refine XS.iload X81.here hx rfl (hb hby at_130) rfl ?_
      show Steps p.tables e below (T81.setTop (mkF m 132 #[.val (.int p1), .val (.int p2), .val (.int p3), .val (.int p4), .val (.int p5), .val (.int p6), .val (.int ww), .val (.int (1 : Int32)), .val (.ref b57), .val (.int (0 : Int32)), .val (.int ((0 : Int32) + (1 : Int32))), .val (.int (((0 : Int32) + (1 : Int32)) + (1 : Int32))), .val (.int ii), .val (.int jj), .val (.int kk), .val (.int ff), .unset, .unset, .unset, .unset, .unset] [(.int ii), (.ref b57)])) t
      refine XS.iload X81.here hx rfl (hb hby at_132) rfl ?_
      exact k
    obtain ⟨_, _, ⟨T85, L85, k85, n85⟩, -, X85, ⟨Lc85, hQ85, l85, y85, z85⟩, st85⟩ := Jvm.LawKit.callS X81 hx (y := (⟨"java/lang/Integer", "valueOf", "(I)Ljava/lang/Integer;"⟩ : MethodName)) hown (mvT hZ (hw _ (List.mem_of_getElem? (i := 40) rfl))) (mvT hZ (hw _ (List.mem_of_getElem? (i := 41) rfl))) (mvT hZ (hw _ (List.mem_of_getElem? (i := 42) rfl))) (mvT hZ (hw _ (List.mem_of_getElem? (i := 43) rfl))) (by decide) (backOf (W := 2) (rm_vo l Z a0 hw [] p5 wC cC T81.heap n0 Z_82 OL_81 S_high S_cache BX) hZ (hw _ (List.mem_of_getElem? (i := 43) rfl)) (hw _ (List.mem_of_getElem? (i := 42) rfl)) (by decide) (by decide)) (g := (mkF m 134 #[.val (.int p1), .val (.int p2), .val (.int p3), .val (.int p4), .val (.int p5), .val (.int p6), .val (.int ww), .val (.int (1 : Int32)), .val (.ref b57), .val (.int (0 : Int32)), .val (.int ((0 : Int32) + (1 : Int32))), .val (.int (((0 : Int32) + (1 : Int32)) + (1 : Int32))), .val (.int ii), .val (.int jj), .val (.int kk), .val (.int ff), .unset, .unset, .unset, .unset, .unset] [(.int p5), (.int ii), (.ref b57)])) rfl (by rw [hml]; rfl) (argsL := [(.int p5)]) (rest := [(.int ii), (.ref b57)]) (lenOf pd__I_Ljava_lang_Integer_ rfl) rfl (by show 2 * 0 + _ ≤ _; exact Nat.le_of_eq rfl) (hb hby at_134) (fun _ _ => ⟨rfl, rfl, (by decide : 3 + 1 ≤ _), (by decide : 85 + 1 ≤ _)⟩)
    dsimp only [Pt.U, Pt.locs, Pt.cells, Pt.slots] at X85 l85 y85 z85 st85 hQ85
    subst l85 y85 z85
    obtain ⟨bi85, rfl, N85q, K85, E85x⟩ := hQ85
    have OL_85 := OL_81.keep K85 all0
    have A57_85 := A57_81.keep K85
    have VO_85 := VO_81.keep K85 nin0
    have Fa73_85 := Fa73_81.keep K85 nin0
    have Fb73_85 := Fb73_81.keep K85 nin0
    have Fc73_85 := Fc73_81.keep K85 nin0
    have Fd73_85 := Fd73_81.keep K85 nin0
    have Fe73_85 := Fe73_81.keep K85 nin0
    have V81x_85 := V81x.keep K85 nin0
    have Z_86 : n0 ≤ T85.heap.size := Nat.le_trans Z_82 K85.1
    have N85 := Fr.app N81 N85q
    have P87 : ∀ t, Steps p.tables e below (T85.setTop (mkF m 137 #[.val (.int p1), .val (.int p2), .val (.int p3), .val (.int p4), .val (.int p5), .val (.int p6), .val (.int ww), .val (.int (1 : Int32)), .val (.ref b57), .val (.int (0 : Int32)), .val (.int ((0 : Int32) + (1 : Int32))), .val (.int (((0 : Int32) + (1 : Int32)) + (1 : Int32))), .val (.int ii), .val (.int jj), .val (.int kk), .val (.int ff), .unset, .unset, .unset, .unset, .unset] [(.ref bi85), (.int ii), (.ref b57)])) t → Steps p.tables e below (s₁.setTop (mkF m 0 #[.val (.int p1), .val (.int p2), .val (.int p3), .val (.int p4), .val (.int p5), .val (.int p6), .unset, .unset, .unset, .unset, .unset, .unset, .unset, .unset, .unset, .unset, .unset, .unset, .unset, .unset, .unset] [])) t := fun t k => P84 t (st85 _ k)
    obtain ⟨cq88, kq88, q88a, q88b, q88c⟩ := isOf hZ rfl A57_85
    obtain ⟨_, _, ⟨T88, L88, k88, n88⟩, -, X88, ⟨Lc88, hQ88, l88, y88, z88⟩, st88⟩ := X85.virtualBack hx (y := (⟨"com/example/weftwork/weftwork/Rows", "setObject", "(ILjava/lang/Object;)V"⟩ : MethodName)) (z := (⟨"com/example/weftwork/weftwork/Rows", "setObject", "(ILjava/lang/Object;)V"⟩ : MethodName)) hown (mvT hZ (hw _ (List.mem_of_getElem? (i := 47) rfl))) (mvT hZ (hw _ (List.mem_of_getElem? (i := 48) rfl))) (notFace_of_selects (args := #[]) (mvT hZ (hw _ (List.mem_of_getElem? (i := 50) rfl)))) (mvT hZ (hw _ (List.mem_of_getElem? (i := 50) rfl))) (mvT hZ (hw _ (List.mem_of_getElem? (i := 49) rfl))) (by decide) (backOf (W := 0) (rm5 l Z a0 hw [] b57 oa bi85 ii ko (fun _ => .null) T85.heap n0 Z_86 Fd73_85 VO_85 i0 (by omega) OV E85x ne_r_oa g_oa) hZ (hw _ (List.mem_of_getElem? (i := 51) rfl)) (hw _ (List.mem_of_getElem? (i := 2) rfl)) (by decide) (by decide)) q88a q88c (g := (mkF m 137 #[.val (.int p1), .val (.int p2), .val (.int p3), .val (.int p4), .val (.int p5), .val (.int p6), .val (.int ww), .val (.int (1 : Int32)), .val (.ref b57), .val (.int (0 : Int32)), .val (.int ((0 : Int32) + (1 : Int32))), .val (.int (((0 : Int32) + (1 : Int32)) + (1 : Int32))), .val (.int ii), .val (.int jj), .val (.int kk), .val (.int ff), .unset, .unset, .unset, .unset, .unset] [(.ref bi85), (.int ii), (.ref b57)])) rfl (by rw [hml]; rfl) (Steps.refl _) (argsL := [(.int ii), (.ref bi85)]) (rest := []) (lenOf pd__ILjava_lang_Object__V rfl) rfl (by show 2 * 0 + _ ≤ _; exact Nat.le_of_eq rfl) (hb hby at_137) (fun _ _ => ⟨rfl, rfl, (by decide : 4 + 0 ≤ _), (by decide : 86 + 0 ≤ _)⟩)
    dsimp only [Pt.U, Pt.locs, Pt.cells, Pt.slots] at X88 l88 y88 z88 st88 hQ88
    subst l88 y88 z88
    obtain ⟨rfl, N88q, K88, VO88x⟩ := hQ88
    have OL_88 := OL_85.keep K88 (allS g_oa all0)
    have A57_88 := A57_85.keep K88
    have Fa73_88 := Fa73_85.keep K88 (ninS ne_r_oa nin0)
    have Fb73_88 := Fb73_85.keep K88 (ninS ne_r_oa nin0)
    have Fc73_88 := Fc73_85.keep K88 (ninS ne_r_oa nin0)
    have Fd73_88 := Fd73_85.keep K88 (ninS ne_r_oa nin0)
    have Fe73_88 := Fe73_85.keep K88 (ninS ne_r_oa nin0)
    have V81x_88 := V81x_85.keep K88 (ninS ne_fa_oa nin0)
    have E85x_88 := E85x.keep K88
    have Z_89 : n0 ≤ T88.heap.size := Nat.le_trans Z_86 K88.1
    have N88 := Fr.app N85 N88q
    have P90 : ∀ t, Steps p.tables e below (T88.setTop (mkF m 140 #[.val (.int p1), .val (.int p2), .val (.int p3), .val (.int p4), .val (.int p5), .val (.int p6), .val (.int ww), .val (.int (1 : Int32)), .val (.ref b57), .val (.int (0 : Int32)), .val (.int ((0 : Int32) + (1 : Int32))), .val (.int (((0 : Int32) + (1 : Int32)) + (1 : Int32))), .val (.int ii), .val (.int jj), .val (.int kk), .val (.int ff), .unset, .unset, .unset, .unset, .unset] [])) t → Steps p.tables e below (s₁.setTop (mkF m 0 #[.val (.int p1), .val (.int p2), .val (.int p3), .val (.int p4), .val (.int p5), .val (.int p6), .unset, .unset, .unset, .unset, .unset, .unset, .unset, .unset, .unset, .unset, .unset, .unset, .unset, .unset, .unset] [])) t := fun t k => P87 t (st88.trans k)
    have P91 : ∀ t, Steps p.tables e below (T88.setTop (mkF m 144 #[.val (.int p1), .val (.int p2), .val (.int p3), .val (.int p4), .val (.int p5), .val (.int p6), .val (.int ww), .val (.int (1 : Int32)), .val (.ref b57), .val (.int (0 : Int32)), .val (.int ((0 : Int32) + (1 : Int32))), .val (.int (((0 : Int32) + (1 : Int32)) + (1 : Int32))), .val (.int ii), .val (.int jj), .val (.int kk), .val (.int ff), .unset, .unset, .unset, .unset, .unset] [(.int ii), (.ref b57)])) t → Steps p.tables e below (s₁.setTop (mkF m 0 #[.val (.int p1), .val (.int p2), .val (.int p3), .val (.int p4), .val (.int p5), .val (.int p6), .unset, .unset, .unset, .unset, .unset, .unset, .unset, .unset, .unset, .unset, .unset, .unset, .unset, .unset, .unset] [])) t := fun t k => by
      refine P90 t ?_
      show Steps p.tables e below (T88.setTop (mkF m 140 #[.val (.int p1), .val (.int p2), .val (.int p3), .val (.int p4), .val (.int p5), .val (.int p6), .val (.int ww), .val (.int (1 : Int32)), .val (.ref b57), .val (.int (0 : Int32)), .val (.int ((0 : Int32) + (1 : Int32))), .val (.int (((0 : Int32) + (1 : Int32)) + (1 : Int32))), .val (.int ii), .val (.int jj), .val (.int kk), .val (.int ff), .unset, .unset, .unset, .unset, .unset] [])) t
      refine XS.aload X88.here hx rfl (hb hby at_140) rfl rfl ?_
      show Steps p.tables e below (T88.setTop (mkF m 142 #[.val (.int p1), .val (.int p2), .val (.int p3), .val (.int p4), .val (.int p5), .val (.int p6), .val (.int ww), .val (.int (1 : Int32)), .val (.ref b57), .val (.int (0 : Int32)), .val (.int ((0 : Int32) + (1 : Int32))), .val (.int (((0 : Int32) + (1 : Int32)) + (1 : Int32))), .val (.int ii), .val (.int jj), .val (.int kk), .val (.int ff), .unset, .unset, .unset, .unset, .unset] [(.ref b57)])) t
      refine XS.iload X88.here hx rfl (hb hby at_142) rfl ?_
      exact k
    obtain ⟨cq92, kq92, q92a, q92b, q92c⟩ := isOf hZ rfl A57_88
    obtain ⟨_, _, ⟨T92, L92, k92, n92⟩, -, X92, ⟨Lc92, hQ92, l92, y92, z92⟩, st92⟩ := X88.virtualBack hx (y := (⟨"com/example/weftwork/weftwork/Rows", "free", "(I)V"⟩ : MethodName)) (z := (⟨"com/example/weftwork/weftwork/Rows", "free", "(I)V"⟩ : MethodName)) hown (mvT hZ (hw _ (List.mem_of_getElem? (i := 53) rfl))) (mvT hZ (hw _ (List.mem_of_getElem? (i := 54) rfl))) (notFace_of_selects (args := #[]) (mvT hZ (hw _ (List.mem_of_getElem? (i := 56) rfl)))) (mvT hZ (hw _ (List.mem_of_getElem? (i := 56) rfl))) (mvT hZ (hw _ (List.mem_of_getElem? (i := 55) rfl))) (by decide) (backOf (W := 0) (rm7o l Z a0 hw [] b57 fa oa ii ww ((((0 : Int32) + (1 : Int32)) + (1 : Int32)) + (1 : Int32)) (-1 : Int32) φ81 ko (own_putV (fun _ => .null) ii.toInt (.ref bi85)) T88.heap n0 Z_89 A57_88 Fa73_88 Fb73_88 Fc73_88 Fd73_88 Fe73_88 V81x_88 ne_r_fa g_b57 g_fa w1 w4 i0 (by omega) VO88x ne_r_oa ne_fa_oa g_oa) hZ (hw _ (List.mem_of_getElem? (i := 57) rfl)) (hw _ (List.mem_of_getElem? (i := 2) rfl)) (by decide) (by decide)) q92a q92c (g := (mkF m 144 #[.val (.int p1), .val (.int p2), .val (.int p3), .val (.int p4), .val (.int p5), .val (.int p6), .val (.int ww), .val (.int (1 : Int32)), .val (.ref b57), .val (.int (0 : Int32)), .val (.int ((0 : Int32) + (1 : Int32))), .val (.int (((0 : Int32) + (1 : Int32)) + (1 : Int32))), .val (.int ii), .val (.int jj), .val (.int kk), .val (.int ff), .unset, .unset, .unset, .unset, .unset] [(.int ii), (.ref b57)])) rfl (by rw [hml]; rfl) (Steps.refl _) (argsL := [(.int ii)]) (rest := []) (lenOf pd__I_V rfl) rfl (by show 2 * 0 + _ ≤ _; exact Nat.le_of_eq rfl) (hb hby at_144) (fun _ _ => ⟨rfl, rfl, (by decide : 4 + 0 ≤ _), (by decide : 86 + 0 ≤ _)⟩)
    dsimp only [Pt.U, Pt.locs, Pt.cells, Pt.slots] at X92 l92 y92 z92 st92 hQ92
    subst l92 y92 z92
    obtain ⟨rfl, N92q, K92, E92x, Fa92, Fb92, Fc92, Fd92, Fe92, V92x, VO92x⟩ := hQ92
    have OL_92 := OL_88.keep K92 (allS g_b57 (allS g_fa (allS g_oa all0)))
    have A57_92 := A57_88.keep K92
    have E85x_92 := E85x_88.keep K92
    have Z_93 : n0 ≤ T92.heap.size := Nat.le_trans Z_89 K92.1
    obtain ⟨φ92, hφ92⟩ : ∃ z, z = own_put φ81 (ww * ii).toInt (-1 : Int32) := ⟨_, rfl⟩
    rw [← hφ92] at V92x
    have N92 := Fr.app N88 N92q
    have P94 : ∀ t, Steps p.tables e below (T92.setTop (mkF m 147 #[.val (.int p1), .val (.int p2), .val (.int p3), .val (.int p4), .val (.int p5), .val (.int p6), .val (.int ww), .val (.int (1 : Int32)), .val (.ref b57), .val (.int (0 : Int32)), .val (.int ((0 : Int32) + (1 : Int32))), .val (.int (((0 : Int32) + (1 : Int32)) + (1 : Int32))), .val (.int ii), .val (.int jj), .val (.int kk), .val (.int ff), .unset, .unset, .unset, .unset, .unset] [])) t → Steps p.tables e below (s₁.setTop (mkF m 0 #[.val (.int p1), .val (.int p2), .val (.int p3), .val (.int p4), .val (.int p5), .val (.int p6), .unset, .unset, .unset, .unset, .unset, .unset, .unset, .unset, .unset, .unset, .unset, .unset, .unset, .unset, .unset] [])) t := fun t k => P91 t (st92.trans k)
    have P95 : ∀ t, Steps p.tables e below (T92.setTop (mkF m 151 #[.val (.int p1), .val (.int p2), .val (.int p3), .val (.int p4), .val (.int p5), .val (.int p6), .val (.int ww), .val (.int (1 : Int32)), .val (.ref b57), .val (.int (0 : Int32)), .val (.int ((0 : Int32) + (1 : Int32))), .val (.int (((0 : Int32) + (1 : Int32)) + (1 : Int32))), .val (.int ii), .val (.int jj), .val (.int kk), .val (.int ff), .unset, .unset, .unset, .unset, .unset] [(.int jj), (.ref b57)])) t → Steps p.tables e below (s₁.setTop (mkF m 0 #[.val (.int p1), .val (.int p2), .val (.int p3), .val (.int p4), .val (.int p5), .val (.int p6), .unset, .unset, .unset, .unset, .unset, .unset, .unset, .unset, .unset, .unset, .unset, .unset, .unset, .unset, .unset] [])) t := fun t k => by
      refine P94 t ?_
      show Steps p.tables e below (T92.setTop (mkF m 147 #[.val (.int p1), .val (.int p2), .val (.int p3), .val (.int p4), .val (.int p5), .val (.int p6), .val (.int ww), .val (.int (1 : Int32)), .val (.ref b57), .val (.int (0 : Int32)), .val (.int ((0 : Int32) + (1 : Int32))), .val (.int (((0 : Int32) + (1 : Int32)) + (1 : Int32))), .val (.int ii), .val (.int jj), .val (.int kk), .val (.int ff), .unset, .unset, .unset, .unset, .unset] [])) t
      refine XS.aload X92.here hx rfl (hb hby at_147) rfl rfl ?_
      show Steps p.tables e below (T92.setTop (mkF m 149 #[.val (.int p1), .val (.int p2), .val (.int p3), .val (.int p4), .val (.int p5), .val (.int p6), .val (.int ww), .val (.int (1 : Int32)), .val (.ref b57), .val (.int (0 : Int32)), .val (.int ((0 : Int32) + (1 : Int32))), .val (.int (((0 : Int32) + (1 : Int32)) + (1 : Int32))), .val (.int ii), .val (.int jj), .val (.int kk), .val (.int ff), .unset, .unset, .unset, .unset, .unset] [(.ref b57)])) t
      refine XS.iload X92.here hx rfl (hb hby at_149) rfl ?_
      exact k
    obtain ⟨cq96, kq96, q96a, q96b, q96c⟩ := isOf hZ rfl A57_92
    obtain ⟨_, _, ⟨T96, L96, k96, n96⟩, -, X96, ⟨Lc96, hQ96, l96, y96, z96⟩, st96⟩ := X92.virtualBack hx (y := (⟨"com/example/weftwork/weftwork/Rows", "free", "(I)V"⟩ : MethodName)) (z := (⟨"com/example/weftwork/weftwork/Rows", "free", "(I)V"⟩ : MethodName)) hown (mvT hZ (hw _ (List.mem_of_getElem? (i := 53) rfl))) (mvT hZ (hw _ (List.mem_of_getElem? (i := 54) rfl))) (notFace_of_selects (args := #[]) (mvT hZ (hw _ (List.mem_of_getElem? (i := 56) rfl)))) (mvT hZ (hw _ (List.mem_of_getElem? (i := 56) rfl))) (mvT hZ (hw _ (List.mem_of_getElem? (i := 55) rfl))) (by decide) (backOf (W := 0) (rm7o l Z a0 hw [] b57 fa oa jj ww ((((0 : Int32) + (1 : Int32)) + (1 : Int32)) + (1 : Int32)) ii φ92 ko (own_putV (own_putV (fun _ => .null) ii.toInt (.ref bi85)) ii.toInt .null) T92.heap n0 Z_93 A57_92 Fa92 Fb92 Fc92 Fd92 Fe92 V92x ne_r_fa g_b57 g_fa w1 w4 j0 (by omega) VO92x ne_r_oa ne_fa_oa g_oa) hZ (hw _ (List.mem_of_getElem? (i := 57) rfl)) (hw _ (List.mem_of_getElem? (i := 2) rfl)) (by decide) (by decide)) q96a q96c (g := (mkF m 151 #[.val (.int p1), .val (.int p2), .val (.int p3), .val (.int p4), .val (.int p5), .val (.int p6), .val (.int ww), .val (.int (1 : Int32)), .val (.ref b57), .val (.int (0 : Int32)), .val (.int ((0 : Int32) + (1 : Int32))), .val (.int (((0 : Int32) + (1 : Int32)) + (1 : Int32))), .val (.int ii), .val (.int jj), .val (.int kk), .val (.int ff), .unset, .unset, .unset, .unset, .unset] [(.int jj), (.ref b57)])) rfl (by rw [hml]; rfl) (Steps.refl _) (argsL := [(.int jj)]) (rest := []) (lenOf pd__I_V rfl) rfl (by show 2 * 0 + _ ≤ _; exact Nat.le_of_eq rfl) (hb hby at_151) (fun _ _ => ⟨rfl, rfl, (by decide : 4 + 0 ≤ _), (by decide : 86 + 0 ≤ _)⟩)
    dsimp only [Pt.U, Pt.locs, Pt.cells, Pt.slots] at X96 l96 y96 z96 st96 hQ96
    subst l96 y96 z96
    obtain ⟨rfl, N96q, K96, E96x, Fa96, Fb96, Fc96, Fd96, Fe96, V96x, VO96x⟩ := hQ96
    have OL_96 := OL_92.keep K96 (allS g_b57 (allS g_fa (allS g_oa all0)))
    have A57_96 := A57_92.keep K96
    have E85x_96 := E85x_92.keep K96
    have Z_97 : n0 ≤ T96.heap.size := Nat.le_trans Z_93 K96.1
    obtain ⟨φ96, hφ96⟩ : ∃ z, z = own_put φ92 (ww * jj).toInt ii := ⟨_, rfl⟩
    rw [← hφ96] at V96x
    have N96 := Fr.app N92 N96q
    have P98 : ∀ t, Steps p.tables e below (T96.setTop (mkF m 154 #[.val (.int p1), .val (.int p2), .val (.int p3), .val (.int p4), .val (.int p5), .val (.int p6), .val (.int ww), .val (.int (1 : Int32)), .val (.ref b57), .val (.int (0 : Int32)), .val (.int ((0 : Int32) + (1 : Int32))), .val (.int (((0 : Int32) + (1 : Int32)) + (1 : Int32))), .val (.int ii), .val (.int jj), .val (.int kk), .val (.int ff), .unset, .unset, .unset, .unset, .unset] [])) t → Steps p.tables e below (s₁.setTop (mkF m 0 #[.val (.int p1), .val (.int p2), .val (.int p3), .val (.int p4), .val (.int p5), .val (.int p6), .unset, .unset, .unset, .unset, .unset, .unset, .unset, .unset, .unset, .unset, .unset, .unset, .unset, .unset, .unset] [])) t := fun t k => P95 t (st96.trans k)
    have P99 : ∀ t, Steps p.tables e below (T96.setTop (mkF m 156 #[.val (.int p1), .val (.int p2), .val (.int p3), .val (.int p4), .val (.int p5), .val (.int p6), .val (.int ww), .val (.int (1 : Int32)), .val (.ref b57), .val (.int (0 : Int32)), .val (.int ((0 : Int32) + (1 : Int32))), .val (.int (((0 : Int32) + (1 : Int32)) + (1 : Int32))), .val (.int ii), .val (.int jj), .val (.int kk), .val (.int ff), .unset, .unset, .unset, .unset, .unset] [(.ref b57)])) t → Steps p.tables e below (s₁.setTop (mkF m 0 #[.val (.int p1), .val (.int p2), .val (.int p3), .val (.int p4), .val (.int p5), .val (.int p6), .unset, .unset, .unset, .unset, .unset, .unset, .unset, .unset, .unset, .unset, .unset, .unset, .unset, .unset, .unset] [])) t := fun t k => by
      refine P98 t ?_
      show Steps p.tables e below (T96.setTop (mkF m 154 #[.val (.int p1), .val (.int p2), .val (.int p3), .val (.int p4), .val (.int p5), .val (.int p6), .val (.int ww), .val (.int (1 : Int32)), .val (.ref b57), .val (.int (0 : Int32)), .val (.int ((0 : Int32) + (1 : Int32))), .val (.int (((0 : Int32) + (1 : Int32)) + (1 : Int32))), .val (.int ii), .val (.int jj), .val (.int kk), .val (.int ff), .unset, .unset, .unset, .unset, .unset] [])) t
      refine XS.aload X96.here hx rfl (hb hby at_154) rfl rfl ?_
      exact k
    obtain ⟨cq100, kq100, q100a, q100b, q100c⟩ := isOf hZ rfl A57_96
    obtain ⟨_, _, ⟨T100, L100, k100, n100⟩, -, X100, ⟨Lc100, hQ100, l100, y100, z100⟩, st100⟩ := X96.virtualBack hx (y := (⟨"com/example/weftwork/weftwork/Rows", "make", "()I"⟩ : MethodName)) (z := (⟨"com/example/weftwork/weftwork/Rows", "make", "()I"⟩ : MethodName)) hown (mvT hZ (hw _ (List.mem_of_getElem? (i := 20) rfl))) (mvT hZ (hw _ (List.mem_of_getElem? (i := 21) rfl))) (notFace_of_selects (args := #[]) (mvT hZ (hw _ (List.mem_of_getElem? (i := 23) rfl)))) (mvT hZ (hw _ (List.mem_of_getElem? (i := 23) rfl))) (mvT hZ (hw _ (List.mem_of_getElem? (i := 22) rfl))) (by decide) (backOf (W := 0) (rm2r l Z a0 hw [] b57 fa (.ref oa) ww ((((0 : Int32) + (1 : Int32)) + (1 : Int32)) + (1 : Int32)) jj φ96 T96.heap n0 Z_97 A57_96 Fa96 Fb96 Fc96 Fd96 Fe96 V96x ne_r_fa g_b57 g_fa w1 w4 j0 (by omega) hj1) hZ (hw _ (List.mem_of_getElem? (i := 24) rfl)) (hw _ (List.mem_of_getElem? (i := 2) rfl)) (by decide) (by decide)) q100a q100c (g := (mkF m 156 #[.val (.int p1), .val (.int p2), .val (.int p3), .val (.int p4), .val (.int p5), .val (.int p6), .val (.int ww), .val (.int (1 : Int32)), .val (.ref b57), .val (.int (0 : Int32)), .val (.int ((0 : Int32) + (1 : Int32))), .val (.int (((0 : Int32) + (1 : Int32)) + (1 : Int32))), .val (.int ii), .val (.int jj), .val (.int kk), .val (.int ff), .unset, .unset, .unset, .unset, .unset] [(.ref b57)])) rfl (by rw [hml]; rfl) (Steps.refl _) (argsL := []) (rest := []) (lenOf pd___I rfl) rfl (by show 2 * 0 + _ ≤ _; exact Nat.le_of_eq rfl) (hb hby at_156) (fun _ _ => ⟨rfl, rfl, (by decide : 4 + 0 ≤ _), (by decide : 86 + 0 ≤ _)⟩)
    dsimp only [Pt.U, Pt.locs, Pt.cells, Pt.slots] at X100 l100 y100 z100 st100 hQ100
    subst l100 y100 z100
    obtain ⟨rfl, N100q, K100, E100x, Fa100, Fb100, Fc100, Fd100, Fe100, V100x⟩ := hQ100
    have OL_100 := OL_96.keep K100 (allS g_b57 (allS g_fa all0))
    have A57_100 := A57_96.keep K100
    have E85x_100 := E85x_96.keep K100
    have VO96x_100 := VO96x.keep K100 (ninS (Ne.symm ne_r_oa) (ninS (Ne.symm ne_fa_oa) nin0))
    have Z_101 : n0 ≤ T100.heap.size := Nat.le_trans Z_97 K100.1
    have hfr100 : φ96 (ww * jj).toInt = ii := by rw [hφ96, hφ92, hφ81, ej, ei, ex]; exact (own_pure w1 w4 i0 i2 j0 j2 hij hkk f0 f1 _ p5 ii).1
    rw [hfr100] at Fa100
    obtain ⟨φ100, hφ100⟩ : ∃ z, z = own_fill φ96 (ww * jj).toInt (ww * (jj + (1 : Int32))).toInt (-1 : Int32) := ⟨_, rfl⟩
    rw [← hφ100] at V100x
    have N100 := Fr.app N96 N100q
    have P102 : ∀ t, Steps p.tables e below (T100.setTop (mkF m 159 #[.val (.int p1), .val (.int p2), .val (.int p3), .val (.int p4), .val (.int p5), .val (.int p6), .val (.int ww), .val (.int (1 : Int32)), .val (.ref b57), .val (.int (0 : Int32)), .val (.int ((0 : Int32) + (1 : Int32))), .val (.int (((0 : Int32) + (1 : Int32)) + (1 : Int32))), .val (.int ii), .val (.int jj), .val (.int kk), .val (.int ff), .unset, .unset, .unset, .unset, .unset] [(.int jj)])) t → Steps p.tables e below (s₁.setTop (mkF m 0 #[.val (.int p1), .val (.int p2), .val (.int p3), .val (.int p4), .val (.int p5), .val (.int p6), .unset, .unset, .unset, .unset, .unset, .unset, .unset, .unset, .unset, .unset, .unset, .unset, .unset, .unset, .unset] [])) t := fun t k => P99 t (st100.trans k)
    have P103 : ∀ t, Steps p.tables e below (T100.setTop (mkF m 163 #[.val (.int p1), .val (.int p2), .val (.int p3), .val (.int p4), .val (.int p5), .val (.int p6), .val (.int ww), .val (.int (1 : Int32)), .val (.ref b57), .val (.int (0 : Int32)), .val (.int ((0 : Int32) + (1 : Int32))), .val (.int (((0 : Int32) + (1 : Int32)) + (1 : Int32))), .val (.int ii), .val (.int jj), .val (.int kk), .val (.int ff), .val (.int jj), .unset, .unset, .unset, .unset] [(.ref b57)])) t → Steps p.tables e below (s₁.setTop (mkF m 0 #[.val (.int p1), .val (.int p2), .val (.int p3), .val (.int p4), .val (.int p5), .val (.int p6), .unset, .unset, .unset, .unset, .unset, .unset, .unset, .unset, .unset, .unset, .unset, .unset, .unset, .unset, .unset] [])) t := fun t k => by
      refine P102 t ?_
      show Steps p.tables e below (T100.setTop (mkF m 159 #[.val (.int p1), .val (.int p2), .val (.int p3), .val (.int p4), .val (.int p5), .val (.int p6), .val (.int ww), .val (.int (1 : Int32)), .val (.ref b57), .val (.int (0 : Int32)), .val (.int ((0 : Int32) + (1 : Int32))), .val (.int (((0 : Int32) + (1 : Int32)) + (1 : Int32))), .val (.int ii), .val (.int jj), .val (.int kk), .val (.int ff), .unset, .unset, .unset, .unset, .unset] [(.int jj)])) t
      refine XS.istore X100.here hx rfl (hb hby at_159) rfl (l' := #[.val (.int p1), .val (.int p2), .val (.int p3), .val (.int p4), .val (.int p5), .val (.int p6), .val (.int ww), .val (.int (1 : Int32)), .val (.ref b57), .val (.int (0 : Int32)), .val (.int ((0 : Int32) + (1 : Int32))), .val (.int (((0 : Int32) + (1 : Int32)) + (1 : Int32))), .val (.int ii), .val (.int jj), .val (.int kk), .val (.int ff), .val (.int jj), .unset, .unset, .unset, .unset]) rfl ?_
      show Steps p.tables e below (T100.setTop (mkF m 161 #[.val (.int p1), .val (.int p2), .val (.int p3), .val (.int p4), .val (.int p5), .val (.int p6), .val (.int ww), .val (.int (1 : Int32)), .val (.ref b57), .val (.int (0 : Int32)), .val (.int ((0 : Int32) + (1 : Int32))), .val (.int (((0 : Int32) + (1 : Int32)) + (1 : Int32))), .val (.int ii), .val (.int jj), .val (.int kk), .val (.int ff), .val (.int jj), .unset, .unset, .unset, .unset] [])) t
      refine XS.aload X100.here hx rfl (hb hby at_161) rfl rfl ?_
      exact k
    obtain ⟨cq104, kq104, q104a, q104b, q104c⟩ := isOf hZ rfl A57_100
    obtain ⟨_, _, ⟨T104, L104, k104, n104⟩, -, X104, ⟨Lc104, hQ104, l104, y104, z104⟩, st104⟩ := X100.virtualBack hx (y := (⟨"com/example/weftwork/weftwork/Rows", "make", "()I"⟩ : MethodName)) (z := (⟨"com/example/weftwork/weftwork/Rows", "make", "()I"⟩ : MethodName)) hown (mvT hZ (hw _ (List.mem_of_getElem? (i := 20) rfl))) (mvT hZ (hw _ (List.mem_of_getElem? (i := 21) rfl))) (notFace_of_selects (args := #[]) (mvT hZ (hw _ (List.mem_of_getElem? (i := 23) rfl)))) (mvT hZ (hw _ (List.mem_of_getElem? (i := 23) rfl))) (mvT hZ (hw _ (List.mem_of_getElem? (i := 22) rfl))) (by decide) (backOf (W := 0) (rm2r l Z a0 hw [] b57 fa (.ref oa) ww ((((0 : Int32) + (1 : Int32)) + (1 : Int32)) + (1 : Int32)) ii φ100 T100.heap n0 Z_101 A57_100 Fa100 Fb100 Fc100 Fd100 Fe100 V100x ne_r_fa g_b57 g_fa w1 w4 i0 (by omega) hi1) hZ (hw _ (List.mem_of_getElem? (i := 24) rfl)) (hw _ (List.mem_of_getElem? (i := 2) rfl)) (by decide) (by decide)) q104a q104c (g := (mkF m 163 #[.val (.int p1), .val (.int p2), .val (.int p3), .val (.int p4), .val (.int p5), .val (.int p6), .val (.int ww), .val (.int (1 : Int32)), .val (.ref b57), .val (.int (0 : Int32)), .val (.int ((0 : Int32) + (1 : Int32))), .val (.int (((0 : Int32) + (1 : Int32)) + (1 : Int32))), .val (.int ii), .val (.int jj), .val (.int kk), .val (.int ff), .val (.int jj), .unset, .unset, .unset, .unset] [(.ref b57)])) rfl (by rw [hml]; rfl) (Steps.refl _) (argsL := []) (rest := []) (lenOf pd___I rfl) rfl (by show 2 * 0 + _ ≤ _; exact Nat.le_of_eq rfl) (hb hby at_163) (fun _ _ => ⟨rfl, rfl, (by decide : 4 + 0 ≤ _), (by decide : 86 + 0 ≤ _)⟩)
    dsimp only [Pt.U, Pt.locs, Pt.cells, Pt.slots] at X104 l104 y104 z104 st104 hQ104
    subst l104 y104 z104
    obtain ⟨rfl, N104q, K104, E104x, Fa104, Fb104, Fc104, Fd104, Fe104, V104x⟩ := hQ104
    have OL_104 := OL_100.keep K104 (allS g_b57 (allS g_fa all0))
    have A57_104 := A57_100.keep K104
    have E85x_104 := E85x_100.keep K104
    have VO96x_104 := VO96x_100.keep K104 (ninS (Ne.symm ne_r_oa) (ninS (Ne.symm ne_fa_oa) nin0))
    have Z_105 : n0 ≤ T104.heap.size := Nat.le_trans Z_101 K104.1
    have hfr104 : φ100 (ww * ii).toInt = (-1 : Int32) := by rw [hφ100, hφ96, hφ92, hφ81, ej1, ej, ei, ex]; exact (own_pure w1 w4 i0 i2 j0 j2 hij hkk f0 f1 _ p5 ii).2.1
    rw [hfr104] at Fa104
    obtain ⟨φ104, hφ104⟩ : ∃ z, z = own_fill φ100 (ww * ii).toInt (ww * (ii + (1 : Int32))).toInt (-1 : Int32) := ⟨_, rfl⟩
    rw [← hφ104] at V104x
    have N104 := Fr.app N100 N104q
    have P106 : ∀ t, Steps p.tables e below (T104.setTop (mkF m 166 #[.val (.int p1), .val (.int p2), .val (.int p3), .val (.int p4), .val (.int p5), .val (.int p6), .val (.int ww), .val (.int (1 : Int32)), .val (.ref b57), .val (.int (0 : Int32)), .val (.int ((0 : Int32) + (1 : Int32))), .val (.int (((0 : Int32) + (1 : Int32)) + (1 : Int32))), .val (.int ii), .val (.int jj), .val (.int kk), .val (.int ff), .val (.int jj), .unset, .unset, .unset, .unset] [(.int ii)])) t → Steps p.tables e below (s₁.setTop (mkF m 0 #[.val (.int p1), .val (.int p2), .val (.int p3), .val (.int p4), .val (.int p5), .val (.int p6), .unset, .unset, .unset, .unset, .unset, .unset, .unset, .unset, .unset, .unset, .unset, .unset, .unset, .unset, .unset] [])) t := fun t k => P103 t (st104.trans k)
    have P107 : ∀ t, Steps p.tables e below (T104.setTop (mkF m 170 #[.val (.int p1), .val (.int p2), .val (.int p3), .val (.int p4), .val (.int p5), .val (.int p6), .val (.int ww), .val (.int (1 : Int32)), .val (.ref b57), .val (.int (0 : Int32)), .val (.int ((0 : Int32) + (1 : Int32))), .val (.int (((0 : Int32) + (1 : Int32)) + (1 : Int32))), .val (.int ii), .val (.int jj), .val (.int kk), .val (.int ff), .val (.int jj), .val (.int ii), .unset, .unset, .unset] [(.ref b57)])) t → Steps p.tables e below (s₁.setTop (mkF m 0 #[.val (.int p1), .val (.int p2), .val (.int p3), .val (.int p4), .val (.int p5), .val (.int p6), .unset, .unset, .unset, .unset, .unset, .unset, .unset, .unset, .unset, .unset, .unset, .unset, .unset, .unset, .unset] [])) t := fun t k => by
      refine P106 t ?_
      show Steps p.tables e below (T104.setTop (mkF m 166 #[.val (.int p1), .val (.int p2), .val (.int p3), .val (.int p4), .val (.int p5), .val (.int p6), .val (.int ww), .val (.int (1 : Int32)), .val (.ref b57), .val (.int (0 : Int32)), .val (.int ((0 : Int32) + (1 : Int32))), .val (.int (((0 : Int32) + (1 : Int32)) + (1 : Int32))), .val (.int ii), .val (.int jj), .val (.int kk), .val (.int ff), .val (.int jj), .unset, .unset, .unset, .unset] [(.int ii)])) t
      refine XS.istore X104.here hx rfl (hb hby at_166) rfl (l' := #[.val (.int p1), .val (.int p2), .val (.int p3), .val (.int p4), .val (.int p5), .val (.int p6), .val (.int ww), .val (.int (1 : Int32)), .val (.ref b57), .val (.int (0 : Int32)), .val (.int ((0 : Int32) + (1 : Int32))), .val (.int (((0 : Int32) + (1 : Int32)) + (1 : Int32))), .val (.int ii), .val (.int jj), .val (.int kk), .val (.int ff), .val (.int jj), .val (.int ii), .unset, .unset, .unset]) rfl ?_
      show Steps p.tables e below (T104.setTop (mkF m 168 #[.val (.int p1), .val (.int p2), .val (.int p3), .val (.int p4), .val (.int p5), .val (.int p6), .val (.int ww), .val (.int (1 : Int32)), .val (.ref b57), .val (.int (0 : Int32)), .val (.int ((0 : Int32) + (1 : Int32))), .val (.int (((0 : Int32) + (1 : Int32)) + (1 : Int32))), .val (.int ii), .val (.int jj), .val (.int kk), .val (.int ff), .val (.int jj), .val (.int ii), .unset, .unset, .unset] [])) t
      refine XS.aload X104.here hx rfl (hb hby at_168) rfl rfl ?_
      exact k
    obtain ⟨cq108, kq108, q108a, q108b, q108c⟩ := isOf hZ rfl A57_104
    obtain ⟨_, _, ⟨T108, L108, k108, n108⟩, -, X108, ⟨Lc108, hQ108, l108, y108, z108⟩, st108⟩ := X104.virtualBack hx (y := (⟨"com/example/weftwork/weftwork/Rows", "make", "()I"⟩ : MethodName)) (z := (⟨"com/example/weftwork/weftwork/Rows", "make", "()I"⟩ : MethodName)) hown (mvT hZ (hw _ (List.mem_of_getElem? (i := 20) rfl))) (mvT hZ (hw _ (List.mem_of_getElem? (i := 21) rfl))) (notFace_of_selects (args := #[]) (mvT hZ (hw _ (List.mem_of_getElem? (i := 23) rfl)))) (mvT hZ (hw _ (List.mem_of_getElem? (i := 23) rfl))) (mvT hZ (hw _ (List.mem_of_getElem? (i := 22) rfl))) (by decide) (backOf (W := 0) (rm2f l Z a0 hw [] b57 fa (.ref oa) ww ((((0 : Int32) + (1 : Int32)) + (1 : Int32)) + (1 : Int32)) φ104 T104.heap n0 Z_105 A57_104 Fa104 Fb104 Fc104 Fd104 Fe104 V104x ne_r_fa g_b57 g_fa w1 w4 (by decide) (by decide)) hZ (hw _ (List.mem_of_getElem? (i := 24) rfl)) (hw _ (List.mem_of_getElem? (i := 2) rfl)) (by decide) (by decide)) q108a q108c (g := (mkF m 170 #[.val (.int p1), .val (.int p2), .val (.int p3), .val (.int p4), .val (.int p5), .val (.int p6), .val (.int ww), .val (.int (1 : Int32)), .val (.ref b57), .val (.int (0 : Int32)), .val (.int ((0 : Int32) + (1 : Int32))), .val (.int (((0 : Int32) + (1 : Int32)) + (1 : Int32))), .val (.int ii), .val (.int jj), .val (.int kk), .val (.int ff), .val (.int jj), .val (.int ii), .unset, .unset, .unset] [(.ref b57)])) rfl (by rw [hml]; rfl) (Steps.refl _) (argsL := []) (rest := []) (lenOf pd___I rfl) rfl (by show 2 * 0 + _ ≤ _; exact Nat.le_of_eq rfl) (hb hby at_170) (fun _ _ => ⟨rfl, rfl, (by decide : 4 + 0 ≤ _), (by decide : 86 + 0 ≤ _)⟩)
    dsimp only [Pt.U, Pt.locs, Pt.cells, Pt.slots] at X108 l108 y108 z108 st108 hQ108
    subst l108 y108 z108
    obtain ⟨rfl, N108q, K108, E108x, Fa108, Fb108, Fc108, Fd108, Fe108, V108x⟩ := hQ108
    have OL_108 := OL_104.keep K108 (allS g_b57 (allS g_fa all0))
    have A57_108 := A57_104.keep K108
    have E85x_108 := E85x_104.keep K108
    have VO96x_108 := VO96x_104.keep K108 (ninS (Ne.symm ne_r_oa) (ninS (Ne.symm ne_fa_oa) nin0))
    have Z_109 : n0 ≤ T108.heap.size := Nat.le_trans Z_105 K108.1
    obtain ⟨φ108, hφ108⟩ : ∃ z, z = own_fill φ104 (ww * ((((0 : Int32) + (1 : Int32)) + (1 : Int32)) + (1 : Int32))).toInt (ww * (((((0 : Int32) + (1 : Int32)) + (1 : Int32)) + (1 : Int32)) + (1 : Int32))).toInt (-1 : Int32) := ⟨_, rfl⟩
    rw [← hφ108] at V108x
    have N108 := Fr.app N104 N108q
    have P110 : ∀ t, Steps p.tables e below (T108.setTop (mkF m 173 #[.val (.int p1), .val (.int p2), .val (.int p3), .val (.int p4), .val (.int p5), .val (.int p6), .val (.int ww), .val (.int (1 : Int32)), .val (.ref b57), .val (.int (0 : Int32)), .val (.int ((0 : Int32) + (1 : Int32))), .val (.int (((0 : Int32) + (1 : Int32)) + (1 : Int32))), .val (.int ii), .val (.int jj), .val (.int kk), .val (.int ff), .val (.int jj), .val (.int ii), .unset, .unset, .unset] [(.int ((((0 : Int32) + (1 : Int32)) + (1 : Int32)) + (1 : Int32)))])) t → Steps p.tables e below (s₁.setTop (mkF m 0 #[.val (.int p1), .val (.int p2), .val (.int p3), .val (.int p4), .val (.int p5), .val (.int p6), .unset, .unset, .unset, .unset, .unset, .unset, .unset, .unset, .unset, .unset, .unset, .unset, .unset, .unset, .unset] [])) t := fun t k => P107 t (st108.trans k)
    have P111 : ∀ t, Steps p.tables e below (T108.setTop (mkF m 181 #[.val (.int p1), .val (.int p2), .val (.int p3), .val (.int p4), .val (.int p5), .val (.int p6), .val (.int ww), .val (.int (1 : Int32)), .val (.ref b57), .val (.int (0 : Int32)), .val (.int ((0 : Int32) + (1 : Int32))), .val (.int (((0 : Int32) + (1 : Int32)) + (1 : Int32))), .val (.int ii), .val (.int jj), .val (.int kk), .val (.int ff), .val (.int jj), .val (.int ii), .val (.int ((((0 : Int32) + (1 : Int32)) + (1 : Int32)) + (1 : Int32))), .unset, .unset] [(.int ff), (.int kk), (.ref b57)])) t → Steps p.tables e below (s₁.setTop (mkF m 0 #[.val (.int p1), .val (.int p2), .val (.int p3), .val (.int p4), .val (.int p5), .val (.int p6), .unset, .unset, .unset, .unset, .unset, .unset, .unset, .unset, .unset, .unset, .unset, .unset, .unset, .unset, .unset] [])) t := fun t k => by
      refine P110 t ?_
      show Steps p.tables e below (T108.setTop (mkF m 173 #[.val (.int p1), .val (.int p2), .val (.int p3), .val (.int p4), .val (.int p5), .val (.int p6), .val (.int ww), .val (.int (1 : Int32)), .val (.ref b57), .val (.int (0 : Int32)), .val (.int ((0 : Int32) + (1 : Int32))), .val (.int (((0 : Int32) + (1 : Int32)) + (1 : Int32))), .val (.int ii), .val (.int jj), .val (.int kk), .val (.int ff), .val (.int jj), .val (.int ii), .unset, .unset, .unset] [(.int ((((0 : Int32) + (1 : Int32)) + (1 : Int32)) + (1 : Int32)))])) t
      refine XS.istore X108.here hx rfl (hb hby at_173) rfl (l' := #[.val (.int p1), .val (.int p2), .val (.int p3), .val (.int p4), .val (.int p5), .val (.int p6), .val (.int ww), .val (.int (1 : Int32)), .val (.ref b57), .val (.int (0 : Int32)), .val (.int ((0 : Int32) + (1 : Int32))), .val (.int (((0 : Int32) + (1 : Int32)) + (1 : Int32))), .val (.int ii), .val (.int jj), .val (.int kk), .val (.int ff), .val (.int jj), .val (.int ii), .val (.int ((((0 : Int32) + (1 : Int32)) + (1 : Int32)) + (1 : Int32))), .unset, .unset]) rfl ?_
      show Steps p.tables e below (T108.setTop (mkF m 175 #[.val (.int p1), .val (.int p2), .val (.int p3), .val (.int p4), .val (.int p5), .val (.int p6), .val (.int ww), .val (.int (1 : Int32)), .val (.ref b57), .val (.int (0 : Int32)), .val (.int ((0 : Int32) + (1 : Int32))), .val (.int (((0 : Int32) + (1 : Int32)) + (1 : Int32))), .val (.int ii), .val (.int jj), .val (.int kk), .val (.int ff), .val (.int jj), .val (.int ii), .val (.int ((((0 : Int32) + (1 : Int32)) + (1 : Int32)) + (1 : Int32))), .unset, .unset] [])) t
      refine XS.aload X108.here hx rfl (hb hby at_175) rfl rfl ?_
      show Steps p.tables e below (T108.setTop (mkF m 177 #[.val (.int p1), .val (.int p2), .val (.int p3), .val (.int p4), .val (.int p5), .val (.int p6), .val (.int ww), .val (.int (1 : Int32)), .val (.ref b57), .val (.int (0 : Int32)), .val (.int ((0 : Int32) + (1 : Int32))), .val (.int (((0 : Int32) + (1 : Int32)) + (1 : Int32))), .val (.int ii), .val (.int jj), .val (.int kk), .val (.int ff), .val (.int jj), .val (.int ii), .val (.int ((((0 : Int32) + (1 : Int32)) + (1 : Int32)) + (1 : Int32))), .unset, .unset] [(.ref b57)])) t
      refine XS.iload X108.here hx rfl (hb hby at_177) rfl ?_
      show Steps p.tables e below (T108.setTop (mkF m 179 #[.val (.int p1), .val (.int p2), .val (.int p3), .val (.int p4), .val (.int p5), .val (.int p6), .val (.int ww), .val (.int (1 : Int32)), .val (.ref b57), .val (.int (0 : Int32)), .val (.int ((0 : Int32) + (1 : Int32))), .val (.int (((0 : Int32) + (1 : Int32)) + (1 : Int32))), .val (.int ii), .val (.int jj), .val (.int kk), .val (.int ff), .val (.int jj), .val (.int ii), .val (.int ((((0 : Int32) + (1 : Int32)) + (1 : Int32)) + (1 : Int32))), .unset, .unset] [(.int kk), (.ref b57)])) t
      refine XS.iload X108.here hx rfl (hb hby at_179) rfl ?_
      exact k
    have e31 : ((((0 : Int32) + (1 : Int32)) + (1 : Int32)) + (1 : Int32)).toInt = 3 := rfl
    have e33 : (ww * ((((0 : Int32) + (1 : Int32)) + (1 : Int32)) + (1 : Int32))).toInt = ww.toInt * 3 := own_wr w1 w4 (by decide) (by decide)
    have e34 : (ww * (((((0 : Int32) + (1 : Int32)) + (1 : Int32)) + (1 : Int32)) + (1 : Int32))).toInt = ww.toInt * 4 := own_wr w1 w4 (by decide) (by decide)
    have hkept : φ108 ((ww * kk) + ff).toInt = p5 := by rw [hφ108, hφ104, hφ100, hφ96, hφ92, hφ81, e33, e34, ei1, ej1, ej, ei, ex]; exact (own_pure w1 w4 i0 i2 j0 j2 hij hkk f0 f1 _ p5 ii).2.2
    obtain ⟨cq112, kq112, q112a, q112b, q112c⟩ := isOf hZ rfl A57_108
    obtain ⟨_, _, ⟨T112, L112, k112, n112⟩, -, X112, ⟨Lc112, hQ112, l112, y112, z112⟩, st112⟩ := X108.virtualBack hx (y := (⟨"com/example/weftwork/weftwork/Rows", "get", "(II)I"⟩ : MethodName)) (z := (⟨"com/example/weftwork/weftwork/Rows", "get", "(II)I"⟩ : MethodName)) hown (mvT hZ (hw _ (List.mem_of_getElem? (i := 58) rfl))) (mvT hZ (hw _ (List.mem_of_getElem? (i := 59) rfl))) (notFace_of_selects (args := #[]) (mvT hZ (hw _ (List.mem_of_getElem? (i := 61) rfl)))) (mvT hZ (hw _ (List.mem_of_getElem? (i := 61) rfl))) (mvT hZ (hw _ (List.mem_of_getElem? (i := 60) rfl))) (by decide) (backOf (W := 0) (rm4 l Z a0 hw [] b57 fa kk ff ww φ108 T108.heap n0 Z_109 Fb108 Fc108 V108x hx1.1 hx1.2) hZ (hw _ (List.mem_of_getElem? (i := 62) rfl)) (hw _ (List.mem_of_getElem? (i := 2) rfl)) (by decide) (by decide)) q112a q112c (g := (mkF m 181 #[.val (.int p1), .val (.int p2), .val (.int p3), .val (.int p4), .val (.int p5), .val (.int p6), .val (.int ww), .val (.int (1 : Int32)), .val (.ref b57), .val (.int (0 : Int32)), .val (.int ((0 : Int32) + (1 : Int32))), .val (.int (((0 : Int32) + (1 : Int32)) + (1 : Int32))), .val (.int ii), .val (.int jj), .val (.int kk), .val (.int ff), .val (.int jj), .val (.int ii), .val (.int ((((0 : Int32) + (1 : Int32)) + (1 : Int32)) + (1 : Int32))), .unset, .unset] [(.int ff), (.int kk), (.ref b57)])) rfl (by rw [hml]; rfl) (Steps.refl _) (argsL := [(.int kk), (.int ff)]) (rest := []) (lenOf pd__II_I rfl) rfl (by show 2 * 0 + _ ≤ _; exact Nat.le_of_eq rfl) (hb hby at_181) (fun _ _ => ⟨rfl, rfl, (by decide : 4 + 0 ≤ _), (by decide : 86 + 0 ≤ _)⟩)
    dsimp only [Pt.U, Pt.locs, Pt.cells, Pt.slots] at X112 l112 y112 z112 st112 hQ112
    subst l112 y112 z112
    obtain ⟨rfl, N112q, e112⟩ := hQ112
    have N112 := Fr.app N108 N112q
    have P113 : ∀ t, Steps p.tables e below (T112.setTop (mkF m 184 #[.val (.int p1), .val (.int p2), .val (.int p3), .val (.int p4), .val (.int p5), .val (.int p6), .val (.int ww), .val (.int (1 : Int32)), .val (.ref b57), .val (.int (0 : Int32)), .val (.int ((0 : Int32) + (1 : Int32))), .val (.int (((0 : Int32) + (1 : Int32)) + (1 : Int32))), .val (.int ii), .val (.int jj), .val (.int kk), .val (.int ff), .val (.int jj), .val (.int ii), .val (.int ((((0 : Int32) + (1 : Int32)) + (1 : Int32)) + (1 : Int32))), .unset, .unset] [(.int (φ108 ((ww * kk) + ff).toInt))])) t → Steps p.tables e below (s₁.setTop (mkF m 0 #[.val (.int p1), .val (.int p2), .val (.int p3), .val (.int p4), .val (.int p5), .val (.int p6), .unset, .unset, .unset, .unset, .unset, .unset, .unset, .unset, .unset, .unset, .unset, .unset, .unset, .unset, .unset] [])) t := fun t k => P111 t (st112.trans k)
    have P114 : ∀ t, Steps p.tables e below (T112.setTop (mkF m 234 #[.val (.int p1), .val (.int p2), .val (.int p3), .val (.int p4), .val (.int p5), .val (.int p6), .val (.int ww), .val (.int (1 : Int32)), .val (.ref b57), .val (.int (0 : Int32)), .val (.int ((0 : Int32) + (1 : Int32))), .val (.int (((0 : Int32) + (1 : Int32)) + (1 : Int32))), .val (.int ii), .val (.int jj), .val (.int kk), .val (.int ff), .val (.int jj), .val (.int ii), .val (.int ((((0 : Int32) + (1 : Int32)) + (1 : Int32)) + (1 : Int32))), .val (.int (φ108 ((ww * kk) + ff).toInt)), .val (.int (1 : Int32))] [(.int ii), (.ref b57)])) t → Steps p.tables e below (s₁.setTop (mkF m 0 #[.val (.int p1), .val (.int p2), .val (.int p3), .val (.int p4), .val (.int p5), .val (.int p6), .unset, .unset, .unset, .unset, .unset, .unset, .unset, .unset, .unset, .unset, .unset, .unset, .unset, .unset, .unset] [])) t := fun t k => by
      refine P113 t ?_
      show Steps p.tables e below (T112.setTop (mkF m 184 #[.val (.int p1), .val (.int p2), .val (.int p3), .val (.int p4), .val (.int p5), .val (.int p6), .val (.int ww), .val (.int (1 : Int32)), .val (.ref b57), .val (.int (0 : Int32)), .val (.int ((0 : Int32) + (1 : Int32))), .val (.int (((0 : Int32) + (1 : Int32)) + (1 : Int32))), .val (.int ii), .val (.int jj), .val (.int kk), .val (.int ff), .val (.int jj), .val (.int ii), .val (.int ((((0 : Int32) + (1 : Int32)) + (1 : Int32)) + (1 : Int32))), .unset, .unset] [(.int (φ108 ((ww * kk) + ff).toInt))])) t
      refine XS.istore X112.here hx rfl (hb hby at_184) rfl (l' := #[.val (.int p1), .val (.int p2), .val (.int p3), .val (.int p4), .val (.int p5), .val (.int p6), .val (.int ww), .val (.int (1 : Int32)), .val (.ref b57), .val (.int (0 : Int32)), .val (.int ((0 : Int32) + (1 : Int32))), .val (.int (((0 : Int32) + (1 : Int32)) + (1 : Int32))), .val (.int ii), .val (.int jj), .val (.int kk), .val (.int ff), .val (.int jj), .val (.int ii), .val (.int ((((0 : Int32) + (1 : Int32)) + (1 : Int32)) + (1 : Int32))), .val (.int (φ108 ((ww * kk) + ff).toInt)), .unset]) rfl ?_
      show Steps p.tables e below (T112.setTop (mkF m 186 #[.val (.int p1), .val (.int p2), .val (.int p3), .val (.int p4), .val (.int p5), .val (.int p6), .val (.int ww), .val (.int (1 : Int32)), .val (.ref b57), .val (.int (0 : Int32)), .val (.int ((0 : Int32) + (1 : Int32))), .val (.int (((0 : Int32) + (1 : Int32)) + (1 : Int32))), .val (.int ii), .val (.int jj), .val (.int kk), .val (.int ff), .val (.int jj), .val (.int ii), .val (.int ((((0 : Int32) + (1 : Int32)) + (1 : Int32)) + (1 : Int32))), .val (.int (φ108 ((ww * kk) + ff).toInt)), .unset] [])) t
      refine XS.iload X112.here hx rfl (hb hby at_186) rfl ?_
      show Steps p.tables e below (T112.setTop (mkF m 188 #[.val (.int p1), .val (.int p2), .val (.int p3), .val (.int p4), .val (.int p5), .val (.int p6), .val (.int ww), .val (.int (1 : Int32)), .val (.ref b57), .val (.int (0 : Int32)), .val (.int ((0 : Int32) + (1 : Int32))), .val (.int (((0 : Int32) + (1 : Int32)) + (1 : Int32))), .val (.int ii), .val (.int jj), .val (.int kk), .val (.int ff), .val (.int jj), .val (.int ii), .val (.int ((((0 : Int32) + (1 : Int32)) + (1 : Int32)) + (1 : Int32))), .val (.int (φ108 ((ww * kk) + ff).toInt)), .unset] [(.int jj)])) t
      refine XS.iload X112.here hx rfl (hb hby at_188) rfl ?_
      show Steps p.tables e below (T112.setTop (mkF m 190 #[.val (.int p1), .val (.int p2), .val (.int p3), .val (.int p4), .val (.int p5), .val (.int p6), .val (.int ww), .val (.int (1 : Int32)), .val (.ref b57), .val (.int (0 : Int32)), .val (.int ((0 : Int32) + (1 : Int32))), .val (.int (((0 : Int32) + (1 : Int32)) + (1 : Int32))), .val (.int ii), .val (.int jj), .val (.int kk), .val (.int ff), .val (.int jj), .val (.int ii), .val (.int ((((0 : Int32) + (1 : Int32)) + (1 : Int32)) + (1 : Int32))), .val (.int (φ108 ((ww * kk) + ff).toInt)), .unset] [(.int jj), (.int jj)])) t
      refine XS.icmpNo X112.here hx rfl (hb hby at_190) rfl (teq rfl).2 ?_
      show Steps p.tables e below (T112.setTop (mkF m 193 #[.val (.int p1), .val (.int p2), .val (.int p3), .val (.int p4), .val (.int p5), .val (.int p6), .val (.int ww), .val (.int (1 : Int32)), .val (.ref b57), .val (.int (0 : Int32)), .val (.int ((0 : Int32) + (1 : Int32))), .val (.int (((0 : Int32) + (1 : Int32)) + (1 : Int32))), .val (.int ii), .val (.int jj), .val (.int kk), .val (.int ff), .val (.int jj), .val (.int ii), .val (.int ((((0 : Int32) + (1 : Int32)) + (1 : Int32)) + (1 : Int32))), .val (.int (φ108 ((ww * kk) + ff).toInt)), .unset] [])) t
      refine XS.iload X112.here hx rfl (hb hby at_193) rfl ?_
      show Steps p.tables e below (T112.setTop (mkF m 195 #[.val (.int p1), .val (.int p2), .val (.int p3), .val (.int p4), .val (.int p5), .val (.int p6), .val (.int ww), .val (.int (1 : Int32)), .val (.ref b57), .val (.int (0 : Int32)), .val (.int ((0 : Int32) + (1 : Int32))), .val (.int (((0 : Int32) + (1 : Int32)) + (1 : Int32))), .val (.int ii), .val (.int jj), .val (.int kk), .val (.int ff), .val (.int jj), .val (.int ii), .val (.int ((((0 : Int32) + (1 : Int32)) + (1 : Int32)) + (1 : Int32))), .val (.int (φ108 ((ww * kk) + ff).toInt)), .unset] [(.int ii)])) t
      refine XS.iload X112.here hx rfl (hb hby at_195) rfl ?_
      show Steps p.tables e below (T112.setTop (mkF m 197 #[.val (.int p1), .val (.int p2), .val (.int p3), .val (.int p4), .val (.int p5), .val (.int p6), .val (.int ww), .val (.int (1 : Int32)), .val (.ref b57), .val (.int (0 : Int32)), .val (.int ((0 : Int32) + (1 : Int32))), .val (.int (((0 : Int32) + (1 : Int32)) + (1 : Int32))), .val (.int ii), .val (.int jj), .val (.int kk), .val (.int ff), .val (.int jj), .val (.int ii), .val (.int ((((0 : Int32) + (1 : Int32)) + (1 : Int32)) + (1 : Int32))), .val (.int (φ108 ((ww * kk) + ff).toInt)), .unset] [(.int ii), (.int ii)])) t
      refine XS.icmpNo X112.here hx rfl (hb hby at_197) rfl (teq rfl).2 ?_
      show Steps p.tables e below (T112.setTop (mkF m 200 #[.val (.int p1), .val (.int p2), .val (.int p3), .val (.int p4), .val (.int p5), .val (.int p6), .val (.int ww), .val (.int (1 : Int32)), .val (.ref b57), .val (.int (0 : Int32)), .val (.int ((0 : Int32) + (1 : Int32))), .val (.int (((0 : Int32) + (1 : Int32)) + (1 : Int32))), .val (.int ii), .val (.int jj), .val (.int kk), .val (.int ff), .val (.int jj), .val (.int ii), .val (.int ((((0 : Int32) + (1 : Int32)) + (1 : Int32)) + (1 : Int32))), .val (.int (φ108 ((ww * kk) + ff).toInt)), .unset] [])) t
      refine XS.iload X112.here hx rfl (hb hby at_200) rfl ?_
      show Steps p.tables e below (T112.setTop (mkF m 202 #[.val (.int p1), .val (.int p2), .val (.int p3), .val (.int p4), .val (.int p5), .val (.int p6), .val (.int ww), .val (.int (1 : Int32)), .val (.ref b57), .val (.int (0 : Int32)), .val (.int ((0 : Int32) + (1 : Int32))), .val (.int (((0 : Int32) + (1 : Int32)) + (1 : Int32))), .val (.int ii), .val (.int jj), .val (.int kk), .val (.int ff), .val (.int jj), .val (.int ii), .val (.int ((((0 : Int32) + (1 : Int32)) + (1 : Int32)) + (1 : Int32))), .val (.int (φ108 ((ww * kk) + ff).toInt)), .unset] [(.int ((((0 : Int32) + (1 : Int32)) + (1 : Int32)) + (1 : Int32)))])) t
      refine XS.iconst X112.here hx rfl (hb hby at_202) ?_
      show Steps p.tables e below (T112.setTop (mkF m 203 #[.val (.int p1), .val (.int p2), .val (.int p3), .val (.int p4), .val (.int p5), .val (.int p6), .val (.int ww), .val (.int (1 : Int32)), .val (.ref b57), .val (.int (0 : Int32)), .val (.int ((0 : Int32) + (1 : Int32))), .val (.int (((0 : Int32) + (1 : Int32)) + (1 : Int32))), .val (.int ii), .val (.int jj), .val (.int kk), .val (.int ff), .val (.int jj), .val (.int ii), .val (.int ((((0 : Int32) + (1 : Int32)) + (1 : Int32)) + (1 : Int32))), .val (.int (φ108 ((ww * kk) + ff).toInt)), .unset] [(.int (3 : Int32)), (.int ((((0 : Int32) + (1 : Int32)) + (1 : Int32)) + (1 : Int32)))])) t
      refine XS.icmpNo X112.here hx rfl (hb hby at_203) rfl (teq (by decide)).2 ?_
      show Steps p.tables e below (T112.setTop (mkF m 206 #[.val (.int p1), .val (.int p2), .val (.int p3), .val (.int p4), .val (.int p5), .val (.int p6), .val (.int ww), .val (.int (1 : Int32)), .val (.ref b57), .val (.int (0 : Int32)), .val (.int ((0 : Int32) + (1 : Int32))), .val (.int (((0 : Int32) + (1 : Int32)) + (1 : Int32))), .val (.int ii), .val (.int jj), .val (.int kk), .val (.int ff), .val (.int jj), .val (.int ii), .val (.int ((((0 : Int32) + (1 : Int32)) + (1 : Int32)) + (1 : Int32))), .val (.int (φ108 ((ww * kk) + ff).toInt)), .unset] [])) t
      refine XS.iload X112.here hx rfl (hb hby at_206) rfl ?_
      show Steps p.tables e below (T112.setTop (mkF m 208 #[.val (.int p1), .val (.int p2), .val (.int p3), .val (.int p4), .val (.int p5), .val (.int p6), .val (.int ww), .val (.int (1 : Int32)), .val (.ref b57), .val (.int (0 : Int32)), .val (.int ((0 : Int32) + (1 : Int32))), .val (.int (((0 : Int32) + (1 : Int32)) + (1 : Int32))), .val (.int ii), .val (.int jj), .val (.int kk), .val (.int ff), .val (.int jj), .val (.int ii), .val (.int ((((0 : Int32) + (1 : Int32)) + (1 : Int32)) + (1 : Int32))), .val (.int (φ108 ((ww * kk) + ff).toInt)), .unset] [(.int (φ108 ((ww * kk) + ff).toInt))])) t
      refine XS.iload X112.here hx rfl (hb hby at_208) rfl ?_
      show Steps p.tables e below (T112.setTop (mkF m 210 #[.val (.int p1), .val (.int p2), .val (.int p3), .val (.int p4), .val (.int p5), .val (.int p6), .val (.int ww), .val (.int (1 : Int32)), .val (.ref b57), .val (.int (0 : Int32)), .val (.int ((0 : Int32) + (1 : Int32))), .val (.int (((0 : Int32) + (1 : Int32)) + (1 : Int32))), .val (.int ii), .val (.int jj), .val (.int kk), .val (.int ff), .val (.int jj), .val (.int ii), .val (.int ((((0 : Int32) + (1 : Int32)) + (1 : Int32)) + (1 : Int32))), .val (.int (φ108 ((ww * kk) + ff).toInt)), .unset] [(.int p5), (.int (φ108 ((ww * kk) + ff).toInt))])) t
      refine XS.icmpNo X112.here hx rfl (hb hby at_210) rfl (teq hkept).2 ?_
      show Steps p.tables e below (T112.setTop (mkF m 213 #[.val (.int p1), .val (.int p2), .val (.int p3), .val (.int p4), .val (.int p5), .val (.int p6), .val (.int ww), .val (.int (1 : Int32)), .val (.ref b57), .val (.int (0 : Int32)), .val (.int ((0 : Int32) + (1 : Int32))), .val (.int (((0 : Int32) + (1 : Int32)) + (1 : Int32))), .val (.int ii), .val (.int jj), .val (.int kk), .val (.int ff), .val (.int jj), .val (.int ii), .val (.int ((((0 : Int32) + (1 : Int32)) + (1 : Int32)) + (1 : Int32))), .val (.int (φ108 ((ww * kk) + ff).toInt)), .unset] [])) t
      refine XS.iconst X112.here hx rfl (hb hby at_213) ?_
      show Steps p.tables e below (T112.setTop (mkF m 214 #[.val (.int p1), .val (.int p2), .val (.int p3), .val (.int p4), .val (.int p5), .val (.int p6), .val (.int ww), .val (.int (1 : Int32)), .val (.ref b57), .val (.int (0 : Int32)), .val (.int ((0 : Int32) + (1 : Int32))), .val (.int (((0 : Int32) + (1 : Int32)) + (1 : Int32))), .val (.int ii), .val (.int jj), .val (.int kk), .val (.int ff), .val (.int jj), .val (.int ii), .val (.int ((((0 : Int32) + (1 : Int32)) + (1 : Int32)) + (1 : Int32))), .val (.int (φ108 ((ww * kk) + ff).toInt)), .unset] [(.int (1 : Int32))])) t
      refine XS.goto X112.here hx rfl (pc0 := 214) (pc' := 218) rfl (hb hby at_214) (by decide) (by decide) ?_
      show Steps p.tables e below (T112.setTop (mkF m 218 #[.val (.int p1), .val (.int p2), .val (.int p3), .val (.int p4), .val (.int p5), .val (.int p6), .val (.int ww), .val (.int (1 : Int32)), .val (.ref b57), .val (.int (0 : Int32)), .val (.int ((0 : Int32) + (1 : Int32))), .val (.int (((0 : Int32) + (1 : Int32)) + (1 : Int32))), .val (.int ii), .val (.int jj), .val (.int kk), .val (.int ff), .val (.int jj), .val (.int ii), .val (.int ((((0 : Int32) + (1 : Int32)) + (1 : Int32)) + (1 : Int32))), .val (.int (φ108 ((ww * kk) + ff).toInt)), .unset] [(.int (1 : Int32))])) t
      refine XS.istore X112.here hx rfl (hb hby at_218) rfl (l' := #[.val (.int p1), .val (.int p2), .val (.int p3), .val (.int p4), .val (.int p5), .val (.int p6), .val (.int ww), .val (.int (1 : Int32)), .val (.ref b57), .val (.int (0 : Int32)), .val (.int ((0 : Int32) + (1 : Int32))), .val (.int (((0 : Int32) + (1 : Int32)) + (1 : Int32))), .val (.int ii), .val (.int jj), .val (.int kk), .val (.int ff), .val (.int jj), .val (.int ii), .val (.int ((((0 : Int32) + (1 : Int32)) + (1 : Int32)) + (1 : Int32))), .val (.int (φ108 ((ww * kk) + ff).toInt)), .val (.int (1 : Int32))]) rfl ?_
      show Steps p.tables e below (T112.setTop (mkF m 220 #[.val (.int p1), .val (.int p2), .val (.int p3), .val (.int p4), .val (.int p5), .val (.int p6), .val (.int ww), .val (.int (1 : Int32)), .val (.ref b57), .val (.int (0 : Int32)), .val (.int ((0 : Int32) + (1 : Int32))), .val (.int (((0 : Int32) + (1 : Int32)) + (1 : Int32))), .val (.int ii), .val (.int jj), .val (.int kk), .val (.int ff), .val (.int jj), .val (.int ii), .val (.int ((((0 : Int32) + (1 : Int32)) + (1 : Int32)) + (1 : Int32))), .val (.int (φ108 ((ww * kk) + ff).toInt)), .val (.int (1 : Int32))] [])) t
      refine XS.iload X112.here hx rfl (hb hby at_220) rfl ?_
      show Steps p.tables e below (T112.setTop (mkF m 222 #[.val (.int p1), .val (.int p2), .val (.int p3), .val (.int p4), .val (.int p5), .val (.int p6), .val (.int ww), .val (.int (1 : Int32)), .val (.ref b57), .val (.int (0 : Int32)), .val (.int ((0 : Int32) + (1 : Int32))), .val (.int (((0 : Int32) + (1 : Int32)) + (1 : Int32))), .val (.int ii), .val (.int jj), .val (.int kk), .val (.int ff), .val (.int jj), .val (.int ii), .val (.int ((((0 : Int32) + (1 : Int32)) + (1 : Int32)) + (1 : Int32))), .val (.int (φ108 ((ww * kk) + ff).toInt)), .val (.int (1 : Int32))] [(.int (1 : Int32))])) t
      refine XS.ifNo X112.here hx rfl (hb hby at_222) rfl ((if0 _ _).trans (feq (by decide)).1) ?_
      show Steps p.tables e below (T112.setTop (mkF m 225 #[.val (.int p1), .val (.int p2), .val (.int p3), .val (.int p4), .val (.int p5), .val (.int p6), .val (.int ww), .val (.int (1 : Int32)), .val (.ref b57), .val (.int (0 : Int32)), .val (.int ((0 : Int32) + (1 : Int32))), .val (.int (((0 : Int32) + (1 : Int32)) + (1 : Int32))), .val (.int ii), .val (.int jj), .val (.int kk), .val (.int ff), .val (.int jj), .val (.int ii), .val (.int ((((0 : Int32) + (1 : Int32)) + (1 : Int32)) + (1 : Int32))), .val (.int (φ108 ((ww * kk) + ff).toInt)), .val (.int (1 : Int32))] [])) t
      refine XS.iload X112.here hx rfl (hb hby at_225) rfl ?_
      show Steps p.tables e below (T112.setTop (mkF m 227 #[.val (.int p1), .val (.int p2), .val (.int p3), .val (.int p4), .val (.int p5), .val (.int p6), .val (.int ww), .val (.int (1 : Int32)), .val (.ref b57), .val (.int (0 : Int32)), .val (.int ((0 : Int32) + (1 : Int32))), .val (.int (((0 : Int32) + (1 : Int32)) + (1 : Int32))), .val (.int ii), .val (.int jj), .val (.int kk), .val (.int ff), .val (.int jj), .val (.int ii), .val (.int ((((0 : Int32) + (1 : Int32)) + (1 : Int32)) + (1 : Int32))), .val (.int (φ108 ((ww * kk) + ff).toInt)), .val (.int (1 : Int32))] [(.int (1 : Int32))])) t
      refine XS.ifNo X112.here hx rfl (hb hby at_227) rfl ((if0 _ _).trans (feq (by decide)).1) ?_
      show Steps p.tables e below (T112.setTop (mkF m 230 #[.val (.int p1), .val (.int p2), .val (.int p3), .val (.int p4), .val (.int p5), .val (.int p6), .val (.int ww), .val (.int (1 : Int32)), .val (.ref b57), .val (.int (0 : Int32)), .val (.int ((0 : Int32) + (1 : Int32))), .val (.int (((0 : Int32) + (1 : Int32)) + (1 : Int32))), .val (.int ii), .val (.int jj), .val (.int kk), .val (.int ff), .val (.int jj), .val (.int ii), .val (.int ((((0 : Int32) + (1 : Int32)) + (1 : Int32)) + (1 : Int32))), .val (.int (φ108 ((ww * kk) + ff).toInt)), .val (.int (1 : Int32))] [])) t
      refine XS.aload X112.here hx rfl (hb hby at_230) rfl rfl ?_
      show Steps p.tables e below (T112.setTop (mkF m 232 #[.val (.int p1), .val (.int p2), .val (.int p3), .val (.int p4), .val (.int p5), .val (.int p6), .val (.int ww), .val (.int (1 : Int32)), .val (.ref b57), .val (.int (0 : Int32)), .val (.int ((0 : Int32) + (1 : Int32))), .val (.int (((0 : Int32) + (1 : Int32)) + (1 : Int32))), .val (.int ii), .val (.int jj), .val (.int kk), .val (.int ff), .val (.int jj), .val (.int ii), .val (.int ((((0 : Int32) + (1 : Int32)) + (1 : Int32)) + (1 : Int32))), .val (.int (φ108 ((ww * kk) + ff).toInt)), .val (.int (1 : Int32))] [(.ref b57)])) t
      refine XS.iload X112.here hx rfl (hb hby at_232) rfl ?_
      exact k
    have hnull : (own_putV (own_putV (own_putV (fun _ => .null) ii.toInt (.ref bi85)) ii.toInt .null) jj.toInt .null) ii.toInt = .null := by simp only [own_putV]; rw [if_neg hij, if_pos trivial]
    obtain ⟨cq115, kq115, q115a, q115b, q115c⟩ := isOf hZ e112 A57_108
    obtain ⟨_, _, ⟨T115, L115, k115, n115⟩, -, X115, ⟨Lc115, hQ115, l115, y115, z115⟩, st115⟩ := X112.virtualBack hx (y := (⟨"com/example/weftwork/weftwork/Rows", "object", "(I)Ljava/lang/Object;"⟩ : MethodName)) (z := (⟨"com/example/weftwork/weftwork/Rows", "object", "(I)Ljava/lang/Object;"⟩ : MethodName)) hown (mvT hZ (hw _ (List.mem_of_getElem? (i := 63) rfl))) (mvT hZ (hw _ (List.mem_of_getElem? (i := 64) rfl))) (notFace_of_selects (args := #[]) (mvT hZ (hw _ (List.mem_of_getElem? (i := 66) rfl)))) (mvT hZ (hw _ (List.mem_of_getElem? (i := 66) rfl))) (mvT hZ (hw _ (List.mem_of_getElem? (i := 65) rfl))) (by decide) (backOf (W := 0) (rm6 l Z a0 hw [] b57 oa ii ko (own_putV (own_putV (own_putV (fun _ => .null) ii.toInt (.ref bi85)) ii.toInt .null) jj.toInt .null) T108.heap n0 Z_109 Fd108 VO96x_108 i0 (by omega) hnull) hZ (hw _ (List.mem_of_getElem? (i := 67) rfl)) (hw _ (List.mem_of_getElem? (i := 2) rfl)) (by decide) (by decide)) q115a q115c (g := (mkF m 234 #[.val (.int p1), .val (.int p2), .val (.int p3), .val (.int p4), .val (.int p5), .val (.int p6), .val (.int ww), .val (.int (1 : Int32)), .val (.ref b57), .val (.int (0 : Int32)), .val (.int ((0 : Int32) + (1 : Int32))), .val (.int (((0 : Int32) + (1 : Int32)) + (1 : Int32))), .val (.int ii), .val (.int jj), .val (.int kk), .val (.int ff), .val (.int jj), .val (.int ii), .val (.int ((((0 : Int32) + (1 : Int32)) + (1 : Int32)) + (1 : Int32))), .val (.int (φ108 ((ww * kk) + ff).toInt)), .val (.int (1 : Int32))] [(.int ii), (.ref b57)])) rfl (by rw [hml]; rfl) (Steps.refl _) (argsL := [(.int ii)]) (rest := []) (lenOf pd__I_Ljava_lang_Object_ rfl) rfl (by show 2 * 0 + _ ≤ _; exact Nat.le_of_eq rfl) (hb hby at_234) (fun _ _ => ⟨rfl, e112, (by decide : 4 + 0 ≤ _), (by decide : 86 + 0 ≤ _)⟩)
    dsimp only [Pt.U, Pt.locs, Pt.cells, Pt.slots] at X115 l115 y115 z115 st115 hQ115
    subst l115 y115 z115
    obtain ⟨rfl, N115q, e115⟩ := hQ115
    have N115 := Fr.app N112 N115q
    have P116 : ∀ t, Steps p.tables e below (T115.setTop (mkF m 237 #[.val (.int p1), .val (.int p2), .val (.int p3), .val (.int p4), .val (.int p5), .val (.int p6), .val (.int ww), .val (.int (1 : Int32)), .val (.ref b57), .val (.int (0 : Int32)), .val (.int ((0 : Int32) + (1 : Int32))), .val (.int (((0 : Int32) + (1 : Int32)) + (1 : Int32))), .val (.int ii), .val (.int jj), .val (.int kk), .val (.int ff), .val (.int jj), .val (.int ii), .val (.int ((((0 : Int32) + (1 : Int32)) + (1 : Int32)) + (1 : Int32))), .val (.int (φ108 ((ww * kk) + ff).toInt)), .val (.int (1 : Int32))] [.null])) t → Steps p.tables e below (s₁.setTop (mkF m 0 #[.val (.int p1), .val (.int p2), .val (.int p3), .val (.int p4), .val (.int p5), .val (.int p6), .unset, .unset, .unset, .unset, .unset, .unset, .unset, .unset, .unset, .unset, .unset, .unset, .unset, .unset, .unset] [])) t := fun t k => P114 t (st115.trans k)
    have P117 : ∀ t, Steps p.tables e below (T115.setTop (mkF m 249 #[.val (.int p1), .val (.int p2), .val (.int p3), .val (.int p4), .val (.int p5), .val (.int p6), .val (.int ww), .val (.int (1 : Int32)), .val (.ref b57), .val (.int (0 : Int32)), .val (.int ((0 : Int32) + (1 : Int32))), .val (.int (((0 : Int32) + (1 : Int32)) + (1 : Int32))), .val (.int ii), .val (.int jj), .val (.int kk), .val (.int ff), .val (.int jj), .val (.int ii), .val (.int ((((0 : Int32) + (1 : Int32)) + (1 : Int32)) + (1 : Int32))), .val (.int (φ108 ((ww * kk) + ff).toInt)), .val (.int (1 : Int32))] [(.int (1 : Int32))])) t → Steps p.tables e below (s₁.setTop (mkF m 0 #[.val (.int p1), .val (.int p2), .val (.int p3), .val (.int p4), .val (.int p5), .val (.int p6), .unset, .unset, .unset, .unset, .unset, .unset, .unset, .unset, .unset, .unset, .unset, .unset, .unset, .unset, .unset] [])) t := fun t k => by
      refine P116 t ?_
      show Steps p.tables e below (T115.setTop (mkF m 237 #[.val (.int p1), .val (.int p2), .val (.int p3), .val (.int p4), .val (.int p5), .val (.int p6), .val (.int ww), .val (.int (1 : Int32)), .val (.ref b57), .val (.int (0 : Int32)), .val (.int ((0 : Int32) + (1 : Int32))), .val (.int (((0 : Int32) + (1 : Int32)) + (1 : Int32))), .val (.int ii), .val (.int jj), .val (.int kk), .val (.int ff), .val (.int jj), .val (.int ii), .val (.int ((((0 : Int32) + (1 : Int32)) + (1 : Int32)) + (1 : Int32))), .val (.int (φ108 ((ww * kk) + ff).toInt)), .val (.int (1 : Int32))] [.null])) t
      refine XS.ifnonnullNo X115.here hx rfl (hb hby at_237) rfl ?_
      show Steps p.tables e below (T115.setTop (mkF m 240 #[.val (.int p1), .val (.int p2), .val (.int p3), .val (.int p4), .val (.int p5), .val (.int p6), .val (.int ww), .val (.int (1 : Int32)), .val (.ref b57), .val (.int (0 : Int32)), .val (.int ((0 : Int32) + (1 : Int32))), .val (.int (((0 : Int32) + (1 : Int32)) + (1 : Int32))), .val (.int ii), .val (.int jj), .val (.int kk), .val (.int ff), .val (.int jj), .val (.int ii), .val (.int ((((0 : Int32) + (1 : Int32)) + (1 : Int32)) + (1 : Int32))), .val (.int (φ108 ((ww * kk) + ff).toInt)), .val (.int (1 : Int32))] [])) t
      refine XS.iconst X115.here hx rfl (hb hby at_240) ?_
      show Steps p.tables e below (T115.setTop (mkF m 241 #[.val (.int p1), .val (.int p2), .val (.int p3), .val (.int p4), .val (.int p5), .val (.int p6), .val (.int ww), .val (.int (1 : Int32)), .val (.ref b57), .val (.int (0 : Int32)), .val (.int ((0 : Int32) + (1 : Int32))), .val (.int (((0 : Int32) + (1 : Int32)) + (1 : Int32))), .val (.int ii), .val (.int jj), .val (.int kk), .val (.int ff), .val (.int jj), .val (.int ii), .val (.int ((((0 : Int32) + (1 : Int32)) + (1 : Int32)) + (1 : Int32))), .val (.int (φ108 ((ww * kk) + ff).toInt)), .val (.int (1 : Int32))] [(.int (1 : Int32))])) t
      refine XS.goto X115.here hx rfl (pc0 := 241) (pc' := 245) rfl (hb hby at_241) (by decide) (by decide) ?_
      show Steps p.tables e below (T115.setTop (mkF m 245 #[.val (.int p1), .val (.int p2), .val (.int p3), .val (.int p4), .val (.int p5), .val (.int p6), .val (.int ww), .val (.int (1 : Int32)), .val (.ref b57), .val (.int (0 : Int32)), .val (.int ((0 : Int32) + (1 : Int32))), .val (.int (((0 : Int32) + (1 : Int32)) + (1 : Int32))), .val (.int ii), .val (.int jj), .val (.int kk), .val (.int ff), .val (.int jj), .val (.int ii), .val (.int ((((0 : Int32) + (1 : Int32)) + (1 : Int32)) + (1 : Int32))), .val (.int (φ108 ((ww * kk) + ff).toInt)), .val (.int (1 : Int32))] [(.int (1 : Int32))])) t
      refine XS.istore X115.here hx rfl (hb hby at_245) rfl (l' := #[.val (.int p1), .val (.int p2), .val (.int p3), .val (.int p4), .val (.int p5), .val (.int p6), .val (.int ww), .val (.int (1 : Int32)), .val (.ref b57), .val (.int (0 : Int32)), .val (.int ((0 : Int32) + (1 : Int32))), .val (.int (((0 : Int32) + (1 : Int32)) + (1 : Int32))), .val (.int ii), .val (.int jj), .val (.int kk), .val (.int ff), .val (.int jj), .val (.int ii), .val (.int ((((0 : Int32) + (1 : Int32)) + (1 : Int32)) + (1 : Int32))), .val (.int (φ108 ((ww * kk) + ff).toInt)), .val (.int (1 : Int32))]) rfl ?_
      show Steps p.tables e below (T115.setTop (mkF m 247 #[.val (.int p1), .val (.int p2), .val (.int p3), .val (.int p4), .val (.int p5), .val (.int p6), .val (.int ww), .val (.int (1 : Int32)), .val (.ref b57), .val (.int (0 : Int32)), .val (.int ((0 : Int32) + (1 : Int32))), .val (.int (((0 : Int32) + (1 : Int32)) + (1 : Int32))), .val (.int ii), .val (.int jj), .val (.int kk), .val (.int ff), .val (.int jj), .val (.int ii), .val (.int ((((0 : Int32) + (1 : Int32)) + (1 : Int32)) + (1 : Int32))), .val (.int (φ108 ((ww * kk) + ff).toInt)), .val (.int (1 : Int32))] [])) t
      refine XS.iload X115.here hx rfl (hb hby at_247) rfl ?_
      exact k
    obtain ⟨fs, hr, hrun, hended, hW, hsame⟩ := X115.leave (v := some (.int (1 : Int32))) (fun h => by rw [Bd.returns] at h; cases h)
    refine ⟨_, _, pre0 _ (P117 _ ?_), hrun, hended, _, _, rfl, ?_, ⟨_, rfl⟩, hW, hsame.mono (by decide) (by decide)⟩
    · exact retN X115 hx (t := .boolean) Bd.returns (by simp) (hb hby at_249) hr
    · show Q0 Z p1 p2 p3 p4 p5 p6 wC cC h0 n0 _ T115.heap _
      rw [e115]
      exact ⟨rfl, N115⟩
set_option maxRecDepth 65536 in
set_option maxHeartbeats 40000000 in
theorem comes_1 {Post : Tables → Env → Array Value → State → Outcome → State → Prop} (hpost : ∀ tb e args s v u, (limb_1_1.after args s (.returned v) u = true ∧ limb_1_2.after args s (.returned v) u = true ∧ True) → FrameEnd s (.returned v) u (Jvm.fieldLocs frame_1_writes args s ++ Jvm.arrayLocs frame_1_arrays args s ++ Jvm.staticLocs frame_1_statics s) 16 256 → Post tb e args s (.returned v) u) :
    ArmFor flags0 classFile x code maxLocals ret World_1 tables_1 room_1 Calls_1 rest_1 Pre_1 Post := by
  intro l hfl _ _ p e ha hc hk s m args below hf hA hF happ hP
  obtain ⟨hcalls, hrest, hpre⟩ := hP
  obtain ⟨-, -, -, hnamed, -, -, -, hat⟩ := (Spec.applies_iff hf).mp happ
  obtain ⟨hg, hn⟩ := and_e (Cond.before_iff.mp (show (Jvm.Cond.and given_1 narrow_1).before args s = true from hpre))
  obtain ⟨gc, gr0⟩ := and_e hg
  obtain ⟨ga0, gr1⟩ := and_e gr0
  obtain ⟨ga1, gr2⟩ := and_e gr1
  obtain ⟨ga2, gr3⟩ := and_e gr2
  obtain ⟨ga3, gr4⟩ := and_e gr3
  obtain ⟨ga4, gr5⟩ := and_e gr4
  have ga5 := gr5
  obtain ⟨w0, w1, w2, w3, w4, w5, rfl⟩ : ∃ w0 w1 w2 w3 w4 w5 : Value, args = #[w0, w1, w2, w3, w4, w5] := by
    have hs : args.size = 6 := by simpa [Cond.value, given_1] using gc
    obtain ⟨L⟩ := args
    match L, hs with
    | [w0, w1, w2, w3, w4, w5], _ => exact ⟨w0, w1, w2, w3, w4, w5, rfl⟩
  have hw := fun d (hd : d ∈ tables_1) => atoms_spec (ws := Jvm.Cond.code x code maxLocals ret :: tables_1) hat d (List.mem_cons_of_mem _ hd)
  have hfit : Fit s := fun {y c} hc i hi => by
    obtain ⟨ha, rfl⟩ := Array.getElem?_eq_some_iff.mp hc
    have q := List.all_eq_true.mp ((Array.all_eq_true_iff_forall_mem.mp hF) _ (Array.getElem_mem ha)) i (List.mem_range.mpr hi)
    simpa [Array.getElem?_eq_getElem hi] using q
  obtain ⟨i0, ei0⟩ := is_v ga0
  obtain rfl : w0 = (.int i0) := Option.some.inj ei0
  obtain ⟨i1, ei1⟩ := is_v ga1
  obtain rfl : w1 = (.int i1) := Option.some.inj ei1
  obtain ⟨i2, ei2⟩ := is_v ga2
  obtain rfl : w2 = (.int i2) := Option.some.inj ei2
  obtain ⟨i3, ei3⟩ := is_v ga3
  obtain rfl : w3 = (.int i3) := Option.some.inj ei3
  obtain ⟨i4, ei4⟩ := is_v ga4
  obtain rfl : w4 = (.int i4) := Option.some.inj ei4
  obtain ⟨i5, ei5⟩ := is_v ga5
  obtain rfl : w5 = (.int i5) := Option.some.inj ei5
  obtain ⟨hsets, hown0⟩ := atoms_of _ (rest_1_c_eq ▸ (show rest_1_c.before _ s = true from hrest))
  have evH := eqv_i (Term.int_eval _) (Cond.before_iff.mp (hsets _ (List.mem_of_getElem? (i := 3) rfl)))
  have S_high := Sta.start evH (Or.inl (hsets _ (List.mem_of_getElem? (i := 1) rfl)))
  obtain ⟨wC, evC⟩ := exa_v (Cond.before_iff.mp (hsets _ (List.mem_of_getElem? (i := 5) rfl)))
  have S_cache := Sta.start evC (Or.inr ⟨(hw _ (List.mem_of_getElem? (i := 45) rfl)), (hsets _ (List.mem_of_getElem? (i := 2) rfl))⟩)
  obtain ⟨cC, AC⟩ := Arr.start evC (Cond.before_iff.mp (hsets _ (List.mem_of_getElem? (i := 4) rfl)))
  have eL := eqv_i (Term.int_eval _) (Cond.before_iff.mp (hsets _ (List.mem_of_getElem? (i := 6) rfl)))
  have aAt := AC.fin (Vm.Alike.refl _)
  have hsz : cC.slots.size < 2 ^ 31 := own_len evC aAt eL
  have hzl : cC.slots.size.toInt32 = 256 := Value.int.inj (Option.some.inj ((len_f evC aAt hsz).symm.trans eL))
  have BX : Bxs s wC cC "java/lang/Integer" "I" (256 : Int32) (fun j => .int (j - 128)) := Bxs.start (fun idx => evC) AC hsz hzl (by decide) (Cond.before_iff.mp (hsets _ (List.mem_of_getElem? (i := 7) rfl))) (fun X j hj h => eqv_i (Term.sub_int (idx_at hj) (Term.int_eval _)) h)
  obtain ⟨n, o, h1, h2, h3, _, L, rfl, ⟨rfl, N⟩, hq⟩ := rm0 l s _ hw tables_1 i0 i1 i2 i3 i4 i5 wC cC s.heap s.heap.size (Nat.le_refl _) (Old.start s) S_high S_cache BX p e ha hc hk s m _ below hf ((Spec.applies_iff_loose hf).mp happ).1 ⟨rfl, State.Warmed39.refl s, rfl⟩ trivial
  refine ⟨n, _, h1, h2, h3, hpost _ _ _ _ _ _ ⟨Cond.after_iff.mpr rfl, Cond.after_iff.mpr (eq_i res_at (Term.int_eval (1)) rfl), trivial⟩ ⟨hq.1, hq.2.1, (hq.2.2.sift fun y hy => Or.inr (N y hy)).mono (by decide) (by decide)⟩⟩
theorem main_1_1 : Claimed_1_1 := comes_1 fun _ _ _ _ _ _ h hF => ⟨h.1, hF⟩
theorem main_1_2 : Claimed_1_2 := comes_1 fun _ _ _ _ _ _ h hF => ⟨h.2.1, hF⟩
end Jvm.Pilot.@@N@@
namespace Jvm.Pilot.@@N@@
open Jvm Jvm.ClassFile Sem Op Lib Jvm.Free Jvm.Stand Jvm.Pilot.@@N@@.Jvm.D
/-! MADE BY PROGRAM (witnessworld.py) out of the Statement's table words and the real class files: 18 classes; the members and pool entries that the words name. The judged class is class 1, her method 1. -/
namespace start1
open Jvm.ClassFile
def u (s : String) : CpInfo := .utf8 (stringToUtf16 s)
/-- a pool by its gaps: so many unusable entries, then the entry; so many at the end -/
def gap : Nat → List CpInfo → List CpInfo
  | 0, r => r
  | n + 1, r => .unusable :: gap n r
def poolList (es : List (Nat × CpInfo)) (last : Nat) : List CpInfo := es.foldr (fun e r => gap e.1 (e.2 :: r)) (gap last [])
def pool (es : List (Nat × CpInfo)) (last : Nat) : Array CpInfo := ⟨poolList es last⟩
def fileOf (pool : Array CpInfo) (this : Nat) (attrs : Array Attribute := #[]) (ms : Array MethodInfo := #[]) (fl : Nat := 33) (sup : Nat := 0) (ifs : Array Nat := #[]) (fds : Array FieldInfo := #[]) : ClassFile where
  minorVersion := 0
  majorVersion := 65
  constantPool := pool
  accessFlags := fl
  thisClass := this
  superClass := sup
  interfaces := ifs
  fields := fds
  methods := ms
  attributes := attrs
def plain (name : String) (sup : Option ClassId) : Class where
  name := name
  kind := .ordinary
  loader := none
  accessFlags := 33
  super := sup
  interfaces := #[]
  cf := none
  fields := #[]
  methods := #[]
  instanceTypes := #[]
  staticTypes := #[]
  resolved := #[]
  callSites := []
  init := .initialized
  statics := none
  mirror := none

def pool0 : Array CpInfo := pool [(5, u "<init>"), (0, u "()V"), (1, .class_ 10), (1, u "java/lang/Object")] 113

def k0c0 : Code := { maxStack := 0, maxLocals := 1, code := object_method_1_code, exceptionTable := #[], attributes := #[] }
def k0m0 : Method := { name := "<init>", desc := "()V", sig := { parameters := [], returnType := none }, accessFlags := 1, code := some k0c0 }
/-- java/lang/Object -/
def k0 : Class := { plain "java/lang/Object" none with
  accessFlags := 33
  interfaces := #[]
  cf := some (fileOf pool0 8 #[] #[{ accessFlags := 1, nameIndex := 5, descriptorIndex := 6, attributes := #[] }] 33 0 #[] #[])
  fields := #[]
  methods := #[k0m0]
  instanceTypes := #[]
  staticTypes := #[]
  resolved := Array.replicate 124 none
  statics := none }

def pool1 : Array CpInfo := pool [(2, .class_ 4), (1, u "java/lang/Object"), (0, u "<init>"), (0, u "()V"), (0, .class_ 8), (0, u "com/example/weftwork/weftwork/Rows"), (0, .methodref 7 10), (0, .nameAndType 5 11), (0, u "(IZ)V"), (0, .methodref 7 13), (0, .nameAndType 14 15), (0, u "make"), (0, u "()I"), (0, .integer 2147483647), (0, .methodref 7 18), (0, .nameAndType 19 20), (0, u "set"), (0, u "(III)V"), (0, .methodref 22 23), (0, .class_ 24), (0, .nameAndType 25 26), (0, u "java/lang/Integer"), (0, u "valueOf"), (0, u "(I)Ljava/lang/Integer;"), (0, .methodref 7 28), (0, .nameAndType 29 30), (0, u "setObject"), (0, u "(ILjava/lang/Object;)V"), (0, .methodref 7 32), (0, .nameAndType 33 34), (0, u "free"), (0, u "(I)V"), (0, .methodref 7 36), (0, .nameAndType 37 38), (0, u "get"), (0, u "(II)I"), (0, .methodref 7 40), (0, .nameAndType 41 42), (0, u "object"), (0, u "(I)Ljava/lang/Object;"), (0, .class_ 44), (0, u "com/example/weftwork/weftwork/RowsFreePinLaw"), (2, u "law"), (0, u "(IIIIII)Z")] 3

def k1m0 : Method := { name := "<init>", desc := "()V", sig := { parameters := [], returnType := none }, accessFlags := 1, code := none }
def k1c1 : Code := { maxStack := 4, maxLocals := 21, code := code, exceptionTable := #[], attributes := #[] }
def k1m1 : Method := { name := "law", desc := "(IIIIII)Z", sig := { parameters := [.int, .int, .int, .int, .int, .int], returnType := some .boolean }, accessFlags := 9, code := some k1c1 }
/-- com/example/weftwork/weftwork/RowsFreePinLaw -/
def k1 : Class := { plain "com/example/weftwork/weftwork/RowsFreePinLaw" (some 0) with
  accessFlags := 49
  interfaces := #[]
  cf := some (fileOf pool1 43 #[] #[{ accessFlags := 1, nameIndex := 5, descriptorIndex := 6, attributes := #[] }, { accessFlags := 9, nameIndex := 47, descriptorIndex := 48, attributes := #[] }] 49 2 #[] #[])
  fields := #[]
  methods := #[k1m0, k1m1]
  instanceTypes := #[]
  staticTypes := #[]
  resolved := Array.replicate 52 none
  statics := none }

def pool2 : Array CpInfo := pool [(1, .methodref 2 3), (0, .class_ 4), (0, .nameAndType 5 6), (0, u "java/lang/Object"), (0, u "<init>"), (0, u "()V"), (0, .class_ 8), (0, u "com/example/weftwork/weftwork/Rows"), (0, .fieldref 7 10), (0, .nameAndType 11 12), (0, u "free"), (0, u "I"), (0, .fieldref 7 14), (0, .nameAndType 15 12), (0, u "width"), (0, .fieldref 7 17), (0, .nameAndType 18 19), (0, u "fields"), (0, u "[I"), (0, .fieldref 7 21), (0, .nameAndType 22 23), (0, u "objects"), (0, u "[Ljava/lang/Object;"), (0, .fieldref 7 25), (0, .nameAndType 26 12), (0, u "made"), (4, .methodref 32 33), (0, .class_ 34), (0, .nameAndType 35 36), (0, u "java/util/Arrays"), (0, u "fill"), (0, u "([IIII)V"), (17, u "get"), (0, u "(II)I"), (2, u "set"), (0, u "(III)V"), (0, u "NONE"), (2, u "FIRST_ROWS"), (1, u "(IZ)V"), (4, u "make"), (0, u "()I"), (0, u "(I)V"), (3, u "object"), (0, u "(I)Ljava/lang/Object;"), (0, u "setObject"), (0, u "(ILjava/lang/Object;)V")] 2

def k2c0 : Code := { maxStack := 3, maxLocals := 3, code := prog_69_method_1_code, exceptionTable := #[], attributes := #[] }
def k2m0 : Method := { name := "<init>", desc := "(IZ)V", sig := { parameters := [.int, .boolean], returnType := none }, accessFlags := 0, code := some k2c0 }
def k2c1 : Code := { maxStack := 5, maxLocals := 4, code := prog_69_method_2_code, exceptionTable := #[], attributes := #[] }
def k2m1 : Method := { name := "make", desc := "()I", sig := { parameters := [], returnType := some .int }, accessFlags := 0, code := some k2c1 }
def k2c2 : Code := { maxStack := 3, maxLocals := 2, code := prog_69_method_4_code, exceptionTable := #[], attributes := #[] }
def k2m2 : Method := { name := "free", desc := "(I)V", sig := { parameters := [.int], returnType := none }, accessFlags := 0, code := some k2c2 }
def k2c3 : Code := { maxStack := 3, maxLocals := 3, code := prog_69_method_7_code, exceptionTable := #[], attributes := #[] }
def k2m3 : Method := { name := "get", desc := "(II)I", sig := { parameters := [.int, .int], returnType := some .int }, accessFlags := 0, code := some k2c3 }
def k2c4 : Code := { maxStack := 3, maxLocals := 4, code := prog_69_method_8_code, exceptionTable := #[], attributes := #[] }
def k2m4 : Method := { name := "set", desc := "(III)V", sig := { parameters := [.int, .int, .int], returnType := none }, accessFlags := 0, code := some k2c4 }
def k2c5 : Code := { maxStack := 2, maxLocals := 2, code := prog_69_method_9_code, exceptionTable := #[], attributes := #[] }
def k2m5 : Method := { name := "object", desc := "(I)Ljava/lang/Object;", sig := { parameters := [.int], returnType := some (.object "java/lang/Object") }, accessFlags := 0, code := some k2c5 }
def k2c6 : Code := { maxStack := 3, maxLocals := 3, code := prog_69_method_10_code, exceptionTable := #[], attributes := #[] }
def k2m6 : Method := { name := "setObject", desc := "(ILjava/lang/Object;)V", sig := { parameters := [.int, (.object "java/lang/Object")], returnType := none }, accessFlags := 0, code := some k2c6 }
/-- com/example/weftwork/weftwork/Rows -/
def k2 : Class := { plain "com/example/weftwork/weftwork/Rows" (some 0) with
  accessFlags := 48
  interfaces := #[]
  cf := some (fileOf pool2 7 #[] #[{ accessFlags := 0, nameIndex := 5, descriptorIndex := 65, attributes := #[] }, { accessFlags := 0, nameIndex := 70, descriptorIndex := 71, attributes := #[] }, { accessFlags := 0, nameIndex := 11, descriptorIndex := 72, attributes := #[] }, { accessFlags := 0, nameIndex := 54, descriptorIndex := 55, attributes := #[] }, { accessFlags := 0, nameIndex := 58, descriptorIndex := 59, attributes := #[] }, { accessFlags := 0, nameIndex := 76, descriptorIndex := 77, attributes := #[] }, { accessFlags := 0, nameIndex := 78, descriptorIndex := 79, attributes := #[] }] 48 2 #[] #[{ accessFlags := 24, nameIndex := 60, descriptorIndex := 12, attributes := #[] }, { accessFlags := 26, nameIndex := 63, descriptorIndex := 12, attributes := #[] }, { accessFlags := 18, nameIndex := 15, descriptorIndex := 12, attributes := #[] }, { accessFlags := 2, nameIndex := 18, descriptorIndex := 19, attributes := #[] }, { accessFlags := 2, nameIndex := 22, descriptorIndex := 23, attributes := #[] }, { accessFlags := 2, nameIndex := 26, descriptorIndex := 12, attributes := #[] }, { accessFlags := 2, nameIndex := 11, descriptorIndex := 12, attributes := #[] }])
  fields := #[{ name := "NONE", type := .int, accessFlags := 24, slot := 0, constantValue := 0 }, { name := "FIRST_ROWS", type := .int, accessFlags := 26, slot := 1, constantValue := 0 }, { name := "width", type := .int, accessFlags := 18, slot := 0, constantValue := 0 }, { name := "fields", type := (.array .int), accessFlags := 2, slot := 1, constantValue := 0 }, { name := "objects", type := (.array (.object "java/lang/Object")), accessFlags := 2, slot := 2, constantValue := 0 }, { name := "made", type := .int, accessFlags := 2, slot := 3, constantValue := 0 }, { name := "free", type := .int, accessFlags := 2, slot := 4, constantValue := 0 }]
  methods := #[k2m0, k2m1, k2m2, k2m3, k2m4, k2m5, k2m6]
  instanceTypes := #[.int, (.array .int), (.array (.object "java/lang/Object")), .int, .int]
  staticTypes := #[.int, .int]
  resolved := Array.replicate 82 none
  statics := none }

def pool3 : Array CpInfo := pool [(2, .class_ 4), (1, u "java/lang/Object"), (0, u "<init>"), (0, u "()V"), (5, u "([IIII)V"), (0, .methodref 14 15), (0, .class_ 16), (0, .nameAndType 17 18), (0, u "java/util/Arrays"), (0, u "rangeCheck"), (0, u "(III)V"), (55, .class_ 76), (1, u "java/util/Arrays$NaturalOrder"), (36, .class_ 115), (1, u "java/util/Arrays$LegacyMergeSort"), (1, u "Z"), (257, .class_ 376), (0, u "java/util/Arrays$ArrayList"), (68, u "$assertionsDisabled"), (269, u "MIN_ARRAY_SORT_GRAN"), (0, u "I"), (2, u "INSERTIONSORT_THRESHOLD"), (120, u "fill"), (134, .class_ 976), (0, u "java/util/Arrays$ArrayItr")] 52

def k3m0 : Method := { name := "<init>", desc := "()V", sig := { parameters := [], returnType := none }, accessFlags := 2, code := none }
def k3c1 : Code := { maxStack := 4, maxLocals := 3, code := jdk_65_method_30_code, exceptionTable := #[], attributes := #[] }
def k3m1 : Method := { name := "rangeCheck", desc := "(III)V", sig := { parameters := [.int, .int, .int], returnType := none }, accessFlags := 8, code := some k3c1 }
def k3c2 : Code := { maxStack := 3, maxLocals := 5, code := jdk_65_method_104_code, exceptionTable := #[], attributes := #[] }
def k3m2 : Method := { name := "fill", desc := "([IIII)V", sig := { parameters := [(.array .int), .int, .int, .int], returnType := none }, accessFlags := 9, code := some k3c2 }
/-- java/util/Arrays -/
def k3 : Class := { plain "java/util/Arrays" (some 0) with
  accessFlags := 49
  interfaces := #[]
  cf := some (fileOf pool3 14 #[.nestMembers #[975, 375, 113, 74]] #[{ accessFlags := 2, nameIndex := 5, descriptorIndex := 6, attributes := #[] }, { accessFlags := 8, nameIndex := 17, descriptorIndex := 18, attributes := #[] }, { accessFlags := 9, nameIndex := 840, descriptorIndex := 12, attributes := #[] }] 49 2 #[] #[{ accessFlags := 26, nameIndex := 715, descriptorIndex := 716, attributes := #[] }, { accessFlags := 26, nameIndex := 719, descriptorIndex := 716, attributes := #[] }, { accessFlags := 4120, nameIndex := 445, descriptorIndex := 117, attributes := #[] }])
  fields := #[{ name := "MIN_ARRAY_SORT_GRAN", type := .int, accessFlags := 26, slot := 0, constantValue := 0 }, { name := "INSERTIONSORT_THRESHOLD", type := .int, accessFlags := 26, slot := 1, constantValue := 0 }, { name := "$assertionsDisabled", type := .boolean, accessFlags := 4120, slot := 2, constantValue := 0 }]
  methods := #[k3m0, k3m1, k3m2]
  instanceTypes := #[]
  staticTypes := #[.int, .int, .boolean]
  resolved := Array.replicate 1029 none
  statics := none }

def pool4 : Array CpInfo := pool [(1, .class_ 2), (0, u "java/io/Serializable"), (0, .class_ 4), (0, u "java/lang/Object")] 2

/-- java/io/Serializable -/
def k4 : Class := { plain "java/io/Serializable" (some 0) with
  accessFlags := 1537
  interfaces := #[]
  cf := some (fileOf pool4 1 #[] #[] 1537 3 #[] #[])
  fields := #[]
  methods := #[]
  instanceTypes := #[]
  staticTypes := #[]
  resolved := Array.replicate 7 none
  statics := none }

def pool5 : Array CpInfo := pool [(1, .methodref 2 3), (0, .class_ 4), (0, .nameAndType 5 6), (0, u "java/lang/Object"), (0, u "<init>"), (0, u "()V"), (1, .class_ 10), (1, u "java/lang/Number"), (2, .class_ 14), (0, u "java/io/Serializable"), (0, u "serialVersionUID"), (0, u "J")] 20

def k5c0 : Code := { maxStack := 1, maxLocals := 1, code := jdk_18_method_1_code, exceptionTable := #[], attributes := #[] }
def k5m0 : Method := { name := "<init>", desc := "()V", sig := { parameters := [], returnType := none }, accessFlags := 1, code := some k5c0 }
/-- java/lang/Number -/
def k5 : Class := { plain "java/lang/Number" (some 0) with
  accessFlags := 1057
  interfaces := #[4]
  cf := some (fileOf pool5 8 #[] #[{ accessFlags := 1, nameIndex := 5, descriptorIndex := 6, attributes := #[] }] 1057 2 #[13] #[{ accessFlags := 26, nameIndex := 15, descriptorIndex := 16, attributes := #[] }])
  fields := #[{ name := "serialVersionUID", type := .long, accessFlags := 26, slot := 0, constantValue := 0 }]
  methods := #[k5m0]
  instanceTypes := #[]
  staticTypes := #[.long]
  resolved := Array.replicate 37 none
  statics := none }

def pool6 : Array CpInfo := pool [(1, .class_ 2), (0, u "java/lang/Comparable"), (0, .class_ 4), (0, u "java/lang/Object")] 7

/-- java/lang/Comparable -/
def k6 : Class := { plain "java/lang/Comparable" (some 0) with
  accessFlags := 1537
  interfaces := #[]
  cf := some (fileOf pool6 1 #[] #[] 1537 3 #[] #[])
  fields := #[]
  methods := #[]
  instanceTypes := #[]
  staticTypes := #[]
  resolved := Array.replicate 12 none
  statics := none }

def pool7 : Array CpInfo := pool [(1, .class_ 2), (0, u "java/lang/constant/Constable"), (0, .class_ 4), (0, u "java/lang/Object")] 6

/-- java/lang/constant/Constable -/
def k7 : Class := { plain "java/lang/constant/Constable" (some 0) with
  accessFlags := 1537
  interfaces := #[]
  cf := some (fileOf pool7 1 #[] #[] 1537 3 #[] #[])
  fields := #[]
  methods := #[]
  instanceTypes := #[]
  staticTypes := #[]
  resolved := Array.replicate 11 none
  statics := none }

def pool8 : Array CpInfo := pool [(1, .class_ 2), (0, u "java/lang/constant/ConstantDesc"), (0, .class_ 4), (0, u "java/lang/Object")] 32

/-- java/lang/constant/ConstantDesc -/
def k8 : Class := { plain "java/lang/constant/ConstantDesc" (some 0) with
  accessFlags := 1537
  interfaces := #[]
  cf := some (fileOf pool8 1 #[] #[] 1537 3 #[] #[])
  fields := #[]
  methods := #[]
  instanceTypes := #[]
  staticTypes := #[]
  resolved := Array.replicate 37 none
  statics := none }

def pool9 : Array CpInfo := pool [(1, .class_ 2), (0, u "java/lang/Integer"), (16, u "digits"), (0, u "[C"), (46, u "<init>"), (17, u "DigitOnes"), (0, u "[B"), (2, u "DigitTens"), (10, .nameAndType 67 101), (0, u "()V"), (85, u "valueOf"), (0, u "(I)Ljava/lang/Integer;"), (0, .class_ 190), (0, u "java/lang/Integer$IntegerCache"), (0, .fieldref 189 192), (0, .nameAndType 193 194), (0, u "high"), (0, u "I"), (0, .fieldref 189 196), (0, .nameAndType 197 198), (0, u "cache"), (0, u "[Ljava/lang/Integer;"), (0, .methodref 1 200), (0, .nameAndType 67 201), (0, u "(I)V"), (0, .methodref 203 100), (0, .class_ 204), (0, u "java/lang/Number"), (0, .fieldref 1 206), (0, .nameAndType 207 194), (0, u "value"), (94, u "TYPE"), (0, u "Ljava/lang/Class;"), (0, .class_ 305), (0, u "java/lang/Comparable"), (0, .class_ 307), (0, u "java/lang/constant/Constable"), (0, .class_ 309), (0, u "java/lang/constant/ConstantDesc"), (0, u "MIN_VALUE"), (1, u "MAX_VALUE"), (3, u "SIZE"), (1, u "BYTES"), (1, u "serialVersionUID"), (0, u "J")] 131

def k9c0 : Code := { maxStack := 3, maxLocals := 1, code := jdk_33_method_22_code, exceptionTable := #[], attributes := #[] }
def k9m0 : Method := { name := "valueOf", desc := "(I)Ljava/lang/Integer;", sig := { parameters := [.int], returnType := some (.object "java/lang/Integer") }, accessFlags := 9, code := some k9c0 }
def k9c1 : Code := { maxStack := 2, maxLocals := 2, code := jdk_33_method_23_code, exceptionTable := #[], attributes := #[] }
def k9m1 : Method := { name := "<init>", desc := "(I)V", sig := { parameters := [.int], returnType := none }, accessFlags := 1, code := some k9c1 }
/-- java/lang/Integer -/
def k9 : Class := { plain "java/lang/Integer" (some 5) with
  accessFlags := 49
  interfaces := #[6, 7, 8]
  cf := some (fileOf pool9 1 #[.nestMembers #[189]] #[{ accessFlags := 9, nameIndex := 187, descriptorIndex := 188, attributes := #[] }, { accessFlags := 1, nameIndex := 67, descriptorIndex := 201, attributes := #[] }] 49 203 #[304, 306, 308] #[{ accessFlags := 25, nameIndex := 310, descriptorIndex := 194, attributes := #[] }, { accessFlags := 25, nameIndex := 312, descriptorIndex := 194, attributes := #[] }, { accessFlags := 25, nameIndex := 302, descriptorIndex := 303, attributes := #[] }, { accessFlags := 24, nameIndex := 19, descriptorIndex := 20, attributes := #[] }, { accessFlags := 24, nameIndex := 89, descriptorIndex := 86, attributes := #[] }, { accessFlags := 24, nameIndex := 85, descriptorIndex := 86, attributes := #[] }, { accessFlags := 18, nameIndex := 207, descriptorIndex := 194, attributes := #[] }, { accessFlags := 25, nameIndex := 316, descriptorIndex := 194, attributes := #[] }, { accessFlags := 25, nameIndex := 318, descriptorIndex := 194, attributes := #[] }, { accessFlags := 26, nameIndex := 320, descriptorIndex := 321, attributes := #[] }])
  fields := #[{ name := "MIN_VALUE", type := .int, accessFlags := 25, slot := 0, constantValue := 0 }, { name := "MAX_VALUE", type := .int, accessFlags := 25, slot := 1, constantValue := 0 }, { name := "TYPE", type := (.object "java/lang/Class"), accessFlags := 25, slot := 2, constantValue := 0 }, { name := "digits", type := (.array .char), accessFlags := 24, slot := 3, constantValue := 0 }, { name := "DigitTens", type := (.array .byte), accessFlags := 24, slot := 4, constantValue := 0 }, { name := "DigitOnes", type := (.array .byte), accessFlags := 24, slot := 5, constantValue := 0 }, { name := "value", type := .int, accessFlags := 18, slot := 0, constantValue := 0 }, { name := "SIZE", type := .int, accessFlags := 25, slot := 6, constantValue := 0 }, { name := "BYTES", type := .int, accessFlags := 25, slot := 7, constantValue := 0 }, { name := "serialVersionUID", type := .long, accessFlags := 26, slot := 8, constantValue := 0 }]
  methods := #[k9m0, k9m1]
  instanceTypes := #[.int]
  staticTypes := #[.int, .int, (.object "java/lang/Class"), (.array .char), (.array .byte), (.array .byte), .int, .int, .long]
  resolved := Array.replicate 453 none
  statics := none }

def pool10 : Array CpInfo := pool [(2, .class_ 4), (1, u "java/lang/Object"), (0, u "<init>"), (0, u "()V"), (0, .class_ 8), (0, u "java/lang/Integer"), (7, .class_ 18), (1, u "java/lang/Integer$IntegerCache"), (0, u "$assertionsDisabled"), (0, u "Z"), (26, u "high"), (0, u "I"), (8, u "archivedCache"), (0, u "[Ljava/lang/Integer;"), (12, u "cache"), (0, u "low")] 27

def k10m0 : Method := { name := "<init>", desc := "()V", sig := { parameters := [], returnType := none }, accessFlags := 2, code := none }
/-- java/lang/Integer$IntegerCache -/
def k10 : Class := { plain "java/lang/Integer$IntegerCache" (some 0) with
  accessFlags := 48
  interfaces := #[]
  cf := some (fileOf pool10 16 #[.nestHost 7] #[{ accessFlags := 2, nameIndex := 5, descriptorIndex := 6, attributes := #[] }] 48 2 #[] #[{ accessFlags := 24, nameIndex := 72, descriptorIndex := 48, attributes := #[] }, { accessFlags := 24, nameIndex := 47, descriptorIndex := 48, attributes := #[] }, { accessFlags := 24, nameIndex := 71, descriptorIndex := 58, attributes := #[] }, { accessFlags := 8, nameIndex := 57, descriptorIndex := 58, attributes := #[] }, { accessFlags := 4120, nameIndex := 19, descriptorIndex := 20, attributes := #[] }])
  fields := #[{ name := "low", type := .int, accessFlags := 24, slot := 0, constantValue := 0 }, { name := "high", type := .int, accessFlags := 24, slot := 1, constantValue := 0 }, { name := "cache", type := (.array (.object "java/lang/Integer")), accessFlags := 24, slot := 2, constantValue := 0 }, { name := "archivedCache", type := (.array (.object "java/lang/Integer")), accessFlags := 8, slot := 3, constantValue := 0 }, { name := "$assertionsDisabled", type := .boolean, accessFlags := 4120, slot := 4, constantValue := 0 }]
  methods := #[k10m0]
  instanceTypes := #[]
  staticTypes := #[.int, .int, (.array (.object "java/lang/Integer")), (.array (.object "java/lang/Integer")), .boolean]
  resolved := Array.replicate 100 none
  statics := some 0 }

def pool11 : Array CpInfo := pool [(1, u "java/lang/Cloneable"), (0, .class_ 1), (0, u "java/lang/Object"), (0, .class_ 3)] 3

/-- java/lang/Cloneable -/
def k11 : Class := { plain "java/lang/Cloneable" (some 0) with
  accessFlags := 1537
  interfaces := #[]
  cf := some (fileOf pool11 2 #[] #[] 1537 4 #[] #[])
  fields := #[]
  methods := #[]
  instanceTypes := #[]
  staticTypes := #[]
  resolved := Array.replicate 8 none
  statics := none }

/-- the primitive byte -/
def k12 : Class := { plain "byte" none with kind := .primitive 'B', accessFlags := 0x411 }
/-- [B -/
def k13 : Class := { plain "[B" (some 0) with kind := .array 12 .byte, interfaces := #[11, 4], accessFlags := 1041 }

/-- the primitive int -/
def k14 : Class := { plain "int" none with kind := .primitive 'I', accessFlags := 0x411 }
/-- [I -/
def k15 : Class := { plain "[I" (some 0) with kind := .array 14 .int, interfaces := #[11, 4], accessFlags := 1041 }

/-- [Ljava/lang/Integer; -/
def k16 : Class := { plain "[Ljava/lang/Integer;" (some 0) with kind := .array 9 (.object "java/lang/Integer"), interfaces := #[11, 4], accessFlags := 1041 }

/-- [Ljava/lang/Object; -/
def k17 : Class := { plain "[Ljava/lang/Object;" (some 0) with kind := .array 0 (.object "java/lang/Object"), interfaces := #[11, 4], accessFlags := 1041 }

def heap : Heap := #[{ cls := 10, slots := #[.int 0, .int 127, .ref 1, .null, .int 0], vm := .statics 10 },
  { cls := 16, slots := #[.ref 2, .ref 3, .ref 4, .ref 5, .ref 6, .ref 7, .ref 8, .ref 9, .ref 10, .ref 11, .ref 12, .ref 13, .ref 14, .ref 15, .ref 16, .ref 17, .ref 18, .ref 19, .ref 20, .ref 21, .ref 22, .ref 23, .ref 24, .ref 25, .ref 26, .ref 27, .ref 28, .ref 29, .ref 30, .ref 31, .ref 32, .ref 33, .ref 34, .ref 35, .ref 36, .ref 37, .ref 38, .ref 39, .ref 40, .ref 41, .ref 42, .ref 43, .ref 44, .ref 45, .ref 46, .ref 47, .ref 48, .ref 49, .ref 50, .ref 51, .ref 52, .ref 53, .ref 54, .ref 55, .ref 56, .ref 57, .ref 58, .ref 59, .ref 60, .ref 61, .ref 62, .ref 63, .ref 64, .ref 65, .ref 66, .ref 67, .ref 68, .ref 69, .ref 70, .ref 71, .ref 72, .ref 73, .ref 74, .ref 75, .ref 76, .ref 77, .ref 78, .ref 79, .ref 80, .ref 81, .ref 82, .ref 83, .ref 84, .ref 85, .ref 86, .ref 87, .ref 88, .ref 89, .ref 90, .ref 91, .ref 92, .ref 93, .ref 94, .ref 95, .ref 96, .ref 97, .ref 98, .ref 99, .ref 100, .ref 101, .ref 102, .ref 103, .ref 104, .ref 105, .ref 106, .ref 107, .ref 108, .ref 109, .ref 110, .ref 111, .ref 112, .ref 113, .ref 114, .ref 115, .ref 116, .ref 117, .ref 118, .ref 119, .ref 120, .ref 121, .ref 122, .ref 123, .ref 124, .ref 125, .ref 126, .ref 127, .ref 128, .ref 129, .ref 130, .ref 131, .ref 132, .ref 133, .ref 134, .ref 135, .ref 136, .ref 137, .ref 138, .ref 139, .ref 140, .ref 141, .ref 142, .ref 143, .ref 144, .ref 145, .ref 146, .ref 147, .ref 148, .ref 149, .ref 150, .ref 151, .ref 152, .ref 153, .ref 154, .ref 155, .ref 156, .ref 157, .ref 158, .ref 159, .ref 160, .ref 161, .ref 162, .ref 163, .ref 164, .ref 165, .ref 166, .ref 167, .ref 168, .ref 169, .ref 170, .ref 171, .ref 172, .ref 173, .ref 174, .ref 175, .ref 176, .ref 177, .ref 178, .ref 179, .ref 180, .ref 181, .ref 182, .ref 183, .ref 184, .ref 185, .ref 186, .ref 187, .ref 188, .ref 189, .ref 190, .ref 191, .ref 192, .ref 193, .ref 194, .ref 195, .ref 196, .ref 197, .ref 198, .ref 199, .ref 200, .ref 201, .ref 202, .ref 203, .ref 204, .ref 205, .ref 206, .ref 207, .ref 208, .ref 209, .ref 210, .ref 211, .ref 212, .ref 213, .ref 214, .ref 215, .ref 216, .ref 217, .ref 218, .ref 219, .ref 220, .ref 221, .ref 222, .ref 223, .ref 224, .ref 225, .ref 226, .ref 227, .ref 228, .ref 229, .ref 230, .ref 231, .ref 232, .ref 233, .ref 234, .ref 235, .ref 236, .ref 237, .ref 238, .ref 239, .ref 240, .ref 241, .ref 242, .ref 243, .ref 244, .ref 245, .ref 246, .ref 247, .ref 248, .ref 249, .ref 250, .ref 251, .ref 252, .ref 253, .ref 254, .ref 255, .ref 256, .ref 257], vm := .none },
  { cls := 9, slots := #[.int (-128)], vm := .none },
  { cls := 9, slots := #[.int (-127)], vm := .none },
  { cls := 9, slots := #[.int (-126)], vm := .none },
  { cls := 9, slots := #[.int (-125)], vm := .none },
  { cls := 9, slots := #[.int (-124)], vm := .none },
  { cls := 9, slots := #[.int (-123)], vm := .none },
  { cls := 9, slots := #[.int (-122)], vm := .none },
  { cls := 9, slots := #[.int (-121)], vm := .none },
  { cls := 9, slots := #[.int (-120)], vm := .none },
  { cls := 9, slots := #[.int (-119)], vm := .none },
  { cls := 9, slots := #[.int (-118)], vm := .none },
  { cls := 9, slots := #[.int (-117)], vm := .none },
  { cls := 9, slots := #[.int (-116)], vm := .none },
  { cls := 9, slots := #[.int (-115)], vm := .none },
  { cls := 9, slots := #[.int (-114)], vm := .none },
  { cls := 9, slots := #[.int (-113)], vm := .none },
  { cls := 9, slots := #[.int (-112)], vm := .none },
  { cls := 9, slots := #[.int (-111)], vm := .none },
  { cls := 9, slots := #[.int (-110)], vm := .none },
  { cls := 9, slots := #[.int (-109)], vm := .none },
  { cls := 9, slots := #[.int (-108)], vm := .none },
  { cls := 9, slots := #[.int (-107)], vm := .none },
  { cls := 9, slots := #[.int (-106)], vm := .none },
  { cls := 9, slots := #[.int (-105)], vm := .none },
  { cls := 9, slots := #[.int (-104)], vm := .none },
  { cls := 9, slots := #[.int (-103)], vm := .none },
  { cls := 9, slots := #[.int (-102)], vm := .none },
  { cls := 9, slots := #[.int (-101)], vm := .none },
  { cls := 9, slots := #[.int (-100)], vm := .none },
  { cls := 9, slots := #[.int (-99)], vm := .none },
  { cls := 9, slots := #[.int (-98)], vm := .none },
  { cls := 9, slots := #[.int (-97)], vm := .none },
  { cls := 9, slots := #[.int (-96)], vm := .none },
  { cls := 9, slots := #[.int (-95)], vm := .none },
  { cls := 9, slots := #[.int (-94)], vm := .none },
  { cls := 9, slots := #[.int (-93)], vm := .none },
  { cls := 9, slots := #[.int (-92)], vm := .none },
  { cls := 9, slots := #[.int (-91)], vm := .none },
  { cls := 9, slots := #[.int (-90)], vm := .none },
  { cls := 9, slots := #[.int (-89)], vm := .none },
  { cls := 9, slots := #[.int (-88)], vm := .none },
  { cls := 9, slots := #[.int (-87)], vm := .none },
  { cls := 9, slots := #[.int (-86)], vm := .none },
  { cls := 9, slots := #[.int (-85)], vm := .none },
  { cls := 9, slots := #[.int (-84)], vm := .none },
  { cls := 9, slots := #[.int (-83)], vm := .none },
  { cls := 9, slots := #[.int (-82)], vm := .none },
  { cls := 9, slots := #[.int (-81)], vm := .none },
  { cls := 9, slots := #[.int (-80)], vm := .none },
  { cls := 9, slots := #[.int (-79)], vm := .none },
  { cls := 9, slots := #[.int (-78)], vm := .none },
  { cls := 9, slots := #[.int (-77)], vm := .none },
  { cls := 9, slots := #[.int (-76)], vm := .none },
  { cls := 9, slots := #[.int (-75)], vm := .none },
  { cls := 9, slots := #[.int (-74)], vm := .none },
  { cls := 9, slots := #[.int (-73)], vm := .none },
  { cls := 9, slots := #[.int (-72)], vm := .none },
  { cls := 9, slots := #[.int (-71)], vm := .none },
  { cls := 9, slots := #[.int (-70)], vm := .none },
  { cls := 9, slots := #[.int (-69)], vm := .none },
  { cls := 9, slots := #[.int (-68)], vm := .none },
  { cls := 9, slots := #[.int (-67)], vm := .none },
  { cls := 9, slots := #[.int (-66)], vm := .none },
  { cls := 9, slots := #[.int (-65)], vm := .none },
  { cls := 9, slots := #[.int (-64)], vm := .none },
  { cls := 9, slots := #[.int (-63)], vm := .none },
  { cls := 9, slots := #[.int (-62)], vm := .none },
  { cls := 9, slots := #[.int (-61)], vm := .none },
  { cls := 9, slots := #[.int (-60)], vm := .none },
  { cls := 9, slots := #[.int (-59)], vm := .none },
  { cls := 9, slots := #[.int (-58)], vm := .none },
  { cls := 9, slots := #[.int (-57)], vm := .none },
  { cls := 9, slots := #[.int (-56)], vm := .none },
  { cls := 9, slots := #[.int (-55)], vm := .none },
  { cls := 9, slots := #[.int (-54)], vm := .none },
  { cls := 9, slots := #[.int (-53)], vm := .none },
  { cls := 9, slots := #[.int (-52)], vm := .none },
  { cls := 9, slots := #[.int (-51)], vm := .none },
  { cls := 9, slots := #[.int (-50)], vm := .none },
  { cls := 9, slots := #[.int (-49)], vm := .none },
  { cls := 9, slots := #[.int (-48)], vm := .none },
  { cls := 9, slots := #[.int (-47)], vm := .none },
  { cls := 9, slots := #[.int (-46)], vm := .none },
  { cls := 9, slots := #[.int (-45)], vm := .none },
  { cls := 9, slots := #[.int (-44)], vm := .none },
  { cls := 9, slots := #[.int (-43)], vm := .none },
  { cls := 9, slots := #[.int (-42)], vm := .none },
  { cls := 9, slots := #[.int (-41)], vm := .none },
  { cls := 9, slots := #[.int (-40)], vm := .none },
  { cls := 9, slots := #[.int (-39)], vm := .none },
  { cls := 9, slots := #[.int (-38)], vm := .none },
  { cls := 9, slots := #[.int (-37)], vm := .none },
  { cls := 9, slots := #[.int (-36)], vm := .none },
  { cls := 9, slots := #[.int (-35)], vm := .none },
  { cls := 9, slots := #[.int (-34)], vm := .none },
  { cls := 9, slots := #[.int (-33)], vm := .none },
  { cls := 9, slots := #[.int (-32)], vm := .none },
  { cls := 9, slots := #[.int (-31)], vm := .none },
  { cls := 9, slots := #[.int (-30)], vm := .none },
  { cls := 9, slots := #[.int (-29)], vm := .none },
  { cls := 9, slots := #[.int (-28)], vm := .none },
  { cls := 9, slots := #[.int (-27)], vm := .none },
  { cls := 9, slots := #[.int (-26)], vm := .none },
  { cls := 9, slots := #[.int (-25)], vm := .none },
  { cls := 9, slots := #[.int (-24)], vm := .none },
  { cls := 9, slots := #[.int (-23)], vm := .none },
  { cls := 9, slots := #[.int (-22)], vm := .none },
  { cls := 9, slots := #[.int (-21)], vm := .none },
  { cls := 9, slots := #[.int (-20)], vm := .none },
  { cls := 9, slots := #[.int (-19)], vm := .none },
  { cls := 9, slots := #[.int (-18)], vm := .none },
  { cls := 9, slots := #[.int (-17)], vm := .none },
  { cls := 9, slots := #[.int (-16)], vm := .none },
  { cls := 9, slots := #[.int (-15)], vm := .none },
  { cls := 9, slots := #[.int (-14)], vm := .none },
  { cls := 9, slots := #[.int (-13)], vm := .none },
  { cls := 9, slots := #[.int (-12)], vm := .none },
  { cls := 9, slots := #[.int (-11)], vm := .none },
  { cls := 9, slots := #[.int (-10)], vm := .none },
  { cls := 9, slots := #[.int (-9)], vm := .none },
  { cls := 9, slots := #[.int (-8)], vm := .none },
  { cls := 9, slots := #[.int (-7)], vm := .none },
  { cls := 9, slots := #[.int (-6)], vm := .none },
  { cls := 9, slots := #[.int (-5)], vm := .none },
  { cls := 9, slots := #[.int (-4)], vm := .none },
  { cls := 9, slots := #[.int (-3)], vm := .none },
  { cls := 9, slots := #[.int (-2)], vm := .none },
  { cls := 9, slots := #[.int (-1)], vm := .none },
  { cls := 9, slots := #[.int 0], vm := .none },
  { cls := 9, slots := #[.int 1], vm := .none },
  { cls := 9, slots := #[.int 2], vm := .none },
  { cls := 9, slots := #[.int 3], vm := .none },
  { cls := 9, slots := #[.int 4], vm := .none },
  { cls := 9, slots := #[.int 5], vm := .none },
  { cls := 9, slots := #[.int 6], vm := .none },
  { cls := 9, slots := #[.int 7], vm := .none },
  { cls := 9, slots := #[.int 8], vm := .none },
  { cls := 9, slots := #[.int 9], vm := .none },
  { cls := 9, slots := #[.int 10], vm := .none },
  { cls := 9, slots := #[.int 11], vm := .none },
  { cls := 9, slots := #[.int 12], vm := .none },
  { cls := 9, slots := #[.int 13], vm := .none },
  { cls := 9, slots := #[.int 14], vm := .none },
  { cls := 9, slots := #[.int 15], vm := .none },
  { cls := 9, slots := #[.int 16], vm := .none },
  { cls := 9, slots := #[.int 17], vm := .none },
  { cls := 9, slots := #[.int 18], vm := .none },
  { cls := 9, slots := #[.int 19], vm := .none },
  { cls := 9, slots := #[.int 20], vm := .none },
  { cls := 9, slots := #[.int 21], vm := .none },
  { cls := 9, slots := #[.int 22], vm := .none },
  { cls := 9, slots := #[.int 23], vm := .none },
  { cls := 9, slots := #[.int 24], vm := .none },
  { cls := 9, slots := #[.int 25], vm := .none },
  { cls := 9, slots := #[.int 26], vm := .none },
  { cls := 9, slots := #[.int 27], vm := .none },
  { cls := 9, slots := #[.int 28], vm := .none },
  { cls := 9, slots := #[.int 29], vm := .none },
  { cls := 9, slots := #[.int 30], vm := .none },
  { cls := 9, slots := #[.int 31], vm := .none },
  { cls := 9, slots := #[.int 32], vm := .none },
  { cls := 9, slots := #[.int 33], vm := .none },
  { cls := 9, slots := #[.int 34], vm := .none },
  { cls := 9, slots := #[.int 35], vm := .none },
  { cls := 9, slots := #[.int 36], vm := .none },
  { cls := 9, slots := #[.int 37], vm := .none },
  { cls := 9, slots := #[.int 38], vm := .none },
  { cls := 9, slots := #[.int 39], vm := .none },
  { cls := 9, slots := #[.int 40], vm := .none },
  { cls := 9, slots := #[.int 41], vm := .none },
  { cls := 9, slots := #[.int 42], vm := .none },
  { cls := 9, slots := #[.int 43], vm := .none },
  { cls := 9, slots := #[.int 44], vm := .none },
  { cls := 9, slots := #[.int 45], vm := .none },
  { cls := 9, slots := #[.int 46], vm := .none },
  { cls := 9, slots := #[.int 47], vm := .none },
  { cls := 9, slots := #[.int 48], vm := .none },
  { cls := 9, slots := #[.int 49], vm := .none },
  { cls := 9, slots := #[.int 50], vm := .none },
  { cls := 9, slots := #[.int 51], vm := .none },
  { cls := 9, slots := #[.int 52], vm := .none },
  { cls := 9, slots := #[.int 53], vm := .none },
  { cls := 9, slots := #[.int 54], vm := .none },
  { cls := 9, slots := #[.int 55], vm := .none },
  { cls := 9, slots := #[.int 56], vm := .none },
  { cls := 9, slots := #[.int 57], vm := .none },
  { cls := 9, slots := #[.int 58], vm := .none },
  { cls := 9, slots := #[.int 59], vm := .none },
  { cls := 9, slots := #[.int 60], vm := .none },
  { cls := 9, slots := #[.int 61], vm := .none },
  { cls := 9, slots := #[.int 62], vm := .none },
  { cls := 9, slots := #[.int 63], vm := .none },
  { cls := 9, slots := #[.int 64], vm := .none },
  { cls := 9, slots := #[.int 65], vm := .none },
  { cls := 9, slots := #[.int 66], vm := .none },
  { cls := 9, slots := #[.int 67], vm := .none },
  { cls := 9, slots := #[.int 68], vm := .none },
  { cls := 9, slots := #[.int 69], vm := .none },
  { cls := 9, slots := #[.int 70], vm := .none },
  { cls := 9, slots := #[.int 71], vm := .none },
  { cls := 9, slots := #[.int 72], vm := .none },
  { cls := 9, slots := #[.int 73], vm := .none },
  { cls := 9, slots := #[.int 74], vm := .none },
  { cls := 9, slots := #[.int 75], vm := .none },
  { cls := 9, slots := #[.int 76], vm := .none },
  { cls := 9, slots := #[.int 77], vm := .none },
  { cls := 9, slots := #[.int 78], vm := .none },
  { cls := 9, slots := #[.int 79], vm := .none },
  { cls := 9, slots := #[.int 80], vm := .none },
  { cls := 9, slots := #[.int 81], vm := .none },
  { cls := 9, slots := #[.int 82], vm := .none },
  { cls := 9, slots := #[.int 83], vm := .none },
  { cls := 9, slots := #[.int 84], vm := .none },
  { cls := 9, slots := #[.int 85], vm := .none },
  { cls := 9, slots := #[.int 86], vm := .none },
  { cls := 9, slots := #[.int 87], vm := .none },
  { cls := 9, slots := #[.int 88], vm := .none },
  { cls := 9, slots := #[.int 89], vm := .none },
  { cls := 9, slots := #[.int 90], vm := .none },
  { cls := 9, slots := #[.int 91], vm := .none },
  { cls := 9, slots := #[.int 92], vm := .none },
  { cls := 9, slots := #[.int 93], vm := .none },
  { cls := 9, slots := #[.int 94], vm := .none },
  { cls := 9, slots := #[.int 95], vm := .none },
  { cls := 9, slots := #[.int 96], vm := .none },
  { cls := 9, slots := #[.int 97], vm := .none },
  { cls := 9, slots := #[.int 98], vm := .none },
  { cls := 9, slots := #[.int 99], vm := .none },
  { cls := 9, slots := #[.int 100], vm := .none },
  { cls := 9, slots := #[.int 101], vm := .none },
  { cls := 9, slots := #[.int 102], vm := .none },
  { cls := 9, slots := #[.int 103], vm := .none },
  { cls := 9, slots := #[.int 104], vm := .none },
  { cls := 9, slots := #[.int 105], vm := .none },
  { cls := 9, slots := #[.int 106], vm := .none },
  { cls := 9, slots := #[.int 107], vm := .none },
  { cls := 9, slots := #[.int 108], vm := .none },
  { cls := 9, slots := #[.int 109], vm := .none },
  { cls := 9, slots := #[.int 110], vm := .none },
  { cls := 9, slots := #[.int 111], vm := .none },
  { cls := 9, slots := #[.int 112], vm := .none },
  { cls := 9, slots := #[.int 113], vm := .none },
  { cls := 9, slots := #[.int 114], vm := .none },
  { cls := 9, slots := #[.int 115], vm := .none },
  { cls := 9, slots := #[.int 116], vm := .none },
  { cls := 9, slots := #[.int 117], vm := .none },
  { cls := 9, slots := #[.int 118], vm := .none },
  { cls := 9, slots := #[.int 119], vm := .none },
  { cls := 9, slots := #[.int 120], vm := .none },
  { cls := 9, slots := #[.int 121], vm := .none },
  { cls := 9, slots := #[.int 122], vm := .none },
  { cls := 9, slots := #[.int 123], vm := .none },
  { cls := 9, slots := #[.int 124], vm := .none },
  { cls := 9, slots := #[.int 125], vm := .none },
  { cls := 9, slots := #[.int 126], vm := .none },
  { cls := 9, slots := #[.int 127], vm := .none }]
def classes : Array Class := #[k0, k1, k2, k3, k4, k5, k6, k7, k8, k9, k10, k11, k12, k13, k14, k15, k16, k17]
def interned : List (Array UInt16 × Addr) := []
def slotsUsed : Nat := 517
def theMethod : MethodId := ⟨1, 1⟩
def args0 : Array Value := #[.int 3, .int 4, .int 5, .int 6, .int 7, .int 8]
def aboutOver (below : List Frame) : State where
  vm := { classes := classes, interned := interned.toArray }
  heap := heap
  slotsUsed := slotsUsed
  threads := #[{ frames := .invoking theMethod args0 :: below }]
def below0 : List Frame := [.native { method := ⟨0, 0⟩, args := #[] }]
def about1 : State := aboutOver below0
def p0 : Program := .bare "" "" ""
def e0 : Env := launch0.env 0 0 0
theorem w_frames : about1.frames = Frame.invoking theMethod args0 :: below0 := rfl
set_option maxRecDepth 65536 in
theorem w_args : argsFit about1.vm theMethod args0 = true := by decide +kernel
set_option maxRecDepth 65536 in
theorem w_heap : heapFits about1 = true := by decide +kernel
set_option maxRecDepth 65536 in
theorem w_runnable : about1.curStatus? = some .runnable := by decide +kernel
set_option maxRecDepth 65536 in
theorem w_alone : about1.alone = true := by decide +kernel
set_option maxRecDepth 65536 in
theorem w_named : about1.methodNamed? x = some theMethod := by decide +kernel
set_option maxRecDepth 65536 in
theorem w_hears : about1.hears theMethod below0 = true := by decide +kernel
set_option maxRecDepth 65536 in
theorem w_ripe : about1.ripe theMethod args0 below0 = true := by decide +kernel
theorem w_running : about1.status = .running := rfl
set_option maxRecDepth 65536 in
theorem w_room : about1.hasRoom e0.platform room_1 = true :=
  launch0.hasRoom_least _ room_1 (by decide +kernel) (by decide +kernel) (by decide +kernel) (by decide +kernel) (by decide +kernel) (by decide +kernel)
theorem allAtoms_all (ts : List Jvm.Cond) (a : Array Jvm.Value) (st : Jvm.State) : (allAtoms ts).before a st = ts.all (fun c => c.before a st) := by
  induction ts with
  | nil => rfl
  | cons c t ih =>
    show (Jvm.Cond.and c (allAtoms t)).before a st = _
    rw [Jvm.Cond.before_and, ih, List.all_cons]
def words1 : List Jvm.Cond := Jvm.Cond.code x code maxLocals ret :: tables_1
/-- a 'code' word, met by the world's own term for the bytes: nothing is compared byte by byte -/
theorem code_word {y : MethodName} {bytes : ByteArray} {mx : Nat} {rt : Option FieldType} {a : Array Value} {s : State} {m : MethodId} {meth : Method} {c : Code} (h1 : s.methodNamed? y = some m) (h2 : s.vm.method? m = some meth) (h3 : meth.code = some c) (h4 : c.code = bytes)
    (h5 : (c.maxLocals == mx && c.exceptionTable.isEmpty && decide (c.maxStack ≤ mostOperands) && decide (meth.sig.returnType = rt) && !meth.locks && decide (parseMethodDescriptor y.desc = some meth.sig)) = true) : (Jvm.Cond.code y bytes mx rt).before a s = true := by
  simp only [Bool.and_eq_true, beq_iff_eq, Bool.not_eq_true', decide_eq_true_eq] at h5
  obtain ⟨⟨⟨⟨⟨g1, g2⟩, g3⟩, g4⟩, g5⟩, g6⟩ := h5
  simp [Cond.before, Cond.holds, Cond.value, h1, h2, h3, h4, g1, g2, g3, g4, g5, g6]
def isCode : Jvm.Cond → Bool
  | .code _ _ _ _ => true
  | _ => false
theorem all_split {L : List Jvm.Cond} {P : Jvm.Cond → Bool} (h1 : L.all (fun c => isCode c || P c) = true) (h2 : ∀ c ∈ L.filter isCode, P c = true) : L.all P = true := by
  refine List.all_eq_true.mpr fun c hc => ?_
  have h := List.all_eq_true.mp h1 c hc
  rcases Bool.eq_false_or_eq_true (isCode c) with hi | hi
  · exact h2 c (List.mem_filter.mpr ⟨hc, hi⟩)
  · simpa [hi] using h
set_option maxRecDepth 65536 in
theorem w_c0 : (Jvm.Cond.code x code maxLocals ret).before args0 about1 = true := code_word (m := ⟨1, 1⟩) (meth := k1m1) (c := k1c1) (by decide +kernel) rfl rfl rfl (by decide +kernel)
set_option maxRecDepth 65536 in
theorem w_c1 : (Jvm.Cond.code ({ cls := "com/example/weftwork/weftwork/Rows", name := "<init>", desc := "(IZ)V" } : Jvm.MethodName) prog_69_method_1_code (3 : Nat) (Option.none : Option Jvm.ClassFile.FieldType)).before args0 about1 = true := code_word (m := ⟨2, 0⟩) (meth := k2m0) (c := k2c0) (by decide +kernel) rfl rfl rfl (by decide +kernel)
set_option maxRecDepth 65536 in
theorem w_c2 : (Jvm.Cond.code ({ cls := "java/lang/Object", name := "<init>", desc := "()V" } : Jvm.MethodName) object_method_1_code (1 : Nat) (Option.none : Option Jvm.ClassFile.FieldType)).before args0 about1 = true := code_word (m := ⟨0, 0⟩) (meth := k0m0) (c := k0c0) (by decide +kernel) rfl rfl rfl (by decide +kernel)
set_option maxRecDepth 65536 in
theorem w_c3 : (Jvm.Cond.code ({ cls := "com/example/weftwork/weftwork/Rows", name := "make", desc := "()I" } : Jvm.MethodName) prog_69_method_2_code (4 : Nat) (Option.some Jvm.ClassFile.FieldType.int)).before args0 about1 = true := code_word (m := ⟨2, 1⟩) (meth := k2m1) (c := k2c1) (by decide +kernel) rfl rfl rfl (by decide +kernel)
set_option maxRecDepth 65536 in
theorem w_c4 : (Jvm.Cond.code ({ cls := "java/util/Arrays", name := "fill", desc := "([IIII)V" } : Jvm.MethodName) jdk_65_method_104_code (5 : Nat) (Option.none : Option Jvm.ClassFile.FieldType)).before args0 about1 = true := code_word (m := ⟨3, 2⟩) (meth := k3m2) (c := k3c2) (by decide +kernel) rfl rfl rfl (by decide +kernel)
set_option maxRecDepth 65536 in
theorem w_c5 : (Jvm.Cond.code ({ cls := "java/util/Arrays", name := "rangeCheck", desc := "(III)V" } : Jvm.MethodName) jdk_65_method_30_code (3 : Nat) (Option.none : Option Jvm.ClassFile.FieldType)).before args0 about1 = true := code_word (m := ⟨3, 1⟩) (meth := k3m1) (c := k3c1) (by decide +kernel) rfl rfl rfl (by decide +kernel)
set_option maxRecDepth 65536 in
theorem w_c6 : (Jvm.Cond.code ({ cls := "com/example/weftwork/weftwork/Rows", name := "set", desc := "(III)V" } : Jvm.MethodName) prog_69_method_8_code (4 : Nat) (Option.none : Option Jvm.ClassFile.FieldType)).before args0 about1 = true := code_word (m := ⟨2, 4⟩) (meth := k2m4) (c := k2c4) (by decide +kernel) rfl rfl rfl (by decide +kernel)
set_option maxRecDepth 65536 in
theorem w_c7 : (Jvm.Cond.code ({ cls := "java/lang/Integer", name := "valueOf", desc := "(I)Ljava/lang/Integer;" } : Jvm.MethodName) jdk_33_method_22_code (1 : Nat) (Option.some (Jvm.ClassFile.FieldType.object "java/lang/Integer"))).before args0 about1 = true := code_word (m := ⟨9, 0⟩) (meth := k9m0) (c := k9c0) (by decide +kernel) rfl rfl rfl (by decide +kernel)
set_option maxRecDepth 65536 in
theorem w_c8 : (Jvm.Cond.code ({ cls := "com/example/weftwork/weftwork/Rows", name := "setObject", desc := "(ILjava/lang/Object;)V" } : Jvm.MethodName) prog_69_method_10_code (3 : Nat) (Option.none : Option Jvm.ClassFile.FieldType)).before args0 about1 = true := code_word (m := ⟨2, 6⟩) (meth := k2m6) (c := k2c6) (by decide +kernel) rfl rfl rfl (by decide +kernel)
set_option maxRecDepth 65536 in
theorem w_c9 : (Jvm.Cond.code ({ cls := "com/example/weftwork/weftwork/Rows", name := "free", desc := "(I)V" } : Jvm.MethodName) prog_69_method_4_code (2 : Nat) (Option.none : Option Jvm.ClassFile.FieldType)).before args0 about1 = true := code_word (m := ⟨2, 2⟩) (meth := k2m2) (c := k2c2) (by decide +kernel) rfl rfl rfl (by decide +kernel)
set_option maxRecDepth 65536 in
theorem w_c10 : (Jvm.Cond.code ({ cls := "com/example/weftwork/weftwork/Rows", name := "get", desc := "(II)I" } : Jvm.MethodName) prog_69_method_7_code (3 : Nat) (Option.some Jvm.ClassFile.FieldType.int)).before args0 about1 = true := code_word (m := ⟨2, 3⟩) (meth := k2m3) (c := k2c3) (by decide +kernel) rfl rfl rfl (by decide +kernel)
set_option maxRecDepth 65536 in
theorem w_c11 : (Jvm.Cond.code ({ cls := "com/example/weftwork/weftwork/Rows", name := "object", desc := "(I)Ljava/lang/Object;" } : Jvm.MethodName) prog_69_method_9_code (2 : Nat) (Option.some (Jvm.ClassFile.FieldType.object "java/lang/Object"))).before args0 about1 = true := code_word (m := ⟨2, 5⟩) (meth := k2m5) (c := k2c5) (by decide +kernel) rfl rfl rfl (by decide +kernel)
set_option maxRecDepth 65536 in
theorem w_c12 : (Jvm.Cond.code ({ cls := "java/lang/Integer", name := "<init>", desc := "(I)V" } : Jvm.MethodName) jdk_33_method_23_code (2 : Nat) (Option.none : Option Jvm.ClassFile.FieldType)).before args0 about1 = true := code_word (m := ⟨9, 1⟩) (meth := k9m1) (c := k9c1) (by decide +kernel) rfl rfl rfl (by decide +kernel)
set_option maxRecDepth 65536 in
theorem w_c13 : (Jvm.Cond.code ({ cls := "java/lang/Number", name := "<init>", desc := "()V" } : Jvm.MethodName) jdk_18_method_1_code (1 : Nat) (Option.none : Option Jvm.ClassFile.FieldType)).before args0 about1 = true := code_word (m := ⟨5, 0⟩) (meth := k5m0) (c := k5c0) (by decide +kernel) rfl rfl rfl (by decide +kernel)
def codes1 : List Jvm.Cond := [Jvm.Cond.code x code maxLocals ret, Jvm.Cond.code ({ cls := "com/example/weftwork/weftwork/Rows", name := "<init>", desc := "(IZ)V" } : Jvm.MethodName) prog_69_method_1_code (3 : Nat) (Option.none : Option Jvm.ClassFile.FieldType), Jvm.Cond.code ({ cls := "java/lang/Object", name := "<init>", desc := "()V" } : Jvm.MethodName) object_method_1_code (1 : Nat) (Option.none : Option Jvm.ClassFile.FieldType), Jvm.Cond.code ({ cls := "com/example/weftwork/weftwork/Rows", name := "make", desc := "()I" } : Jvm.MethodName) prog_69_method_2_code (4 : Nat) (Option.some Jvm.ClassFile.FieldType.int), Jvm.Cond.code ({ cls := "java/util/Arrays", name := "fill", desc := "([IIII)V" } : Jvm.MethodName) jdk_65_method_104_code (5 : Nat) (Option.none : Option Jvm.ClassFile.FieldType), Jvm.Cond.code ({ cls := "java/util/Arrays", name := "rangeCheck", desc := "(III)V" } : Jvm.MethodName) jdk_65_method_30_code (3 : Nat) (Option.none : Option Jvm.ClassFile.FieldType), Jvm.Cond.code ({ cls := "com/example/weftwork/weftwork/Rows", name := "set", desc := "(III)V" } : Jvm.MethodName) prog_69_method_8_code (4 : Nat) (Option.none : Option Jvm.ClassFile.FieldType), Jvm.Cond.code ({ cls := "java/lang/Integer", name := "valueOf", desc := "(I)Ljava/lang/Integer;" } : Jvm.MethodName) jdk_33_method_22_code (1 : Nat) (Option.some (Jvm.ClassFile.FieldType.object "java/lang/Integer")), Jvm.Cond.code ({ cls := "com/example/weftwork/weftwork/Rows", name := "setObject", desc := "(ILjava/lang/Object;)V" } : Jvm.MethodName) prog_69_method_10_code (3 : Nat) (Option.none : Option Jvm.ClassFile.FieldType), Jvm.Cond.code ({ cls := "com/example/weftwork/weftwork/Rows", name := "free", desc := "(I)V" } : Jvm.MethodName) prog_69_method_4_code (2 : Nat) (Option.none : Option Jvm.ClassFile.FieldType), Jvm.Cond.code ({ cls := "com/example/weftwork/weftwork/Rows", name := "get", desc := "(II)I" } : Jvm.MethodName) prog_69_method_7_code (3 : Nat) (Option.some Jvm.ClassFile.FieldType.int), Jvm.Cond.code ({ cls := "com/example/weftwork/weftwork/Rows", name := "object", desc := "(I)Ljava/lang/Object;" } : Jvm.MethodName) prog_69_method_9_code (2 : Nat) (Option.some (Jvm.ClassFile.FieldType.object "java/lang/Object")), Jvm.Cond.code ({ cls := "java/lang/Integer", name := "<init>", desc := "(I)V" } : Jvm.MethodName) jdk_33_method_23_code (2 : Nat) (Option.none : Option Jvm.ClassFile.FieldType), Jvm.Cond.code ({ cls := "java/lang/Number", name := "<init>", desc := "()V" } : Jvm.MethodName) jdk_18_method_1_code (1 : Nat) (Option.none : Option Jvm.ClassFile.FieldType)]
set_option maxRecDepth 65536 in
theorem codes_eq : words1.filter isCode = codes1 := rfl
theorem w_codes : ∀ c ∈ words1.filter isCode, c.before args0 about1 = true := by
  rw [codes_eq]
  intro c hc
  simp only [codes1, List.mem_cons, List.not_mem_nil, or_false] at hc
  rcases hc with rfl | rfl | rfl | rfl | rfl | rfl | rfl | rfl | rfl | rfl | rfl | rfl | rfl | rfl
  · exact w_c0
  · exact w_c1
  · exact w_c2
  · exact w_c3
  · exact w_c4
  · exact w_c5
  · exact w_c6
  · exact w_c7
  · exact w_c8
  · exact w_c9
  · exact w_c10
  · exact w_c11
  · exact w_c12
  · exact w_c13
set_option maxRecDepth 65536 in
theorem w_t1 : (words1.take 24).all (fun c => isCode c || c.before args0 about1) = true := by decide +kernel
set_option maxRecDepth 65536 in
theorem w_t2 : ((words1.drop 24).take 24).all (fun c => isCode c || c.before args0 about1) = true := by decide +kernel
set_option maxRecDepth 65536 in
theorem w_t3 : (((words1.drop 24).drop 24).take 24).all (fun c => isCode c || c.before args0 about1) = true := by decide +kernel
set_option maxRecDepth 65536 in
theorem w_t4 : (((words1.drop 24).drop 24).drop 24).all (fun c => isCode c || c.before args0 about1) = true := by decide +kernel
theorem w_tables : (allAtoms (Jvm.Cond.code x code maxLocals ret :: tables_1)).before args0 about1 = true := by
  rw [allAtoms_all]
  show words1.all (fun c => c.before args0 about1) = true
  refine all_split ?_ w_codes
  rw [← List.take_append_drop 24 words1, List.all_append, w_t1, ← List.take_append_drop 24 (words1.drop 24), List.all_append, w_t2, ← List.take_append_drop 24 ((words1.drop 24).drop 24), List.all_append, w_t3, w_t4]
  rfl
set_option maxRecDepth 65536 in
theorem w_rest : rest_1_c.before args0 about1 = true := by decide +kernel
set_option maxRecDepth 65536 in
theorem w_case : (Jvm.Cond.and given_1 narrow_1).before args0 about1 = true := by decide +kernel
theorem w_applies : (headSpec (Jvm.Cond.code x code maxLocals ret :: tables_1) room_1).applies x e0.platform about1 = true :=
  (Spec.applies_iff w_frames).mpr ⟨w_running, w_runnable, w_alone, w_named, w_hears, w_ripe, w_room, w_tables⟩
theorem atStart : AtStart classFile x code maxLocals ret World_1 tables_1 room_1 Calls_1 rest_1 Pre_1 launch0 p0 e0 about1 theMethod args0 below0 :=
  ⟨lists_1, trivial, launch0.admits_env _ _ _, launch0.least_env, fairChoices_fair.cas, fairChoices_fair.clock, w_frames, w_args, w_heap, w_applies, trivial, w_rest, w_case⟩
end start1
theorem witness_1 : WitnessClaimed_1 := ⟨start1.p0, start1.e0, start1.about1, start1.theMethod, start1.args0, start1.below0, start1.atStart⟩
end Jvm.Pilot.@@N@@
