import JvmDerived
import JvmDerived.Pilot.@@N@@Statement
import JvmDerived.Pilot.@@N@@Code
set_option linter.unusedVariables false
set_option linter.unusedSimpArgs false

namespace Jvm.RoadKit
open Sem ClassFile Op Lib Jvm.Stand Jvm.Free Jvm.LawKit
section New
variable {p : Program} {l : Launch} {e : Env} {R : Room} {s : State} {m : MethodId} {args : Array Value} {below : List Frame} {meth : Method} {c : Code} {T : State} {locs : List Loc} {cells slots : Nat}
theorem retI (X : Stand p l e R s m args below meth c T locs cells slots) (hx : p.tables.exec = Jvm.exec) {pc : Nat} {Ls : Array Slot} {z : Int32} {rest : List Value} (hret : meth.sig.returnType = some .int) (hd : decode c.code pc = .ok (.ireturn, 1)) {fs : List Frame}
    (hl : ∀ (f : JFrame) (acts : List Action), f.method = m → f.locked = none → f.entered = [] → (doReturn e (T.setTop f) acts (some (.int z))).1 = T.setFrames fs) : Steps p.tables e below (T.setTop (mkF m pc Ls (.int z :: rest))) (T.setFrames fs) := by
  have hm' : T.vm.method? m = some meth := X.method'
  have hn : narrow .int (.int z) = .int z := rfl
  show Steps p.tables e below (T.setTop { method := m, pc := pc, locals := Ls, stack := _ :: rest, locked := none }) _
  jvm_step X.here [X.here.top, hx, hd, hm', hret, hn]
  first | (intro acts; rw [hl _ acts rfl rfl rfl]) | rw [hl _ _ rfl rfl rfl]
  exact Steps.refl _
end New
end Jvm.RoadKit
namespace Jvm.Pilot.@@N@@
open Jvm Jvm.ClassFile Sem Op Lib Jvm.Free Jvm.Stand Jvm.LawKit Jvm.RoadKit Bundle Jvm.Pilot.@@N@@.Jvm.D
abbrev own_Goes (tb : Tables) (e : Env) (below : List Frame) (A : State) (R : State → Outcome → Prop) : Prop := ∃ s₂ o, Steps tb e below A s₂ ∧ R s₂ o
theorem own_go {tb : Tables} {e : Env} {below : List Frame} {A B : State} {R : State → Outcome → Prop} (f : ∀ t, Steps tb e below B t → Steps tb e below A t) (h : own_Goes tb e below B R) : own_Goes tb e below A R := by
  obtain ⟨s₂, o, h1, h2⟩ := h
  exact ⟨s₂, o, f _ h1, h2⟩
theorem own_place {j : Int32} {c : Cell} (S : c.slots.size = (256 : Int32).toNatClampNeg) (h : ¬ j < 0 ∧ j < (256 : Int32)) : ¬ (j < 0 ∨ c.slots.size ≤ j.toNatClampNeg) := inb_of S h
theorem own_inI {q : Int32} (h1 : ¬ q < (-128 : Int32)) (h2 : ¬ (127 : Int32) < q) : ¬ (q + (128 : Int32)) < 0 ∧ (q + (128 : Int32)) < (256 : Int32) := by
  have a3 := c_iadd q (128 : Int32)
  have a4 := rng32 (q + (128 : Int32))
  simp only [Int32.lt_iff_toInt_lt, Int32.reduceToInt] at *
  omega
theorem own_wS {Z : State} {ta : Array Value} (hw : ∀ d ∈ tables_1, d.before ta Z = true) : ∀ a ∈ Bundle.stringAtoms, a.before ta Z = true := by
  intro d hd
  simp only [Bundle.stringAtoms, List.mem_cons, List.not_mem_nil, or_false] at hd
  rcases hd with rfl | rfl | rfl | rfl | rfl | rfl | rfl
  · exact (hw _ (List.mem_of_getElem? (i := 23) rfl))
  · exact (hw _ (List.mem_of_getElem? (i := 24) rfl))
  · exact (hw _ (List.mem_of_getElem? (i := 25) rfl))
  · exact (hw _ (List.mem_of_getElem? (i := 26) rfl))
  · exact (hw _ (List.mem_of_getElem? (i := 27) rfl))
  · exact (hw _ (List.mem_of_getElem? (i := 28) rfl))
  · exact (hw _ (List.mem_of_getElem? (i := 29) rfl))
theorem d9_0 : decode jdk_18_method_1_code 0 = .ok (.aload_n 0, 1) := by decide +kernel
theorem d9_1 : decode jdk_18_method_1_code 1 = .ok (.invokespecial 1, 3) := by decide +kernel
theorem d9_4 : decode jdk_18_method_1_code 4 = .ok (.return_, 1) := by decide +kernel
theorem pn_9 : plainName "java/lang/Number" = true := by first | (simp [plainName, overriddenIn]; done) | decide +kernel
theorem ef_9 (m : MethodId) (x0 : Addr) : entryFrame m #[(.ref x0)] 1 = mkF m 0 #[.val (.ref x0)] [] := by first | (simp [entryFrame, mkF, argsToLocals, Value.category]; done) | rfl
def Q9 (Z : State) (a0 : Addr)  (h0 : Heap) (n0 : Nat) (v : Option Value) (h : Heap) (L : List Loc) : Prop := v = none ∧ Fr n0 L ∧ h = h0
set_option maxRecDepth 65536 in
set_option maxHeartbeats 40000000 in
theorem rm9 (l : Launch) (Z : State) (ta : Array Value) (hw : ∀ d ∈ tables_1, d.before ta Z = true) (ws : List Jvm.Cond) (a0 : Addr)  (h0 : Heap) (n0 : Nat)  :
    MetFree l (⟨"java/lang/Number", "<init>", "()V"⟩ : MethodName) (head1 (Jvm.Cond.code (⟨"java/lang/Number", "<init>", "()V"⟩ : MethodName) jdk_18_method_1_code 1 none :: ws) ({ frames := 1, cells := 0, slots := 0, locals := 12 } : Room)) (fun a U => a = #[(.ref a0)] ∧ Z.Warmed39 U.vm ∧ U.heap = h0) (fun _ _ _ _ _ => True) (fun _ U o U' => ∃ v L, o = .returned v ∧ Q9 Z a0  h0 n0 v U'.heap L ∧ FrameEnd U o U' L ({ frames := 1, cells := 0, slots := 0, locals := 12 } : Room).cells ({ frames := 1, cells := 0, slots := 0, locals := 12 } : Room).slots) := by
  refine MetFree.of_bodySF (plainFor_of_name pn_9) hisR ?_
  intro p e s m args below meth c s₁ Bd hml0 hP hK
  obtain ⟨rfl, hZ, hh⟩ := hP
  have hx := Bd.exec
  have hby := Bd.bytes
  have hml : c.maxLocals = 1 := hml0
  have hown : s.vm.findClass "java/lang/Number" = some m.cls := findClass_of_methodNamed Bd.named
  have hnm := (name_of_methodNamed Bd.named Bd.method).1
  have X0 : Stand p l e ({ frames := 1, cells := 0, slots := 0, locals := 12 } : Room) s m #[(.ref a0)] below meth c s₁ [] 0 0 := Stand.of_body Bd
  have e0 : s₁.heap = h0 := by rw [← hh, Bd.state]; rfl
  have N0 := Fr.nil n0
  refine own_go (B := (s₁.setTop (mkF m 0 #[.val (.ref a0)] []))) (fun t k => castTop (ef_9 m a0) k) ?_
  refine own_go (B := (s₁.setTop (mkF m 1 #[.val (.ref a0)] [(.ref a0)]))) (fun t k => XS.aloadN X0.here hx rfl (hb hby d9_0) rfl rfl k) ?_
  obtain ⟨T1, X1, e1, st1⟩ := initO X0 hx hZ hown (hw _ (List.mem_of_getElem? (i := 73) rfl)) (hw _ (List.mem_of_getElem? (i := 20) rfl)) (hw _ (List.mem_of_getElem? (i := 21) rfl)) e0 (g := (mkF m 1 #[.val (.ref a0)] [(.ref a0)])) rfl (by rw [hml]; rfl) rfl (hb hby d9_1) (by decide) (W := 0) (by show 2 * 0 + _ ≤ _; exact Nat.le_of_eq rfl) (by decide)
  refine own_go (B := (T1.setTop (mkF m 4 #[.val (.ref a0)] []))) (fun t k => st1 _ k) ?_
  obtain ⟨fs, hr, hrun, hended, hW, hsame⟩ := X1.leave (v := none) (fun _ => rfl)
  exact ⟨_, _, X1.returnOut hx Bd.returns (hb hby d9_4) hr, hrun, hended, _, _, rfl, ⟨rfl, N0, e1⟩, ⟨_, rfl⟩, hW, hsame.mono (by decide) (by decide)⟩
theorem d3_0 : decode jdk_30_method_1_code 0 = .ok (.aload_n 0, 1) := by decide +kernel
theorem d3_1 : decode jdk_30_method_1_code 1 = .ok (.invokespecial 1, 3) := by decide +kernel
theorem d3_4 : decode jdk_30_method_1_code 4 = .ok (.return_, 1) := by decide +kernel
theorem pn_3 : plainName "java/lang/Record" = true := by first | (simp [plainName, overriddenIn]; done) | decide +kernel
theorem ef_3 (m : MethodId) (x0 : Addr) : entryFrame m #[(.ref x0)] 1 = mkF m 0 #[.val (.ref x0)] [] := by first | (simp [entryFrame, mkF, argsToLocals, Value.category]; done) | rfl
def Q3 (Z : State) (a0 : Addr)  (h0 : Heap) (n0 : Nat) (v : Option Value) (h : Heap) (L : List Loc) : Prop := v = none ∧ Fr n0 L ∧ h = h0
set_option maxRecDepth 65536 in
set_option maxHeartbeats 40000000 in
theorem rm3 (l : Launch) (Z : State) (ta : Array Value) (hw : ∀ d ∈ tables_1, d.before ta Z = true) (ws : List Jvm.Cond) (a0 : Addr)  (h0 : Heap) (n0 : Nat)  :
    MetFree l (⟨"java/lang/Record", "<init>", "()V"⟩ : MethodName) (head1 (Jvm.Cond.code (⟨"java/lang/Record", "<init>", "()V"⟩ : MethodName) jdk_30_method_1_code 1 none :: ws) ({ frames := 1, cells := 0, slots := 0, locals := 12 } : Room)) (fun a U => a = #[(.ref a0)] ∧ Z.Warmed39 U.vm ∧ U.heap = h0) (fun _ _ _ _ _ => True) (fun _ U o U' => ∃ v L, o = .returned v ∧ Q3 Z a0  h0 n0 v U'.heap L ∧ FrameEnd U o U' L ({ frames := 1, cells := 0, slots := 0, locals := 12 } : Room).cells ({ frames := 1, cells := 0, slots := 0, locals := 12 } : Room).slots) := by
  refine MetFree.of_bodySF (plainFor_of_name pn_3) hisR ?_
  intro p e s m args below meth c s₁ Bd hml0 hP hK
  obtain ⟨rfl, hZ, hh⟩ := hP
  have hx := Bd.exec
  have hby := Bd.bytes
  have hml : c.maxLocals = 1 := hml0
  have hown : s.vm.findClass "java/lang/Record" = some m.cls := findClass_of_methodNamed Bd.named
  have hnm := (name_of_methodNamed Bd.named Bd.method).1
  have X0 : Stand p l e ({ frames := 1, cells := 0, slots := 0, locals := 12 } : Room) s m #[(.ref a0)] below meth c s₁ [] 0 0 := Stand.of_body Bd
  have e0 : s₁.heap = h0 := by rw [← hh, Bd.state]; rfl
  have N0 := Fr.nil n0
  refine own_go (B := (s₁.setTop (mkF m 0 #[.val (.ref a0)] []))) (fun t k => castTop (ef_3 m a0) k) ?_
  refine own_go (B := (s₁.setTop (mkF m 1 #[.val (.ref a0)] [(.ref a0)]))) (fun t k => XS.aloadN X0.here hx rfl (hb hby d3_0) rfl rfl k) ?_
  obtain ⟨T1, X1, e1, st1⟩ := initO X0 hx hZ hown (hw _ (List.mem_of_getElem? (i := 19) rfl)) (hw _ (List.mem_of_getElem? (i := 20) rfl)) (hw _ (List.mem_of_getElem? (i := 21) rfl)) e0 (g := (mkF m 1 #[.val (.ref a0)] [(.ref a0)])) rfl (by rw [hml]; rfl) rfl (hb hby d3_1) (by decide) (W := 0) (by show 2 * 0 + _ ≤ _; exact Nat.le_of_eq rfl) (by decide)
  refine own_go (B := (T1.setTop (mkF m 4 #[.val (.ref a0)] []))) (fun t k => st1 _ k) ?_
  obtain ⟨fs, hr, hrun, hended, hW, hsame⟩ := X1.leave (v := none) (fun _ => rfl)
  exact ⟨_, _, X1.returnOut hx Bd.returns (hb hby d3_4) hr, hrun, hended, _, _, rfl, ⟨rfl, N0, e1⟩, ⟨_, rfl⟩, hW, hsame.mono (by decide) (by decide)⟩
theorem d8_0 : decode jdk_33_method_23_code 0 = .ok (.aload_n 0, 1) := by decide +kernel
theorem d8_1 : decode jdk_33_method_23_code 1 = .ok (.invokespecial 202, 3) := by decide +kernel
theorem d8_4 : decode jdk_33_method_23_code 4 = .ok (.aload_n 0, 1) := by decide +kernel
theorem d8_5 : decode jdk_33_method_23_code 5 = .ok (.iload_n 1, 1) := by decide +kernel
theorem d8_6 : decode jdk_33_method_23_code 6 = .ok (.putfield 205, 3) := by decide +kernel
theorem d8_9 : decode jdk_33_method_23_code 9 = .ok (.return_, 1) := by decide +kernel
theorem pn_8 : plainName "java/lang/Integer" = true := by first | (simp [plainName, overriddenIn]; done) | decide +kernel
theorem pd_8_0 : parseMethodDescriptor "()V" = some ⟨[], none⟩ := by decide +kernel
theorem ef_8 (m : MethodId) (x0 : Addr) (x1 : Int32) : entryFrame m #[(.ref x0), (.int x1)] 2 = mkF m 0 #[.val (.ref x0), .val (.int x1)] [] := by first | (simp [entryFrame, mkF, argsToLocals, Value.category]; done) | rfl
def Q8 (Z : State) (a0 : Addr) (p1 : Int32) (h0 : Heap) (n0 : Nat) (v : Option Value) (h : Heap) (L : List Loc) : Prop := v = none ∧ Fr n0 L ∧ Keep h0 h [a0] ∧ Fld Z h a0 "java/lang/Integer" "value" "I" (.int p1)
set_option maxRecDepth 65536 in
set_option maxHeartbeats 40000000 in
theorem rm8 (l : Launch) (Z : State) (ta : Array Value) (hw : ∀ d ∈ tables_1, d.before ta Z = true) (ws : List Jvm.Cond) (a0 : Addr) (p1 : Int32)  (h0 : Heap) (n0 : Nat) (Z0 : n0 ≤ h0.size) (E_a0 : Exa Z h0 a0 "java/lang/Integer") (F_value : Fld Z h0 a0 "java/lang/Integer" "value" "I" (.int (0 : Int32))) (g_a0 : n0 ≤ a0) :
    MetFree l (⟨"java/lang/Integer", "<init>", "(I)V"⟩ : MethodName) (head1 (Jvm.Cond.code (⟨"java/lang/Integer", "<init>", "(I)V"⟩ : MethodName) jdk_33_method_23_code 2 none :: ws) ({ frames := 2, cells := 0, slots := 0, locals := 24 } : Room)) (fun a U => a = #[(.ref a0), (.int p1)] ∧ Z.Warmed39 U.vm ∧ U.heap = h0) (fun _ _ _ _ _ => True) (fun _ U o U' => ∃ v L, o = .returned v ∧ Q8 Z a0 p1  h0 n0 v U'.heap L ∧ FrameEnd U o U' L ({ frames := 2, cells := 0, slots := 0, locals := 24 } : Room).cells ({ frames := 2, cells := 0, slots := 0, locals := 24 } : Room).slots) := by
  refine MetFree.of_bodySF (plainFor_of_name pn_8) hisR ?_
  intro p e s m args below meth c s₁ Bd hml0 hP hK
  obtain ⟨rfl, hZ, hh⟩ := hP
  have hx := Bd.exec
  have hby := Bd.bytes
  have hml : c.maxLocals = 2 := hml0
  have hown : s.vm.findClass "java/lang/Integer" = some m.cls := findClass_of_methodNamed Bd.named
  have hnm := (name_of_methodNamed Bd.named Bd.method).1
  have X0 : Stand p l e ({ frames := 2, cells := 0, slots := 0, locals := 24 } : Room) s m #[(.ref a0), (.int p1)] below meth c s₁ [] 0 0 := Stand.of_body Bd
  have e0 : s₁.heap = h0 := by rw [← hh, Bd.state]; rfl
  have N0 := Fr.nil n0
  refine own_go (B := (s₁.setTop (mkF m 0 #[.val (.ref a0), .val (.int p1)] []))) (fun t k => castTop (ef_8 m a0 p1) k) ?_
  refine own_go (B := (s₁.setTop (mkF m 1 #[.val (.ref a0), .val (.int p1)] [(.ref a0)]))) (fun t k => XS.aloadN X0.here hx rfl (hb hby d8_0) rfl rfl k) ?_
  obtain ⟨_, _, ⟨T1, L1, k1, n1⟩, -, X1, ⟨Lc1, hQ1, l1, y1, z1⟩, st1⟩ := X0.specialBack hx (y := (⟨"java/lang/Number", "<init>", "()V"⟩ : MethodName)) rfl hown (mvT hZ (hw _ (List.mem_of_getElem? (i := 67) rfl))) (mvT hZ (hw _ (List.mem_of_getElem? (i := 68) rfl))) (mvT hZ (hw _ (List.mem_of_getElem? (i := 72) rfl))) (by decide) (backOf (W := 0) (rm9 l Z ta hw [] a0  h0 n0 ) hZ (hw _ (List.mem_of_getElem? (i := 72) rfl)) (hw _ (List.mem_of_getElem? (i := 71) rfl)) (by decide) (by decide)) (g := (mkF m 1 #[.val (.ref a0), .val (.int p1)] [(.ref a0)])) rfl (by rw [hml]; rfl) (Steps.refl _) (a := a0) (argsL := []) (rest := []) (lenOf pd_8_0 rfl) rfl (by show 2 * 0 + _ ≤ _; exact Nat.le_of_eq rfl) (hb hby d8_1) (fun _ _ => ⟨rfl, e0, (by decide : 0 + 0 ≤ _), (by decide : 0 + 0 ≤ _)⟩)
  dsimp only [Pt.U, Pt.locs, Pt.cells, Pt.slots] at X1 l1 y1 z1 st1 hQ1
  subst l1 y1 z1
  obtain ⟨rfl, N1q, e1⟩ := hQ1
  replace e1 := e1
  have N1 := Fr.app N0 N1q
  refine own_go (B := (T1.setTop (mkF m 4 #[.val (.ref a0), .val (.int p1)] []))) (fun t k => st1.trans k) ?_
  refine own_go (B := (T1.setTop (mkF m 5 #[.val (.ref a0), .val (.int p1)] [(.ref a0)]))) (fun t k => XS.aloadN X1.here hx rfl (hb hby d8_4) rfl rfl k) ?_
  refine own_go (B := (T1.setTop (mkF m 6 #[.val (.ref a0), .val (.int p1)] [(.int p1), (.ref a0)]))) (fun t k => XS.iloadN X1.here hx rfl (hb hby d8_5) rfl k) ?_
  obtain ⟨T2, h2, X2, e2, W2, st2⟩ := putF X1 hx hZ hown (host := "") (Or.inl (hw _ (List.mem_of_getElem? (i := 74) rfl))) Via.refl e1 F_value E_a0 (Or.inr ⟨(hw _ (List.mem_of_getElem? (i := 75) rfl)), rfl, hnm⟩) (hw _ (List.mem_of_getElem? (i := 62) rfl)) (ty := .int) (by decide) rfl rfl (g := (mkF m 6 #[.val (.ref a0), .val (.int p1)] [(.int p1), (.ref a0)])) rfl rfl (hb hby d8_6)
  have E_a0_2 := E_a0.wr W2
  have F_a0_value_2 := F_value.same W2
  have K2 : Keep h0 h2 [a0] := (Keep.refl h0 [a0]).wr W2 (Or.inl (by simp))
  have Zs2 : n0 ≤ h2.size := Nat.le_trans Z0 (Keep.of_wr W2).1
  have N2 := Fr.snoc X2 N1 g_a0
  refine own_go (B := (T2.setTop (mkF m 9 #[.val (.ref a0), .val (.int p1)] []))) (fun t k => st2 _ k) ?_
  obtain ⟨fs, hr, hrun, hended, hW, hsame⟩ := X2.leave (v := none) (fun _ => rfl)
  exact ⟨_, _, X2.returnOut hx Bd.returns (hb hby d8_9) hr, hrun, hended, _, _, rfl, (by show Q8 Z a0 p1 h0 n0 _ T2.heap _; rw [e2]; exact ⟨rfl, N2, K2, F_a0_value_2⟩), ⟨_, rfl⟩, hW, hsame.mono (by decide) (by decide)⟩
theorem d1_0 : decode jdk_33_method_22_code 0 = .ok (.iload_n 0, 1) := by decide +kernel
theorem d1_1 : decode jdk_33_method_22_code 1 = .ok (.bipush (-128), 2) := by decide +kernel
theorem d1_3 : decode jdk_33_method_22_code 3 = .ok (.if_icmp .lt 20, 3) := by decide +kernel
theorem d1_6 : decode jdk_33_method_22_code 6 = .ok (.iload_n 0, 1) := by decide +kernel
theorem d1_7 : decode jdk_33_method_22_code 7 = .ok (.getstatic 191, 3) := by decide +kernel
theorem d1_10 : decode jdk_33_method_22_code 10 = .ok (.if_icmp .gt 13, 3) := by decide +kernel
theorem d1_13 : decode jdk_33_method_22_code 13 = .ok (.getstatic 195, 3) := by decide +kernel
theorem d1_16 : decode jdk_33_method_22_code 16 = .ok (.iload_n 0, 1) := by decide +kernel
theorem d1_17 : decode jdk_33_method_22_code 17 = .ok (.sipush 128, 3) := by decide +kernel
theorem d1_20 : decode jdk_33_method_22_code 20 = .ok (.iadd, 1) := by decide +kernel
theorem d1_21 : decode jdk_33_method_22_code 21 = .ok (.aaload, 1) := by decide +kernel
theorem d1_22 : decode jdk_33_method_22_code 22 = .ok (.areturn, 1) := by decide +kernel
theorem d1_23 : decode jdk_33_method_22_code 23 = .ok (.new 1, 3) := by decide +kernel
theorem d1_26 : decode jdk_33_method_22_code 26 = .ok (.dup, 1) := by decide +kernel
theorem d1_27 : decode jdk_33_method_22_code 27 = .ok (.iload_n 0, 1) := by decide +kernel
theorem d1_28 : decode jdk_33_method_22_code 28 = .ok (.invokespecial 199, 3) := by decide +kernel
theorem d1_31 : decode jdk_33_method_22_code 31 = .ok (.areturn, 1) := by decide +kernel
theorem pn_1 : plainName "java/lang/Integer" = true := by first | (simp [plainName, overriddenIn]; done) | decide +kernel
theorem pd_1_0 : parseMethodDescriptor "(I)V" = some ⟨[.int], none⟩ := by decide +kernel
theorem ef_1 (m : MethodId) (x0 : Int32) : entryFrame m #[(.int x0)] 1 = mkF m 0 #[.val (.int x0)] [] := by first | (simp [entryFrame, mkF, argsToLocals, Value.category]; done) | rfl
def Q1 (Z : State) (p0 : Int32) (h0 : Heap) (n0 : Nat) (v : Option Value) (h : Heap) (L : List Loc) : Prop := ∃ r : Addr, v = some (.ref r) ∧ Fr n0 L ∧ Keep h0 h [] ∧ Exa Z h r "java/lang/Integer"
set_option maxRecDepth 65536 in
set_option maxHeartbeats 40000000 in
theorem rm1 (l : Launch) (Z : State) (ta : Array Value) (hw : ∀ d ∈ tables_1, d.before ta Z = true) (ws : List Jvm.Cond) (p0 : Int32) (ca : Addr) (cc : Cell) (vf : Int32 → Value) (h0 : Heap) (n0 : Nat) (Z0 : n0 ≤ h0.size) (O0 : Old Z n0 h0) (Sc : Sta Z Z.heap "java/lang/Integer$IntegerCache" "cache" "[Ljava/lang/Integer;" (.ref ca)) (Bx : Bxs Z ca cc "java/lang/Integer" "I" (256 : Int32) vf) (Sh : Sta Z Z.heap "java/lang/Integer$IntegerCache" "high" "I" (.int (127 : Int32))) :
    MetFree l (⟨"java/lang/Integer", "valueOf", "(I)Ljava/lang/Integer;"⟩ : MethodName) (head1 (Jvm.Cond.code (⟨"java/lang/Integer", "valueOf", "(I)Ljava/lang/Integer;"⟩ : MethodName) jdk_33_method_22_code 1 (some (.object "java/lang/Integer")) :: ws) ({ frames := 3, cells := 1, slots := 1, locals := 38 } : Room)) (fun a U => a = #[(.int p0)] ∧ Z.Warmed39 U.vm ∧ U.heap = h0) (fun _ _ _ _ _ => True) (fun _ U o U' => ∃ v L, o = .returned v ∧ Q1 Z p0 h0 n0 v U'.heap L ∧ FrameEnd U o U' L ({ frames := 3, cells := 1, slots := 1, locals := 38 } : Room).cells ({ frames := 3, cells := 1, slots := 1, locals := 38 } : Room).slots) := by
  refine MetFree.of_bodySF (plainFor_of_name pn_1) hisR ?_
  intro p e s m args below meth c s₁ Bd hml0 hP hK
  obtain ⟨rfl, hZ, hh⟩ := hP
  have hx := Bd.exec
  have hby := Bd.bytes
  have hml : c.maxLocals = 1 := hml0
  have hown : s.vm.findClass "java/lang/Integer" = some m.cls := findClass_of_methodNamed Bd.named
  have hnm := (name_of_methodNamed Bd.named Bd.method).1
  have X0 : Stand p l e ({ frames := 3, cells := 1, slots := 1, locals := 38 } : Room) s m #[(.int p0)] below meth c s₁ [] 0 0 := Stand.of_body Bd
  have e0 : s₁.heap = h0 := by rw [← hh, Bd.state]; rfl
  have N0 := Fr.nil n0
  refine own_go (B := (s₁.setTop (mkF m 0 #[.val (.int p0)] []))) (fun t k => castTop (ef_1 m p0) k) ?_
  refine own_go (B := (s₁.setTop (mkF m 1 #[.val (.int p0)] [(.int p0)]))) (fun t k => XS.iloadN X0.here hx rfl (hb hby d1_0) rfl k) ?_
  refine own_go (B := (s₁.setTop (mkF m 3 #[.val (.int p0)] [(.int (-128 : Int32)), (.int p0)]))) (fun t k => XS.bipush X0.here hx rfl (hb hby d1_1) k) ?_
  by_cases hc3 : p0 < (-128 : Int32)
  · refine own_go (B := (s₁.setTop (mkF m 23 #[.val (.int p0)] []))) (fun t k => XS.icmpYes X0.here hx rfl (pc0 := 3) (pc' := 23) rfl (hb hby d1_3) rfl (tlt hc3).1 (by decide) (by decide) k) ?_
    obtain ⟨T1, h1, X1, e1, E1, A1, D1, -, st1⟩ := newO X0 hx hZ hown (hw _ (List.mem_of_getElem? (i := 61) rfl)) (hw _ (List.mem_of_getElem? (i := 62) rfl)) (hw _ (List.mem_of_getElem? (i := 6) rfl)) e0 (g := (mkF m 23 #[.val (.int p0)] [])) rfl (hb hby d1_23) (by decide) (by decide)
    obtain ⟨b1, g1⟩ : ∃ z, z = h0.size := ⟨_, rfl⟩
    rw [← g1] at A1 D1 st1
    have g_b1 : n0 ≤ b1 := Nat.le_trans Z0 (Nat.le_of_eq g1.symm)
    have sz_b1 : h0.size ≤ b1 := Nat.le_trans (Keep.refl h0 []).1 (Nat.le_of_eq g1.symm)
    have K1 : Keep h0 h1 [] := (Keep.refl h0 []).ext E1
    have Zs1 : n0 ≤ h1.size := Nat.le_trans Z0 E1.1
    have O1 := O0.ext E1
    have F_value_b1 : Fld Z h1 b1 "java/lang/Integer" "value" "I" (.int (0 : Int32)) := D1 (Or.inr (hw _ (List.mem_of_getElem? (i := 75) rfl))) (ty := .int) (by decide)
    refine own_go (B := (T1.setTop (mkF m 26 #[.val (.int p0)] [(.ref b1)]))) (fun t k => st1 _ k) ?_
    refine own_go (B := (T1.setTop (mkF m 27 #[.val (.int p0)] [(.ref b1), (.ref b1)]))) (fun t k => XS.dup X1.here hx rfl (hb hby d1_26) rfl rfl k) ?_
    refine own_go (B := (T1.setTop (mkF m 28 #[.val (.int p0)] [(.int p0), (.ref b1), (.ref b1)]))) (fun t k => XS.iloadN X1.here hx rfl (hb hby d1_27) rfl k) ?_
    obtain ⟨_, _, ⟨T2, L2, k2, n2⟩, -, X2, ⟨Lc2, hQ2, l2, y2, z2⟩, st2⟩ := X1.specialBack hx (y := (⟨"java/lang/Integer", "<init>", "(I)V"⟩ : MethodName)) rfl hown (mvT hZ (hw _ (List.mem_of_getElem? (i := 63) rfl))) (mvT hZ (hw _ (List.mem_of_getElem? (i := 64) rfl))) (mvT hZ (hw _ (List.mem_of_getElem? (i := 66) rfl))) (by decide) (backOf (W := 1) (rm8 l Z ta hw [] b1 p0  h1 n0 Zs1 A1 F_value_b1 g_b1) hZ (hw _ (List.mem_of_getElem? (i := 66) rfl)) (hw _ (List.mem_of_getElem? (i := 6) rfl)) (by decide) (by decide)) (g := (mkF m 28 #[.val (.int p0)] [(.int p0), (.ref b1), (.ref b1)])) rfl (by rw [hml]; rfl) (Steps.refl _) (a := b1) (argsL := [(.int p0)]) (rest := [(.ref b1)]) (lenOf pd_1_0 rfl) rfl (by show 2 * 0 + _ ≤ _; exact Nat.le_of_eq rfl) (hb hby d1_28) (fun _ _ => ⟨rfl, e1, (by decide : (0 + 1) + 0 ≤ _), (by decide : (0 + 1) + 0 ≤ _)⟩)
    dsimp only [Pt.U, Pt.locs, Pt.cells, Pt.slots] at X2 l2 y2 z2 st2 hQ2
    subst l2 y2 z2
    obtain ⟨rfl, N2q, K2, Fq2_0⟩ := hQ2
    have E_b1_2 := A1.keep K2
    have Zs2 : n0 ≤ T2.heap.size := Nat.le_trans Zs1 K2.1
    have O2 := O1.keep K2 (allS g_b1 all0)
    have Kk2 : Keep h0 T2.heap [] := K1.trans K2 (allS (Or.inr sz_b1) all0)
    have N2 := Fr.app N0 N2q
    refine own_go (B := (T2.setTop (mkF m 31 #[.val (.int p0)] [(.ref b1)]))) (fun t k => st2.trans k) ?_
    obtain ⟨fs, hr, hrun, hended, hW, hsame⟩ := X2.leave (v := some (.ref b1)) (fun h => by rw [Bd.returns] at h; cases h)
    exact ⟨_, _, X2.areturnOut hx rfl Bd.returns rfl (hb hby d1_31) hr, hrun, hended, _, _, rfl, (by show Q1 Z p0 h0 n0 _ T2.heap _; exact ⟨b1, rfl, N2, Kk2, E_b1_2⟩), ⟨_, rfl⟩, hW, hsame.mono (by decide) (by decide)⟩
  · refine own_go (B := (s₁.setTop (mkF m 6 #[.val (.int p0)] []))) (fun t k => XS.icmpNo X0.here hx rfl (hb hby d1_3) rfl (flt hc3).1 k) ?_
    refine own_go (B := (s₁.setTop (mkF m 7 #[.val (.int p0)] [(.int p0)]))) (fun t k => XS.iloadN X0.here hx rfl (hb hby d1_6) rfl k) ?_
    obtain ⟨T3, X3, e3, st3⟩ := getS2 X0 hx hZ hown (host := "") (Or.inl (hw _ (List.mem_of_getElem? (i := 8) rfl))) Via.refl e0 (Sh.ext O0.2) (g := (mkF m 7 #[.val (.int p0)] [(.int p0)])) rfl (hb hby d1_7)
    refine own_go (B := (T3.setTop (mkF m 10 #[.val (.int p0)] [(.int (127 : Int32)), (.int p0)]))) (fun t k => st3 _ k) ?_
    by_cases hc10 : (127 : Int32) < p0
    · refine own_go (B := (T3.setTop (mkF m 23 #[.val (.int p0)] []))) (fun t k => XS.icmpYes X3.here hx rfl (pc0 := 10) (pc' := 23) rfl (hb hby d1_10) rfl (tlt hc10).2.2.1 (by decide) (by decide) k) ?_
      obtain ⟨T4, h4, X4, e4, E4, A4, D4, -, st4⟩ := newO X3 hx hZ hown (hw _ (List.mem_of_getElem? (i := 61) rfl)) (hw _ (List.mem_of_getElem? (i := 62) rfl)) (hw _ (List.mem_of_getElem? (i := 6) rfl)) e3 (g := (mkF m 23 #[.val (.int p0)] [])) rfl (hb hby d1_23) (by decide) (by decide)
      obtain ⟨b4, g4⟩ : ∃ z, z = h0.size := ⟨_, rfl⟩
      rw [← g4] at A4 D4 st4
      have g_b4 : n0 ≤ b4 := Nat.le_trans Z0 (Nat.le_of_eq g4.symm)
      have sz_b4 : h0.size ≤ b4 := Nat.le_trans (Keep.refl h0 []).1 (Nat.le_of_eq g4.symm)
      have K4 : Keep h0 h4 [] := (Keep.refl h0 []).ext E4
      have Zs4 : n0 ≤ h4.size := Nat.le_trans Z0 E4.1
      have O4 := O0.ext E4
      have F_value_b4 : Fld Z h4 b4 "java/lang/Integer" "value" "I" (.int (0 : Int32)) := D4 (Or.inr (hw _ (List.mem_of_getElem? (i := 75) rfl))) (ty := .int) (by decide)
      refine own_go (B := (T4.setTop (mkF m 26 #[.val (.int p0)] [(.ref b4)]))) (fun t k => st4 _ k) ?_
      refine own_go (B := (T4.setTop (mkF m 27 #[.val (.int p0)] [(.ref b4), (.ref b4)]))) (fun t k => XS.dup X4.here hx rfl (hb hby d1_26) rfl rfl k) ?_
      refine own_go (B := (T4.setTop (mkF m 28 #[.val (.int p0)] [(.int p0), (.ref b4), (.ref b4)]))) (fun t k => XS.iloadN X4.here hx rfl (hb hby d1_27) rfl k) ?_
      obtain ⟨_, _, ⟨T5, L5, k5, n5⟩, -, X5, ⟨Lc5, hQ5, l5, y5, z5⟩, st5⟩ := X4.specialBack hx (y := (⟨"java/lang/Integer", "<init>", "(I)V"⟩ : MethodName)) rfl hown (mvT hZ (hw _ (List.mem_of_getElem? (i := 63) rfl))) (mvT hZ (hw _ (List.mem_of_getElem? (i := 64) rfl))) (mvT hZ (hw _ (List.mem_of_getElem? (i := 66) rfl))) (by decide) (backOf (W := 1) (rm8 l Z ta hw [] b4 p0  h4 n0 Zs4 A4 F_value_b4 g_b4) hZ (hw _ (List.mem_of_getElem? (i := 66) rfl)) (hw _ (List.mem_of_getElem? (i := 6) rfl)) (by decide) (by decide)) (g := (mkF m 28 #[.val (.int p0)] [(.int p0), (.ref b4), (.ref b4)])) rfl (by rw [hml]; rfl) (Steps.refl _) (a := b4) (argsL := [(.int p0)]) (rest := [(.ref b4)]) (lenOf pd_1_0 rfl) rfl (by show 2 * 0 + _ ≤ _; exact Nat.le_of_eq rfl) (hb hby d1_28) (fun _ _ => ⟨rfl, e4, (by decide : (0 + 1) + 0 ≤ _), (by decide : (0 + 1) + 0 ≤ _)⟩)
      dsimp only [Pt.U, Pt.locs, Pt.cells, Pt.slots] at X5 l5 y5 z5 st5 hQ5
      subst l5 y5 z5
      obtain ⟨rfl, N5q, K5, Fq5_0⟩ := hQ5
      have E_b4_5 := A4.keep K5
      have Zs5 : n0 ≤ T5.heap.size := Nat.le_trans Zs4 K5.1
      have O5 := O4.keep K5 (allS g_b4 all0)
      have Kk5 : Keep h0 T5.heap [] := K4.trans K5 (allS (Or.inr sz_b4) all0)
      have N5 := Fr.app N0 N5q
      refine own_go (B := (T5.setTop (mkF m 31 #[.val (.int p0)] [(.ref b4)]))) (fun t k => st5.trans k) ?_
      obtain ⟨fs, hr, hrun, hended, hW, hsame⟩ := X5.leave (v := some (.ref b4)) (fun h => by rw [Bd.returns] at h; cases h)
      exact ⟨_, _, X5.areturnOut hx rfl Bd.returns rfl (hb hby d1_31) hr, hrun, hended, _, _, rfl, (by show Q1 Z p0 h0 n0 _ T5.heap _; exact ⟨b4, rfl, N5, Kk5, E_b4_5⟩), ⟨_, rfl⟩, hW, hsame.mono (by decide) (by decide)⟩
    · refine own_go (B := (T3.setTop (mkF m 13 #[.val (.int p0)] []))) (fun t k => XS.icmpNo X3.here hx rfl (hb hby d1_10) rfl (flt hc10).2.2.1 k) ?_
      obtain ⟨T6, X6, e6, st6⟩ := getS2 X3 hx hZ hown (host := "") (Or.inl (hw _ (List.mem_of_getElem? (i := 10) rfl))) Via.refl e3 (Sc.ext O0.2) (g := (mkF m 13 #[.val (.int p0)] [])) rfl (hb hby d1_13)
      refine own_go (B := (T6.setTop (mkF m 16 #[.val (.int p0)] [(.ref ca)]))) (fun t k => st6 _ k) ?_
      refine own_go (B := (T6.setTop (mkF m 17 #[.val (.int p0)] [(.int p0), (.ref ca)]))) (fun t k => XS.iloadN X6.here hx rfl (hb hby d1_16) rfl k) ?_
      refine own_go (B := (T6.setTop (mkF m 20 #[.val (.int p0)] [(.int (128 : Int32)), (.int p0), (.ref ca)]))) (fun t k => XS.sipush X6.here hx rfl (hb hby d1_17) k) ?_
      refine own_go (B := (T6.setTop (mkF m 21 #[.val (.int p0)] [(.int (p0 + (128 : Int32))), (.ref ca)]))) (fun t k => XS.iadd X6.here hx rfl (hb hby d1_20) rfl k) ?_
      have hin : ¬ ((p0 + (128 : Int32)) < 0 ∨ cc.slots.size ≤ ((p0 + (128 : Int32))).toNatClampNeg) := own_place Bx.2.1 (own_inI hc3 hc10)
      obtain ⟨bx, hat, Ebx, Fbx⟩ := Bx.2.2.2 (p0 + (128 : Int32)) hin
      have Abx := Bx.1.ext O0.2
      refine own_go (B := (T6.setTop (mkF m 22 #[.val (.int p0)] [(.ref bx)]))) (fun t k => X6.aaload hx (j := (p0 + (128 : Int32))) (v := .ref bx) (by rw [e6]; exact Abx.1) (State.isArrayOf_alike hZ.alike Abx.2.1) rfl Abx.2.2 hin hat (g := (mkF m 21 #[.val (.int p0)] [(.int (p0 + (128 : Int32))), (.ref ca)])) rfl rfl (hb hby d1_21) _ k) ?_
      obtain ⟨fs, hr, hrun, hended, hW, hsame⟩ := X6.leave (v := some (.ref bx)) (fun h => by rw [Bd.returns] at h; cases h)
      exact ⟨_, _, X6.areturnOut hx rfl Bd.returns rfl (hb hby d1_22) hr, hrun, hended, _, _, rfl, (by show Q1 Z p0 h0 n0 _ T6.heap _; rw [e6]; exact ⟨bx, rfl, N0, (Keep.refl h0 []), (Ebx.ext O0.2)⟩), ⟨_, rfl⟩, hW, hsame.mono (by decide) (by decide)⟩
theorem d5_0 : decode jdk_31_method_11_code 0 = .ok (.aload_n 0, 1) := by decide +kernel
theorem d5_1 : decode jdk_31_method_11_code 1 = .ok (.ifnonnull 12, 3) := by decide +kernel
theorem d5_13 : decode jdk_31_method_11_code 13 = .ok (.aload_n 0, 1) := by decide +kernel
theorem d5_14 : decode jdk_31_method_11_code 14 = .ok (.areturn, 1) := by decide +kernel
theorem pn_5 : plainName "java/util/Objects" = true := by first | (simp [plainName, overriddenIn]; done) | decide +kernel
theorem ef_5 (m : MethodId) (x0 : Addr) (x1 : Addr) : entryFrame m #[(.ref x0), (.ref x1)] 2 = mkF m 0 #[.val (.ref x0), .val (.ref x1)] [] := by first | (simp [entryFrame, mkF, argsToLocals, Value.category]; done) | rfl
def F5 (a0 : Addr) (a1 : Addr)  : Addr := a0
def Q5 (Z : State) (a0 : Addr) (a1 : Addr)  (h0 : Heap) (n0 : Nat) (v : Option Value) (h : Heap) (L : List Loc) : Prop := v = some (.ref (F5 a0 a1)) ∧ Fr n0 L ∧ h = h0
set_option maxRecDepth 65536 in
set_option maxHeartbeats 40000000 in
theorem rm5 (l : Launch) (Z : State) (ta : Array Value) (hw : ∀ d ∈ tables_1, d.before ta Z = true) (ws : List Jvm.Cond) (a0 : Addr) (a1 : Addr)  (h0 : Heap) (n0 : Nat)  :
    MetFree l (⟨"java/util/Objects", "requireNonNull", "(Ljava/lang/Object;Ljava/lang/String;)Ljava/lang/Object;"⟩ : MethodName) (head1 (Jvm.Cond.code (⟨"java/util/Objects", "requireNonNull", "(Ljava/lang/Object;Ljava/lang/String;)Ljava/lang/Object;"⟩ : MethodName) jdk_31_method_11_code 2 (some (.object "java/lang/Object")) :: ws) ({ frames := 0, cells := 0, slots := 0, locals := 0 } : Room)) (fun a U => a = #[(.ref a0), (.ref a1)] ∧ Z.Warmed39 U.vm ∧ U.heap = h0) (fun _ _ _ _ _ => True) (fun _ U o U' => ∃ v L, o = .returned v ∧ Q5 Z a0 a1  h0 n0 v U'.heap L ∧ FrameEnd U o U' L ({ frames := 0, cells := 0, slots := 0, locals := 0 } : Room).cells ({ frames := 0, cells := 0, slots := 0, locals := 0 } : Room).slots) := by
  refine MetFree.of_bodySF (plainFor_of_name pn_5) hisR ?_
  intro p e s m args below meth c s₁ Bd hml0 hP hK
  obtain ⟨rfl, hZ, hh⟩ := hP
  have hx := Bd.exec
  have hby := Bd.bytes
  have hml : c.maxLocals = 2 := hml0
  have hown : s.vm.findClass "java/util/Objects" = some m.cls := findClass_of_methodNamed Bd.named
  have hnm := (name_of_methodNamed Bd.named Bd.method).1
  have X0 : Stand p l e ({ frames := 0, cells := 0, slots := 0, locals := 0 } : Room) s m #[(.ref a0), (.ref a1)] below meth c s₁ [] 0 0 := Stand.of_body Bd
  have e0 : s₁.heap = h0 := by rw [← hh, Bd.state]; rfl
  have N0 := Fr.nil n0
  refine own_go (B := (s₁.setTop (mkF m 0 #[.val (.ref a0), .val (.ref a1)] []))) (fun t k => castTop (ef_5 m a0 a1) k) ?_
  refine own_go (B := (s₁.setTop (mkF m 1 #[.val (.ref a0), .val (.ref a1)] [(.ref a0)]))) (fun t k => XS.aloadN X0.here hx rfl (hb hby d5_0) rfl rfl k) ?_
  refine own_go (B := (s₁.setTop (mkF m 13 #[.val (.ref a0), .val (.ref a1)] []))) (fun t k => XS.ifnonnullYes X0.here hx rfl (pc0 := 1) (pc' := 13) rfl (hb hby d5_1) rfl (by decide) (by decide) k) ?_
  refine own_go (B := (s₁.setTop (mkF m 14 #[.val (.ref a0), .val (.ref a1)] [(.ref a0)]))) (fun t k => XS.aloadN X0.here hx rfl (hb hby d5_13) rfl rfl k) ?_
  obtain ⟨fs, hr, hrun, hended, hW, hsame⟩ := X0.leave (v := some (.ref a0)) (fun h => by rw [Bd.returns] at h; cases h)
  exact ⟨_, _, X0.areturnOut hx rfl Bd.returns rfl (hb hby d5_14) hr, hrun, hended, _, _, rfl, ⟨congrArg (fun z => some (Value.ref z)) (by rfl), N0, e0⟩, ⟨_, rfl⟩, hW, hsame.mono (by decide) (by decide)⟩
theorem d2_0 : decode prog_18_method_1_code 0 = .ok (.aload_n 0, 1) := by decide +kernel
theorem d2_1 : decode prog_18_method_1_code 1 = .ok (.invokespecial 1, 3) := by decide +kernel
theorem d2_4 : decode prog_18_method_1_code 4 = .ok (.aload_n 1, 1) := by decide +kernel
theorem d2_5 : decode prog_18_method_1_code 5 = .ok (.ldc 7, 2) := by decide +kernel
theorem d2_7 : decode prog_18_method_1_code 7 = .ok (.invokestatic 9, 3) := by decide +kernel
theorem d2_10 : decode prog_18_method_1_code 10 = .ok (.pop, 1) := by decide +kernel
theorem d2_11 : decode prog_18_method_1_code 11 = .ok (.aload_n 2, 1) := by decide +kernel
theorem d2_12 : decode prog_18_method_1_code 12 = .ok (.ldc 15, 2) := by decide +kernel
theorem d2_14 : decode prog_18_method_1_code 14 = .ok (.invokestatic 9, 3) := by decide +kernel
theorem d2_17 : decode prog_18_method_1_code 17 = .ok (.pop, 1) := by decide +kernel
theorem d2_18 : decode prog_18_method_1_code 18 = .ok (.aload_n 0, 1) := by decide +kernel
theorem d2_19 : decode prog_18_method_1_code 19 = .ok (.aload_n 1, 1) := by decide +kernel
theorem d2_20 : decode prog_18_method_1_code 20 = .ok (.putfield 17, 3) := by decide +kernel
theorem d2_23 : decode prog_18_method_1_code 23 = .ok (.aload_n 0, 1) := by decide +kernel
theorem d2_24 : decode prog_18_method_1_code 24 = .ok (.aload_n 2, 1) := by decide +kernel
theorem d2_25 : decode prog_18_method_1_code 25 = .ok (.putfield 22, 3) := by decide +kernel
theorem d2_28 : decode prog_18_method_1_code 28 = .ok (.return_, 1) := by decide +kernel
theorem pn_2 : plainName "com/example/tickwright/tickwright/dispatch/Dispatcher$Task" = true := by first | (simp [plainName, overriddenIn]; done) | decide +kernel
theorem pd_2_0 : parseMethodDescriptor "()V" = some ⟨[], none⟩ := by decide +kernel
theorem pd_2_1 : parseMethodDescriptor "(Ljava/lang/Object;Ljava/lang/String;)Ljava/lang/Object;" = some ⟨[(.object "java/lang/Object"), (.object "java/lang/String")], some (.object "java/lang/Object")⟩ := by decide +kernel
theorem ef_2 (m : MethodId) (x0 : Addr) (x1 : Addr) (x2 : Addr) : entryFrame m #[(.ref x0), (.ref x1), (.ref x2)] 3 = mkF m 0 #[.val (.ref x0), .val (.ref x1), .val (.ref x2)] [] := by first | (simp [entryFrame, mkF, argsToLocals, Value.category]; done) | rfl
def Q2 (Z : State) (a0 : Addr) (a1 : Addr) (a2 : Addr) (h0 : Heap) (n0 : Nat) (v : Option Value) (h : Heap) (L : List Loc) : Prop := v = none ∧ Fr n0 L ∧ Keep h0 h [a0]
set_option maxRecDepth 65536 in
set_option maxHeartbeats 40000000 in
theorem rm2 (l : Launch) (Z : State) (ta : Array Value) (hw : ∀ d ∈ tables_1, d.before ta Z = true) (ws : List Jvm.Cond) (a0 : Addr) (a1 : Addr) (a2 : Addr)  (h0 : Heap) (n0 : Nat) (Z0 : n0 ≤ h0.size) (E_a0 : Exa Z h0 a0 "com/example/tickwright/tickwright/dispatch/Dispatcher$Task") (F_id : Fld Z h0 a0 "com/example/tickwright/tickwright/dispatch/Dispatcher$Task" "id" "Ljava/lang/Object;" .null) (F_payload : Fld Z h0 a0 "com/example/tickwright/tickwright/dispatch/Dispatcher$Task" "payload" "Ljava/lang/Object;" .null) (g_a0 : n0 ≤ a0) :
    MetFree l (⟨"com/example/tickwright/tickwright/dispatch/Dispatcher$Task", "<init>", "(Ljava/lang/Object;Ljava/lang/Object;)V"⟩ : MethodName) (head1 (Jvm.Cond.code (⟨"com/example/tickwright/tickwright/dispatch/Dispatcher$Task", "<init>", "(Ljava/lang/Object;Ljava/lang/Object;)V"⟩ : MethodName) prog_18_method_1_code 3 none :: ws) ({ frames := 2, cells := 4, slots := 44, locals := 24 } : Room)) (fun a U => a = #[(.ref a0), (.ref a1), (.ref a2)] ∧ Z.Warmed39 U.vm ∧ U.heap = h0) (fun _ _ _ _ _ => True) (fun _ U o U' => ∃ v L, o = .returned v ∧ Q2 Z a0 a1 a2  h0 n0 v U'.heap L ∧ ReturnedEndW U o U' L ({ frames := 2, cells := 4, slots := 44, locals := 24 } : Room).cells ({ frames := 2, cells := 4, slots := 44, locals := 24 } : Room).slots) := by
  refine MetFree.of_bodySF (plainFor_of_name pn_2) hisR ?_
  intro p e s m args below meth c s₁ Bd hml0 hP hK
  obtain ⟨rfl, hZ, hh⟩ := hP
  have hx := Bd.exec
  have hby := Bd.bytes
  have hml : c.maxLocals = 3 := hml0
  have hown : s.vm.findClass "com/example/tickwright/tickwright/dispatch/Dispatcher$Task" = some m.cls := findClass_of_methodNamed Bd.named
  have hnm := (name_of_methodNamed Bd.named Bd.method).1
  have X0 : Stand p l e ({ frames := 2, cells := 4, slots := 44, locals := 24 } : Room) (s.setVm s.vm) m #[(.ref a0), (.ref a1), (.ref a2)] below meth c s₁ [] 0 0 := Stand.of_body Bd
  have e0 : s₁.heap = h0 := by rw [← hh, Bd.state]; rfl
  have N0 := Fr.nil n0
  have hS0 : s.Since s.vm 0 := (State.WarmedH.refl s).since 0
  have wS := own_wS hw
  refine own_go (B := (s₁.setTop (mkF m 0 #[.val (.ref a0), .val (.ref a1), .val (.ref a2)] []))) (fun t k => castTop (ef_2 m a0 a1 a2) k) ?_
  refine own_go (B := (s₁.setTop (mkF m 1 #[.val (.ref a0), .val (.ref a1), .val (.ref a2)] [(.ref a0)]))) (fun t k => XS.aloadN X0.here hx rfl (hb hby d2_0) rfl rfl k) ?_
  obtain ⟨_, _, ⟨T1, L1, k1, n1⟩, -, X1, ⟨Lc1, hQ1, l1, y1, z1⟩, st1⟩ := X0.specialBack hx (y := (⟨"java/lang/Record", "<init>", "()V"⟩ : MethodName)) rfl hown (mvT hZ (hw _ (List.mem_of_getElem? (i := 14) rfl))) (mvT hZ (hw _ (List.mem_of_getElem? (i := 15) rfl))) (mvT hZ (hw _ (List.mem_of_getElem? (i := 18) rfl))) (by decide) (backOf (W := 0) (rm3 l Z ta hw [] a0  h0 n0 ) hZ (hw _ (List.mem_of_getElem? (i := 18) rfl)) (hw _ (List.mem_of_getElem? (i := 17) rfl)) (by decide) (by decide)) (g := (mkF m 1 #[.val (.ref a0), .val (.ref a1), .val (.ref a2)] [(.ref a0)])) rfl (by rw [hml]; rfl) (Steps.refl _) (a := a0) (argsL := []) (rest := []) (lenOf pd_2_0 rfl) rfl (by show 2 * 0 + _ ≤ _; exact Nat.le_of_eq rfl) (hb hby d2_1) (fun _ _ => ⟨rfl, e0, (by decide : 0 + 0 ≤ _), (by decide : 0 + 0 ≤ _)⟩)
  dsimp only [Pt.U, Pt.locs, Pt.cells, Pt.slots] at X1 l1 y1 z1 st1 hQ1
  subst l1 y1 z1
  obtain ⟨rfl, N1q, e1⟩ := hQ1
  replace e1 := e1
  have N1 := Fr.app N0 N1q
  refine own_go (B := (T1.setTop (mkF m 4 #[.val (.ref a0), .val (.ref a1), .val (.ref a2)] []))) (fun t k => st1.trans k) ?_
  refine own_go (B := (T1.setTop (mkF m 5 #[.val (.ref a0), .val (.ref a1), .val (.ref a2)] [(.ref a1)]))) (fun t k => XS.aloadN X1.here hx rfl (hb hby d2_4) rfl rfl k) ?_
  obtain ⟨ls2, T2, h2, k2, X2, e2, E2, hS2, hk2, hZ2, hown2, st2⟩ := ldcS X1 hx hZ hown (hw _ (List.mem_of_getElem? (i := 22) rfl)) wS e1 hS0 (Nat.zero_le _) (g := (mkF m 5 #[.val (.ref a0), .val (.ref a1), .val (.ref a2)] [(.ref a1)])) rfl (hb hby d2_5) (n := 8) (by decide) (by decide) (by decide) (by decide)
  have E_a0_2 := E_a0.ext E2
  have F_a0_id_2 := F_id.ext E2
  have F_a0_payload_2 := F_payload.ext E2
  have K2 : Keep h0 h2 [a0] := (Keep.refl h0 [a0]).ext E2
  have Zs2 : n0 ≤ h2.size := Nat.le_trans Z0 E2.1
  refine own_go (B := (T2.setTop (mkF m 7 #[.val (.ref a0), .val (.ref a1), .val (.ref a2)] [(.ref ls2), (.ref a1)]))) (fun t k => st2 _ k) ?_
  obtain ⟨_, _, ⟨T3, L3, k3, n3⟩, -, X3, ⟨Lc3, hQ3, l3, y3, z3⟩, st3⟩ := Jvm.LawKit.callS X2 hx (y := (⟨"java/util/Objects", "requireNonNull", "(Ljava/lang/Object;Ljava/lang/String;)Ljava/lang/Object;"⟩ : MethodName)) hown2 (mvT hZ2 (hw _ (List.mem_of_getElem? (i := 30) rfl))) (mvT hZ2 (hw _ (List.mem_of_getElem? (i := 31) rfl))) (mvT hZ2 (hw _ (List.mem_of_getElem? (i := 32) rfl))) (mvT hZ2 (hw _ (List.mem_of_getElem? (i := 33) rfl))) (by decide) (backOf (W := 0) (rm5 l Z ta hw [] a1 ls2  h2 n0 ) hZ2 (hw _ (List.mem_of_getElem? (i := 33) rfl)) (hw _ (List.mem_of_getElem? (i := 32) rfl)) (by decide) (by decide)) (g := (mkF m 7 #[.val (.ref a0), .val (.ref a1), .val (.ref a2)] [(.ref ls2), (.ref a1)])) rfl (by rw [hml]; rfl) (argsL := [(.ref a1), (.ref ls2)]) (rest := []) (lenOf pd_2_1 rfl) rfl (by show 2 * 0 + _ ≤ _; exact Nat.le_of_eq rfl) (hb hby d2_7) (fun _ _ => ⟨rfl, e2, (by decide : ((0 + 0) + 2) + 0 ≤ _), (by decide : ((0 + 0) + (8 + 4)) + 0 ≤ _)⟩)
  dsimp only [Pt.U, Pt.locs, Pt.cells, Pt.slots] at X3 l3 y3 z3 st3 hQ3
  subst l3 y3 z3
  obtain ⟨rfl, N3q, e3⟩ := hQ3
  replace e3 := e3
  have N3 := Fr.app N1 N3q
  refine own_go (B := (T3.setTop (mkF m 10 #[.val (.ref a0), .val (.ref a1), .val (.ref a2)] [(.ref (F5 a1 ls2))]))) (fun t k => st3 _ k) ?_
  refine own_go (B := (T3.setTop (mkF m 11 #[.val (.ref a0), .val (.ref a1), .val (.ref a2)] []))) (fun t k => XS.pop X3.here hx rfl (hb hby d2_10) rfl rfl k) ?_
  refine own_go (B := (T3.setTop (mkF m 12 #[.val (.ref a0), .val (.ref a1), .val (.ref a2)] [(.ref a2)]))) (fun t k => XS.aloadN X3.here hx rfl (hb hby d2_11) rfl rfl k) ?_
  obtain ⟨ls4, T4, h4, k4, X4, e4, E4, hS4, hk4, hZ4, hown4, st4⟩ := ldcS X3 hx hZ2 hown2 (hw _ (List.mem_of_getElem? (i := 34) rfl)) wS e3 hS2 hk2 (g := (mkF m 12 #[.val (.ref a0), .val (.ref a1), .val (.ref a2)] [(.ref a2)])) rfl (hb hby d2_12) (n := 28) (by decide) (by decide) (by decide) (by decide)
  have E_a0_4 := E_a0_2.ext E4
  have F_a0_id_4 := F_a0_id_2.ext E4
  have F_a0_payload_4 := F_a0_payload_2.ext E4
  have K4 : Keep h0 h4 [a0] := K2.ext E4
  have Zs4 : n0 ≤ h4.size := Nat.le_trans Zs2 E4.1
  refine own_go (B := (T4.setTop (mkF m 14 #[.val (.ref a0), .val (.ref a1), .val (.ref a2)] [(.ref ls4), (.ref a2)]))) (fun t k => st4 _ k) ?_
  obtain ⟨_, _, ⟨T5, L5, k5, n5⟩, -, X5, ⟨Lc5, hQ5, l5, y5, z5⟩, st5⟩ := Jvm.LawKit.callS X4 hx (y := (⟨"java/util/Objects", "requireNonNull", "(Ljava/lang/Object;Ljava/lang/String;)Ljava/lang/Object;"⟩ : MethodName)) hown4 (mvT hZ4 (hw _ (List.mem_of_getElem? (i := 30) rfl))) (mvT hZ4 (hw _ (List.mem_of_getElem? (i := 31) rfl))) (mvT hZ4 (hw _ (List.mem_of_getElem? (i := 32) rfl))) (mvT hZ4 (hw _ (List.mem_of_getElem? (i := 33) rfl))) (by decide) (backOf (W := 0) (rm5 l Z ta hw [] a2 ls4  h4 n0 ) hZ4 (hw _ (List.mem_of_getElem? (i := 33) rfl)) (hw _ (List.mem_of_getElem? (i := 32) rfl)) (by decide) (by decide)) (g := (mkF m 14 #[.val (.ref a0), .val (.ref a1), .val (.ref a2)] [(.ref ls4), (.ref a2)])) rfl (by rw [hml]; rfl) (argsL := [(.ref a2), (.ref ls4)]) (rest := []) (lenOf pd_2_1 rfl) rfl (by show 2 * 0 + _ ≤ _; exact Nat.le_of_eq rfl) (hb hby d2_14) (fun _ _ => ⟨rfl, e4, (by decide : ((((0 + 0) + 2) + 0) + 2) + 0 ≤ _), (by decide : ((((0 + 0) + (8 + 4)) + 0) + (28 + 4)) + 0 ≤ _)⟩)
  dsimp only [Pt.U, Pt.locs, Pt.cells, Pt.slots] at X5 l5 y5 z5 st5 hQ5
  subst l5 y5 z5
  obtain ⟨rfl, N5q, e5⟩ := hQ5
  replace e5 := e5
  have N5 := Fr.app N3 N5q
  refine own_go (B := (T5.setTop (mkF m 17 #[.val (.ref a0), .val (.ref a1), .val (.ref a2)] [(.ref (F5 a2 ls4))]))) (fun t k => st5 _ k) ?_
  refine own_go (B := (T5.setTop (mkF m 18 #[.val (.ref a0), .val (.ref a1), .val (.ref a2)] []))) (fun t k => XS.pop X5.here hx rfl (hb hby d2_17) rfl rfl k) ?_
  refine own_go (B := (T5.setTop (mkF m 19 #[.val (.ref a0), .val (.ref a1), .val (.ref a2)] [(.ref a0)]))) (fun t k => XS.aloadN X5.here hx rfl (hb hby d2_18) rfl rfl k) ?_
  refine own_go (B := (T5.setTop (mkF m 20 #[.val (.ref a0), .val (.ref a1), .val (.ref a2)] [(.ref a1), (.ref a0)]))) (fun t k => XS.aloadN X5.here hx rfl (hb hby d2_19) rfl rfl k) ?_
  obtain ⟨T6, h6, X6, e6, W6, st6⟩ := putF X5 hx hZ4 hown4 (host := "") (Or.inl (hw _ (List.mem_of_getElem? (i := 35) rfl))) Via.refl e5 F_a0_id_4 E_a0_4 (Or.inr ⟨(hw _ (List.mem_of_getElem? (i := 36) rfl)), rfl, hnm⟩) (hw _ (List.mem_of_getElem? (i := 2) rfl)) (ty := (.object "java/lang/Object")) (by decide) rfl rfl (g := (mkF m 20 #[.val (.ref a0), .val (.ref a1), .val (.ref a2)] [(.ref a1), (.ref a0)])) rfl rfl (hb hby d2_20)
  have E_a0_6 := E_a0_4.wr W6
  have F_a0_id_6 := F_a0_id_4.same W6
  have F_a0_payload_6 := F_a0_payload_4.other W6 (Or.inr (slot_ne (Or.inr (hw _ (List.mem_of_getElem? (i := 38) rfl))) (Or.inr (hw _ (List.mem_of_getElem? (i := 36) rfl))) (by decide) (t := (.object "java/lang/Object")) (t' := (.object "java/lang/Object")) (by decide) (by decide)))
  have K6 : Keep h0 h6 [a0] := K4.wr W6 (Or.inl (by simp))
  have Zs6 : n0 ≤ h6.size := Nat.le_trans Zs4 (Keep.of_wr W6).1
  have N6 := Fr.snoc X6 N5 g_a0
  have hk6 := Nat.le_trans hk4 (Keep.of_wr W6).1
  refine own_go (B := (T6.setTop (mkF m 23 #[.val (.ref a0), .val (.ref a1), .val (.ref a2)] []))) (fun t k => st6 _ k) ?_
  refine own_go (B := (T6.setTop (mkF m 24 #[.val (.ref a0), .val (.ref a1), .val (.ref a2)] [(.ref a0)]))) (fun t k => XS.aloadN X6.here hx rfl (hb hby d2_23) rfl rfl k) ?_
  refine own_go (B := (T6.setTop (mkF m 25 #[.val (.ref a0), .val (.ref a1), .val (.ref a2)] [(.ref a2), (.ref a0)]))) (fun t k => XS.aloadN X6.here hx rfl (hb hby d2_24) rfl rfl k) ?_
  obtain ⟨T7, h7, X7, e7, W7, st7⟩ := putF X6 hx hZ4 hown4 (host := "") (Or.inl (hw _ (List.mem_of_getElem? (i := 37) rfl))) Via.refl e6 F_a0_payload_6 E_a0_6 (Or.inr ⟨(hw _ (List.mem_of_getElem? (i := 38) rfl)), rfl, hnm⟩) (hw _ (List.mem_of_getElem? (i := 2) rfl)) (ty := (.object "java/lang/Object")) (by decide) rfl rfl (g := (mkF m 25 #[.val (.ref a0), .val (.ref a1), .val (.ref a2)] [(.ref a2), (.ref a0)])) rfl rfl (hb hby d2_25)
  have E_a0_7 := E_a0_6.wr W7
  have F_a0_id_7 := F_a0_id_6.other W7 (Or.inr (slot_ne (Or.inr (hw _ (List.mem_of_getElem? (i := 36) rfl))) (Or.inr (hw _ (List.mem_of_getElem? (i := 38) rfl))) (by decide) (t := (.object "java/lang/Object")) (t' := (.object "java/lang/Object")) (by decide) (by decide)))
  have F_a0_payload_7 := F_a0_payload_6.same W7
  have K7 : Keep h0 h7 [a0] := K6.wr W7 (Or.inl (by simp))
  have Zs7 : n0 ≤ h7.size := Nat.le_trans Zs6 (Keep.of_wr W7).1
  have N7 := Fr.snoc X7 N6 g_a0
  have hk7 := Nat.le_trans hk6 (Keep.of_wr W7).1
  refine own_go (B := (T7.setTop (mkF m 28 #[.val (.ref a0), .val (.ref a1), .val (.ref a2)] []))) (fun t k => st7 _ k) ?_
  obtain ⟨fs, hr, hrun, hended, hWd⟩ := X7.leaveW hS4 (show _ ≤ T7.heap.size by rw [e7]; exact hk7) (v := none) (fun _ => rfl)
  exact ⟨_, _, X7.returnOut hx Bd.returns (hb hby d2_28) hr, hrun, hended, _, _, rfl, (by show Q2 Z a0 a1 a2 h0 n0 _ T7.heap _; rw [e7]; exact ⟨rfl, N7, K7⟩), hWd.1, hWd.2.1, hWd.2.2.1, hWd.2.2.2.mono (by decide) (by decide)⟩
theorem d6_0 : decode prog_23_method_1_code 0 = .ok (.aload_n 0, 1) := by decide +kernel
theorem d6_1 : decode prog_23_method_1_code 1 = .ok (.invokespecial 1, 3) := by decide +kernel
theorem d6_4 : decode prog_23_method_1_code 4 = .ok (.aload_n 0, 1) := by decide +kernel
theorem d6_5 : decode prog_23_method_1_code 5 = .ok (.aload_n 1, 1) := by decide +kernel
theorem d6_6 : decode prog_23_method_1_code 6 = .ok (.putfield 7, 3) := by decide +kernel
theorem d6_9 : decode prog_23_method_1_code 9 = .ok (.aload_n 0, 1) := by decide +kernel
theorem d6_10 : decode prog_23_method_1_code 10 = .ok (.lload_n 2, 1) := by decide +kernel
theorem d6_11 : decode prog_23_method_1_code 11 = .ok (.putfield 13, 3) := by decide +kernel
theorem d6_14 : decode prog_23_method_1_code 14 = .ok (.aload_n 0, 1) := by decide +kernel
theorem d6_15 : decode prog_23_method_1_code 15 = .ok (.lload 4, 2) := by decide +kernel
theorem d6_17 : decode prog_23_method_1_code 17 = .ok (.putfield 17, 3) := by decide +kernel
theorem d6_20 : decode prog_23_method_1_code 20 = .ok (.aload_n 0, 1) := by decide +kernel
theorem d6_21 : decode prog_23_method_1_code 21 = .ok (.lload 6, 2) := by decide +kernel
theorem d6_23 : decode prog_23_method_1_code 23 = .ok (.putfield 20, 3) := by decide +kernel
theorem d6_26 : decode prog_23_method_1_code 26 = .ok (.aload_n 0, 1) := by decide +kernel
theorem d6_27 : decode prog_23_method_1_code 27 = .ok (.lload 8, 2) := by decide +kernel
theorem d6_29 : decode prog_23_method_1_code 29 = .ok (.putfield 23, 3) := by decide +kernel
theorem d6_32 : decode prog_23_method_1_code 32 = .ok (.return_, 1) := by decide +kernel
theorem pn_6 : plainName "com/example/tickwright/tickwright/dispatch/Pending" = true := by first | (simp [plainName, overriddenIn]; done) | decide +kernel
theorem pd_6_0 : parseMethodDescriptor "()V" = some ⟨[], none⟩ := by decide +kernel
theorem ef_6 (m : MethodId) (x0 : Addr) (x1 : Addr) (x2 : Int64) (x3 : Int64) (x4 : Int64) (x5 : Int64) : entryFrame m #[(.ref x0), (.ref x1), (.long x2), (.long x3), (.long x4), (.long x5)] 10 = mkF m 0 #[.val (.ref x0), .val (.ref x1), .val (.long x2), .second, .val (.long x3), .second, .val (.long x4), .second, .val (.long x5), .second] [] := by first | (simp [entryFrame, mkF, argsToLocals, Value.category]; done) | rfl
def Q6 (Z : State) (a0 : Addr) (a1 : Addr) (q2 : Int64) (q3 : Int64) (q4 : Int64) (q5 : Int64) (h0 : Heap) (n0 : Nat) (v : Option Value) (h : Heap) (L : List Loc) : Prop := v = none ∧ Fr n0 L ∧ Keep h0 h [a0] ∧ Fld Z h a0 "com/example/tickwright/tickwright/dispatch/Pending" "submittedAt" "J" (.long q4) ∧ Fld Z h a0 "com/example/tickwright/tickwright/dispatch/Pending" "timeToLiveNanos" "J" (.long q5)
set_option maxRecDepth 65536 in
set_option maxHeartbeats 40000000 in
theorem rm6 (l : Launch) (Z : State) (ta : Array Value) (hw : ∀ d ∈ tables_1, d.before ta Z = true) (ws : List Jvm.Cond) (a0 : Addr) (a1 : Addr) (q2 : Int64) (q3 : Int64) (q4 : Int64) (q5 : Int64)  (h0 : Heap) (n0 : Nat) (Z0 : n0 ≤ h0.size) (E_a0 : Exa Z h0 a0 "com/example/tickwright/tickwright/dispatch/Pending") (F_task : Fld Z h0 a0 "com/example/tickwright/tickwright/dispatch/Pending" "task" "Lcom/example/tickwright/tickwright/dispatch/Dispatcher$Task;" .null) (F_serial : Fld Z h0 a0 "com/example/tickwright/tickwright/dispatch/Pending" "serial" "J" (.long (0 : Int64))) (F_waitingSince : Fld Z h0 a0 "com/example/tickwright/tickwright/dispatch/Pending" "waitingSince" "J" (.long (0 : Int64))) (F_submittedAt : Fld Z h0 a0 "com/example/tickwright/tickwright/dispatch/Pending" "submittedAt" "J" (.long (0 : Int64))) (F_timeToLiveNanos : Fld Z h0 a0 "com/example/tickwright/tickwright/dispatch/Pending" "timeToLiveNanos" "J" (.long (0 : Int64))) (g_a0 : n0 ≤ a0) :
    MetFree l (⟨"com/example/tickwright/tickwright/dispatch/Pending", "<init>", "(Lcom/example/tickwright/tickwright/dispatch/Dispatcher$Task;JJJJ)V"⟩ : MethodName) (head1 (Jvm.Cond.code (⟨"com/example/tickwright/tickwright/dispatch/Pending", "<init>", "(Lcom/example/tickwright/tickwright/dispatch/Dispatcher$Task;JJJJ)V"⟩ : MethodName) prog_23_method_1_code 10 none :: ws) ({ frames := 2, cells := 0, slots := 0, locals := 24 } : Room)) (fun a U => a = #[(.ref a0), (.ref a1), (.long q2), (.long q3), (.long q4), (.long q5)] ∧ Z.Warmed39 U.vm ∧ U.heap = h0) (fun _ _ _ _ _ => True) (fun _ U o U' => ∃ v L, o = .returned v ∧ Q6 Z a0 a1 q2 q3 q4 q5  h0 n0 v U'.heap L ∧ FrameEnd U o U' L ({ frames := 2, cells := 0, slots := 0, locals := 24 } : Room).cells ({ frames := 2, cells := 0, slots := 0, locals := 24 } : Room).slots) := by
  refine MetFree.of_bodySF (plainFor_of_name pn_6) hisR ?_
  intro p e s m args below meth c s₁ Bd hml0 hP hK
  obtain ⟨rfl, hZ, hh⟩ := hP
  have hx := Bd.exec
  have hby := Bd.bytes
  have hml : c.maxLocals = 10 := hml0
  have hown : s.vm.findClass "com/example/tickwright/tickwright/dispatch/Pending" = some m.cls := findClass_of_methodNamed Bd.named
  have hnm := (name_of_methodNamed Bd.named Bd.method).1
  have X0 : Stand p l e ({ frames := 2, cells := 0, slots := 0, locals := 24 } : Room) s m #[(.ref a0), (.ref a1), (.long q2), (.long q3), (.long q4), (.long q5)] below meth c s₁ [] 0 0 := Stand.of_body Bd
  have e0 : s₁.heap = h0 := by rw [← hh, Bd.state]; rfl
  have N0 := Fr.nil n0
  refine own_go (B := (s₁.setTop (mkF m 0 #[.val (.ref a0), .val (.ref a1), .val (.long q2), .second, .val (.long q3), .second, .val (.long q4), .second, .val (.long q5), .second] []))) (fun t k => castTop (ef_6 m a0 a1 q2 q3 q4 q5) k) ?_
  refine own_go (B := (s₁.setTop (mkF m 1 #[.val (.ref a0), .val (.ref a1), .val (.long q2), .second, .val (.long q3), .second, .val (.long q4), .second, .val (.long q5), .second] [(.ref a0)]))) (fun t k => XS.aloadN X0.here hx rfl (hb hby d6_0) rfl rfl k) ?_
  obtain ⟨_, _, ⟨T1, L1, k1, n1⟩, -, X1, ⟨Lc1, hQ1, l1, y1, z1⟩, st1⟩ := X0.specialBack hx (y := (⟨"java/lang/Record", "<init>", "()V"⟩ : MethodName)) rfl hown (mvT hZ (hw _ (List.mem_of_getElem? (i := 45) rfl))) (mvT hZ (hw _ (List.mem_of_getElem? (i := 15) rfl))) (mvT hZ (hw _ (List.mem_of_getElem? (i := 18) rfl))) (by decide) (backOf (W := 0) (rm3 l Z ta hw [] a0  h0 n0 ) hZ (hw _ (List.mem_of_getElem? (i := 18) rfl)) (hw _ (List.mem_of_getElem? (i := 17) rfl)) (by decide) (by decide)) (g := (mkF m 1 #[.val (.ref a0), .val (.ref a1), .val (.long q2), .second, .val (.long q3), .second, .val (.long q4), .second, .val (.long q5), .second] [(.ref a0)])) rfl (by rw [hml]; rfl) (Steps.refl _) (a := a0) (argsL := []) (rest := []) (lenOf pd_6_0 rfl) rfl (by show 2 * 0 + _ ≤ _; exact Nat.le_of_eq rfl) (hb hby d6_1) (fun _ _ => ⟨rfl, e0, (by decide : 0 + 0 ≤ _), (by decide : 0 + 0 ≤ _)⟩)
  dsimp only [Pt.U, Pt.locs, Pt.cells, Pt.slots] at X1 l1 y1 z1 st1 hQ1
  subst l1 y1 z1
  obtain ⟨rfl, N1q, e1⟩ := hQ1
  replace e1 := e1
  have N1 := Fr.app N0 N1q
  refine own_go (B := (T1.setTop (mkF m 4 #[.val (.ref a0), .val (.ref a1), .val (.long q2), .second, .val (.long q3), .second, .val (.long q4), .second, .val (.long q5), .second] []))) (fun t k => st1.trans k) ?_
  refine own_go (B := (T1.setTop (mkF m 5 #[.val (.ref a0), .val (.ref a1), .val (.long q2), .second, .val (.long q3), .second, .val (.long q4), .second, .val (.long q5), .second] [(.ref a0)]))) (fun t k => XS.aloadN X1.here hx rfl (hb hby d6_4) rfl rfl k) ?_
  refine own_go (B := (T1.setTop (mkF m 6 #[.val (.ref a0), .val (.ref a1), .val (.long q2), .second, .val (.long q3), .second, .val (.long q4), .second, .val (.long q5), .second] [(.ref a1), (.ref a0)]))) (fun t k => XS.aloadN X1.here hx rfl (hb hby d6_5) rfl rfl k) ?_
  obtain ⟨T2, h2, X2, e2, W2, st2⟩ := putF X1 hx hZ hown (host := "") (Or.inl (hw _ (List.mem_of_getElem? (i := 46) rfl))) Via.refl e1 F_task E_a0 (Or.inr ⟨(hw _ (List.mem_of_getElem? (i := 47) rfl)), rfl, hnm⟩) (hw _ (List.mem_of_getElem? (i := 40) rfl)) (ty := (.object "com/example/tickwright/tickwright/dispatch/Dispatcher$Task")) (by decide) rfl rfl (g := (mkF m 6 #[.val (.ref a0), .val (.ref a1), .val (.long q2), .second, .val (.long q3), .second, .val (.long q4), .second, .val (.long q5), .second] [(.ref a1), (.ref a0)])) rfl rfl (hb hby d6_6)
  have E_a0_2 := E_a0.wr W2
  have F_a0_task_2 := F_task.same W2
  have F_a0_serial_2 := F_serial.other W2 (Or.inr (slot_ne (Or.inr (hw _ (List.mem_of_getElem? (i := 49) rfl))) (Or.inr (hw _ (List.mem_of_getElem? (i := 47) rfl))) (by decide) (t := .long) (t' := (.object "com/example/tickwright/tickwright/dispatch/Dispatcher$Task")) (by decide) (by decide)))
  have F_a0_waitingSince_2 := F_waitingSince.other W2 (Or.inr (slot_ne (Or.inr (hw _ (List.mem_of_getElem? (i := 51) rfl))) (Or.inr (hw _ (List.mem_of_getElem? (i := 47) rfl))) (by decide) (t := .long) (t' := (.object "com/example/tickwright/tickwright/dispatch/Dispatcher$Task")) (by decide) (by decide)))
  have F_a0_submittedAt_2 := F_submittedAt.other W2 (Or.inr (slot_ne (Or.inr (hw _ (List.mem_of_getElem? (i := 53) rfl))) (Or.inr (hw _ (List.mem_of_getElem? (i := 47) rfl))) (by decide) (t := .long) (t' := (.object "com/example/tickwright/tickwright/dispatch/Dispatcher$Task")) (by decide) (by decide)))
  have F_a0_timeToLiveNanos_2 := F_timeToLiveNanos.other W2 (Or.inr (slot_ne (Or.inr (hw _ (List.mem_of_getElem? (i := 55) rfl))) (Or.inr (hw _ (List.mem_of_getElem? (i := 47) rfl))) (by decide) (t := .long) (t' := (.object "com/example/tickwright/tickwright/dispatch/Dispatcher$Task")) (by decide) (by decide)))
  have K2 : Keep h0 h2 [a0] := (Keep.refl h0 [a0]).wr W2 (Or.inl (by simp))
  have Zs2 : n0 ≤ h2.size := Nat.le_trans Z0 (Keep.of_wr W2).1
  have N2 := Fr.snoc X2 N1 g_a0
  refine own_go (B := (T2.setTop (mkF m 9 #[.val (.ref a0), .val (.ref a1), .val (.long q2), .second, .val (.long q3), .second, .val (.long q4), .second, .val (.long q5), .second] []))) (fun t k => st2 _ k) ?_
  refine own_go (B := (T2.setTop (mkF m 10 #[.val (.ref a0), .val (.ref a1), .val (.long q2), .second, .val (.long q3), .second, .val (.long q4), .second, .val (.long q5), .second] [(.ref a0)]))) (fun t k => XS.aloadN X2.here hx rfl (hb hby d6_9) rfl rfl k) ?_
  refine own_go (B := (T2.setTop (mkF m 11 #[.val (.ref a0), .val (.ref a1), .val (.long q2), .second, .val (.long q3), .second, .val (.long q4), .second, .val (.long q5), .second] [(.long q2), (.ref a0)]))) (fun t k => XS.lloadN X2.here hx rfl (hb hby d6_10) rfl k) ?_
  obtain ⟨T3, h3, X3, e3, W3, st3⟩ := putF X2 hx hZ hown (host := "") (Or.inl (hw _ (List.mem_of_getElem? (i := 48) rfl))) Via.refl e2 F_a0_serial_2 E_a0_2 (Or.inr ⟨(hw _ (List.mem_of_getElem? (i := 49) rfl)), rfl, hnm⟩) (hw _ (List.mem_of_getElem? (i := 40) rfl)) (ty := .long) (by decide) rfl rfl (g := (mkF m 11 #[.val (.ref a0), .val (.ref a1), .val (.long q2), .second, .val (.long q3), .second, .val (.long q4), .second, .val (.long q5), .second] [(.long q2), (.ref a0)])) rfl rfl (hb hby d6_11)
  have E_a0_3 := E_a0_2.wr W3
  have F_a0_task_3 := F_a0_task_2.other W3 (Or.inr (slot_ne (Or.inr (hw _ (List.mem_of_getElem? (i := 47) rfl))) (Or.inr (hw _ (List.mem_of_getElem? (i := 49) rfl))) (by decide) (t := (.object "com/example/tickwright/tickwright/dispatch/Dispatcher$Task")) (t' := .long) (by decide) (by decide)))
  have F_a0_serial_3 := F_a0_serial_2.same W3
  have F_a0_waitingSince_3 := F_a0_waitingSince_2.other W3 (Or.inr (slot_ne (Or.inr (hw _ (List.mem_of_getElem? (i := 51) rfl))) (Or.inr (hw _ (List.mem_of_getElem? (i := 49) rfl))) (by decide) (t := .long) (t' := .long) (by decide) (by decide)))
  have F_a0_submittedAt_3 := F_a0_submittedAt_2.other W3 (Or.inr (slot_ne (Or.inr (hw _ (List.mem_of_getElem? (i := 53) rfl))) (Or.inr (hw _ (List.mem_of_getElem? (i := 49) rfl))) (by decide) (t := .long) (t' := .long) (by decide) (by decide)))
  have F_a0_timeToLiveNanos_3 := F_a0_timeToLiveNanos_2.other W3 (Or.inr (slot_ne (Or.inr (hw _ (List.mem_of_getElem? (i := 55) rfl))) (Or.inr (hw _ (List.mem_of_getElem? (i := 49) rfl))) (by decide) (t := .long) (t' := .long) (by decide) (by decide)))
  have K3 : Keep h0 h3 [a0] := K2.wr W3 (Or.inl (by simp))
  have Zs3 : n0 ≤ h3.size := Nat.le_trans Zs2 (Keep.of_wr W3).1
  have N3 := Fr.snoc X3 N2 g_a0
  refine own_go (B := (T3.setTop (mkF m 14 #[.val (.ref a0), .val (.ref a1), .val (.long q2), .second, .val (.long q3), .second, .val (.long q4), .second, .val (.long q5), .second] []))) (fun t k => st3 _ k) ?_
  refine own_go (B := (T3.setTop (mkF m 15 #[.val (.ref a0), .val (.ref a1), .val (.long q2), .second, .val (.long q3), .second, .val (.long q4), .second, .val (.long q5), .second] [(.ref a0)]))) (fun t k => XS.aloadN X3.here hx rfl (hb hby d6_14) rfl rfl k) ?_
  refine own_go (B := (T3.setTop (mkF m 17 #[.val (.ref a0), .val (.ref a1), .val (.long q2), .second, .val (.long q3), .second, .val (.long q4), .second, .val (.long q5), .second] [(.long q3), (.ref a0)]))) (fun t k => XS.lload X3.here hx rfl (hb hby d6_15) rfl k) ?_
  obtain ⟨T4, h4, X4, e4, W4, st4⟩ := putF X3 hx hZ hown (host := "") (Or.inl (hw _ (List.mem_of_getElem? (i := 50) rfl))) Via.refl e3 F_a0_waitingSince_3 E_a0_3 (Or.inr ⟨(hw _ (List.mem_of_getElem? (i := 51) rfl)), rfl, hnm⟩) (hw _ (List.mem_of_getElem? (i := 40) rfl)) (ty := .long) (by decide) rfl rfl (g := (mkF m 17 #[.val (.ref a0), .val (.ref a1), .val (.long q2), .second, .val (.long q3), .second, .val (.long q4), .second, .val (.long q5), .second] [(.long q3), (.ref a0)])) rfl rfl (hb hby d6_17)
  have E_a0_4 := E_a0_3.wr W4
  have F_a0_task_4 := F_a0_task_3.other W4 (Or.inr (slot_ne (Or.inr (hw _ (List.mem_of_getElem? (i := 47) rfl))) (Or.inr (hw _ (List.mem_of_getElem? (i := 51) rfl))) (by decide) (t := (.object "com/example/tickwright/tickwright/dispatch/Dispatcher$Task")) (t' := .long) (by decide) (by decide)))
  have F_a0_serial_4 := F_a0_serial_3.other W4 (Or.inr (slot_ne (Or.inr (hw _ (List.mem_of_getElem? (i := 49) rfl))) (Or.inr (hw _ (List.mem_of_getElem? (i := 51) rfl))) (by decide) (t := .long) (t' := .long) (by decide) (by decide)))
  have F_a0_waitingSince_4 := F_a0_waitingSince_3.same W4
  have F_a0_submittedAt_4 := F_a0_submittedAt_3.other W4 (Or.inr (slot_ne (Or.inr (hw _ (List.mem_of_getElem? (i := 53) rfl))) (Or.inr (hw _ (List.mem_of_getElem? (i := 51) rfl))) (by decide) (t := .long) (t' := .long) (by decide) (by decide)))
  have F_a0_timeToLiveNanos_4 := F_a0_timeToLiveNanos_3.other W4 (Or.inr (slot_ne (Or.inr (hw _ (List.mem_of_getElem? (i := 55) rfl))) (Or.inr (hw _ (List.mem_of_getElem? (i := 51) rfl))) (by decide) (t := .long) (t' := .long) (by decide) (by decide)))
  have K4 : Keep h0 h4 [a0] := K3.wr W4 (Or.inl (by simp))
  have Zs4 : n0 ≤ h4.size := Nat.le_trans Zs3 (Keep.of_wr W4).1
  have N4 := Fr.snoc X4 N3 g_a0
  refine own_go (B := (T4.setTop (mkF m 20 #[.val (.ref a0), .val (.ref a1), .val (.long q2), .second, .val (.long q3), .second, .val (.long q4), .second, .val (.long q5), .second] []))) (fun t k => st4 _ k) ?_
  refine own_go (B := (T4.setTop (mkF m 21 #[.val (.ref a0), .val (.ref a1), .val (.long q2), .second, .val (.long q3), .second, .val (.long q4), .second, .val (.long q5), .second] [(.ref a0)]))) (fun t k => XS.aloadN X4.here hx rfl (hb hby d6_20) rfl rfl k) ?_
  refine own_go (B := (T4.setTop (mkF m 23 #[.val (.ref a0), .val (.ref a1), .val (.long q2), .second, .val (.long q3), .second, .val (.long q4), .second, .val (.long q5), .second] [(.long q4), (.ref a0)]))) (fun t k => XS.lload X4.here hx rfl (hb hby d6_21) rfl k) ?_
  obtain ⟨T5, h5, X5, e5, W5, st5⟩ := putF X4 hx hZ hown (host := "") (Or.inl (hw _ (List.mem_of_getElem? (i := 52) rfl))) Via.refl e4 F_a0_submittedAt_4 E_a0_4 (Or.inr ⟨(hw _ (List.mem_of_getElem? (i := 53) rfl)), rfl, hnm⟩) (hw _ (List.mem_of_getElem? (i := 40) rfl)) (ty := .long) (by decide) rfl rfl (g := (mkF m 23 #[.val (.ref a0), .val (.ref a1), .val (.long q2), .second, .val (.long q3), .second, .val (.long q4), .second, .val (.long q5), .second] [(.long q4), (.ref a0)])) rfl rfl (hb hby d6_23)
  have E_a0_5 := E_a0_4.wr W5
  have F_a0_task_5 := F_a0_task_4.other W5 (Or.inr (slot_ne (Or.inr (hw _ (List.mem_of_getElem? (i := 47) rfl))) (Or.inr (hw _ (List.mem_of_getElem? (i := 53) rfl))) (by decide) (t := (.object "com/example/tickwright/tickwright/dispatch/Dispatcher$Task")) (t' := .long) (by decide) (by decide)))
  have F_a0_serial_5 := F_a0_serial_4.other W5 (Or.inr (slot_ne (Or.inr (hw _ (List.mem_of_getElem? (i := 49) rfl))) (Or.inr (hw _ (List.mem_of_getElem? (i := 53) rfl))) (by decide) (t := .long) (t' := .long) (by decide) (by decide)))
  have F_a0_waitingSince_5 := F_a0_waitingSince_4.other W5 (Or.inr (slot_ne (Or.inr (hw _ (List.mem_of_getElem? (i := 51) rfl))) (Or.inr (hw _ (List.mem_of_getElem? (i := 53) rfl))) (by decide) (t := .long) (t' := .long) (by decide) (by decide)))
  have F_a0_submittedAt_5 := F_a0_submittedAt_4.same W5
  have F_a0_timeToLiveNanos_5 := F_a0_timeToLiveNanos_4.other W5 (Or.inr (slot_ne (Or.inr (hw _ (List.mem_of_getElem? (i := 55) rfl))) (Or.inr (hw _ (List.mem_of_getElem? (i := 53) rfl))) (by decide) (t := .long) (t' := .long) (by decide) (by decide)))
  have K5 : Keep h0 h5 [a0] := K4.wr W5 (Or.inl (by simp))
  have Zs5 : n0 ≤ h5.size := Nat.le_trans Zs4 (Keep.of_wr W5).1
  have N5 := Fr.snoc X5 N4 g_a0
  refine own_go (B := (T5.setTop (mkF m 26 #[.val (.ref a0), .val (.ref a1), .val (.long q2), .second, .val (.long q3), .second, .val (.long q4), .second, .val (.long q5), .second] []))) (fun t k => st5 _ k) ?_
  refine own_go (B := (T5.setTop (mkF m 27 #[.val (.ref a0), .val (.ref a1), .val (.long q2), .second, .val (.long q3), .second, .val (.long q4), .second, .val (.long q5), .second] [(.ref a0)]))) (fun t k => XS.aloadN X5.here hx rfl (hb hby d6_26) rfl rfl k) ?_
  refine own_go (B := (T5.setTop (mkF m 29 #[.val (.ref a0), .val (.ref a1), .val (.long q2), .second, .val (.long q3), .second, .val (.long q4), .second, .val (.long q5), .second] [(.long q5), (.ref a0)]))) (fun t k => XS.lload X5.here hx rfl (hb hby d6_27) rfl k) ?_
  obtain ⟨T6, h6, X6, e6, W6, st6⟩ := putF X5 hx hZ hown (host := "") (Or.inl (hw _ (List.mem_of_getElem? (i := 54) rfl))) Via.refl e5 F_a0_timeToLiveNanos_5 E_a0_5 (Or.inr ⟨(hw _ (List.mem_of_getElem? (i := 55) rfl)), rfl, hnm⟩) (hw _ (List.mem_of_getElem? (i := 40) rfl)) (ty := .long) (by decide) rfl rfl (g := (mkF m 29 #[.val (.ref a0), .val (.ref a1), .val (.long q2), .second, .val (.long q3), .second, .val (.long q4), .second, .val (.long q5), .second] [(.long q5), (.ref a0)])) rfl rfl (hb hby d6_29)
  have E_a0_6 := E_a0_5.wr W6
  have F_a0_task_6 := F_a0_task_5.other W6 (Or.inr (slot_ne (Or.inr (hw _ (List.mem_of_getElem? (i := 47) rfl))) (Or.inr (hw _ (List.mem_of_getElem? (i := 55) rfl))) (by decide) (t := (.object "com/example/tickwright/tickwright/dispatch/Dispatcher$Task")) (t' := .long) (by decide) (by decide)))
  have F_a0_serial_6 := F_a0_serial_5.other W6 (Or.inr (slot_ne (Or.inr (hw _ (List.mem_of_getElem? (i := 49) rfl))) (Or.inr (hw _ (List.mem_of_getElem? (i := 55) rfl))) (by decide) (t := .long) (t' := .long) (by decide) (by decide)))
  have F_a0_waitingSince_6 := F_a0_waitingSince_5.other W6 (Or.inr (slot_ne (Or.inr (hw _ (List.mem_of_getElem? (i := 51) rfl))) (Or.inr (hw _ (List.mem_of_getElem? (i := 55) rfl))) (by decide) (t := .long) (t' := .long) (by decide) (by decide)))
  have F_a0_submittedAt_6 := F_a0_submittedAt_5.other W6 (Or.inr (slot_ne (Or.inr (hw _ (List.mem_of_getElem? (i := 53) rfl))) (Or.inr (hw _ (List.mem_of_getElem? (i := 55) rfl))) (by decide) (t := .long) (t' := .long) (by decide) (by decide)))
  have F_a0_timeToLiveNanos_6 := F_a0_timeToLiveNanos_5.same W6
  have K6 : Keep h0 h6 [a0] := K5.wr W6 (Or.inl (by simp))
  have Zs6 : n0 ≤ h6.size := Nat.le_trans Zs5 (Keep.of_wr W6).1
  have N6 := Fr.snoc X6 N5 g_a0
  refine own_go (B := (T6.setTop (mkF m 32 #[.val (.ref a0), .val (.ref a1), .val (.long q2), .second, .val (.long q3), .second, .val (.long q4), .second, .val (.long q5), .second] []))) (fun t k => st6 _ k) ?_
  obtain ⟨fs, hr, hrun, hended, hW, hsame⟩ := X6.leave (v := none) (fun _ => rfl)
  exact ⟨_, _, X6.returnOut hx Bd.returns (hb hby d6_32) hr, hrun, hended, _, _, rfl, (by show Q6 Z a0 a1 q2 q3 q4 q5 h0 n0 _ T6.heap _; rw [e6]; exact ⟨rfl, N6, K6, F_a0_submittedAt_6, F_a0_timeToLiveNanos_6⟩), ⟨_, rfl⟩, hW, hsame.mono (by decide) (by decide)⟩
theorem d7_0 : decode prog_23_method_3_code 0 = .ok (.lload_n 1, 1) := by decide +kernel
theorem d7_1 : decode prog_23_method_3_code 1 = .ok (.aload_n 0, 1) := by decide +kernel
theorem d7_2 : decode prog_23_method_3_code 2 = .ok (.getfield 20, 3) := by decide +kernel
theorem d7_5 : decode prog_23_method_3_code 5 = .ok (.lsub, 1) := by decide +kernel
theorem d7_6 : decode prog_23_method_3_code 6 = .ok (.aload_n 0, 1) := by decide +kernel
theorem d7_7 : decode prog_23_method_3_code 7 = .ok (.getfield 23, 3) := by decide +kernel
theorem d7_10 : decode prog_23_method_3_code 10 = .ok (.lcmp, 1) := by decide +kernel
theorem d7_11 : decode prog_23_method_3_code 11 = .ok (.ifCond .lt 7, 3) := by decide +kernel
theorem d7_14 : decode prog_23_method_3_code 14 = .ok (.iconst 1, 1) := by decide +kernel
theorem d7_15 : decode prog_23_method_3_code 15 = .ok (.goto 4, 3) := by decide +kernel
theorem d7_18 : decode prog_23_method_3_code 18 = .ok (.iconst 0, 1) := by decide +kernel
theorem d7_19 : decode prog_23_method_3_code 19 = .ok (.ireturn, 1) := by decide +kernel
theorem pn_7 : plainName "com/example/tickwright/tickwright/dispatch/Pending" = true := by first | (simp [plainName, overriddenIn]; done) | decide +kernel
theorem ef_7 (m : MethodId) (x0 : Addr) (x1 : Int64) : entryFrame m #[(.ref x0), (.long x1)] 3 = mkF m 0 #[.val (.ref x0), .val (.long x1), .second] [] := by first | (simp [entryFrame, mkF, argsToLocals, Value.category]; done) | rfl
def F7 (a0 : Addr) (q1 : Int64) (sa : Int64) (tl : Int64) : Int32 := if (q1 - sa) < tl then (0 : Int32) else (1 : Int32)
def Q7 (Z : State) (a0 : Addr) (q1 : Int64) (sa : Int64) (tl : Int64) (h0 : Heap) (n0 : Nat) (v : Option Value) (h : Heap) (L : List Loc) : Prop := v = some (.int (F7 a0 q1 sa tl)) ∧ Fr n0 L ∧ h = h0
set_option maxRecDepth 65536 in
set_option maxHeartbeats 40000000 in
theorem rm7 (l : Launch) (Z : State) (ta : Array Value) (hw : ∀ d ∈ tables_1, d.before ta Z = true) (ws : List Jvm.Cond) (a0 : Addr) (q1 : Int64) (sa : Int64) (tl : Int64) (h0 : Heap) (n0 : Nat) (Fs : Fld Z h0 a0 "com/example/tickwright/tickwright/dispatch/Pending" "submittedAt" "J" (.long sa)) (Ft : Fld Z h0 a0 "com/example/tickwright/tickwright/dispatch/Pending" "timeToLiveNanos" "J" (.long tl)) :
    MetFree l (⟨"com/example/tickwright/tickwright/dispatch/Pending", "hasExpired", "(J)Z"⟩ : MethodName) (head1 (Jvm.Cond.code (⟨"com/example/tickwright/tickwright/dispatch/Pending", "hasExpired", "(J)Z"⟩ : MethodName) prog_23_method_3_code 3 (some .boolean) :: ws) ({ frames := 0, cells := 0, slots := 0, locals := 0 } : Room)) (fun a U => a = #[(.ref a0), (.long q1)] ∧ Z.Warmed39 U.vm ∧ U.heap = h0) (fun _ _ _ _ _ => True) (fun _ U o U' => ∃ v L, o = .returned v ∧ Q7 Z a0 q1 sa tl h0 n0 v U'.heap L ∧ FrameEnd U o U' L ({ frames := 0, cells := 0, slots := 0, locals := 0 } : Room).cells ({ frames := 0, cells := 0, slots := 0, locals := 0 } : Room).slots) := by
  refine MetFree.of_bodySF (plainFor_of_name pn_7) hisR ?_
  intro p e s m args below meth c s₁ Bd hml0 hP hK
  obtain ⟨rfl, hZ, hh⟩ := hP
  have hx := Bd.exec
  have hby := Bd.bytes
  have hml : c.maxLocals = 3 := hml0
  have hown : s.vm.findClass "com/example/tickwright/tickwright/dispatch/Pending" = some m.cls := findClass_of_methodNamed Bd.named
  have hnm := (name_of_methodNamed Bd.named Bd.method).1
  have X0 : Stand p l e ({ frames := 0, cells := 0, slots := 0, locals := 0 } : Room) s m #[(.ref a0), (.long q1)] below meth c s₁ [] 0 0 := Stand.of_body Bd
  have e0 : s₁.heap = h0 := by rw [← hh, Bd.state]; rfl
  have N0 := Fr.nil n0
  refine own_go (B := (s₁.setTop (mkF m 0 #[.val (.ref a0), .val (.long q1), .second] []))) (fun t k => castTop (ef_7 m a0 q1) k) ?_
  refine own_go (B := (s₁.setTop (mkF m 1 #[.val (.ref a0), .val (.long q1), .second] [(.long q1)]))) (fun t k => XS.lloadN X0.here hx rfl (hb hby d7_0) rfl k) ?_
  refine own_go (B := (s₁.setTop (mkF m 2 #[.val (.ref a0), .val (.long q1), .second] [(.ref a0), (.long q1)]))) (fun t k => XS.aloadN X0.here hx rfl (hb hby d7_1) rfl rfl k) ?_
  obtain ⟨T1, X1, e1, st1⟩ := getF X0 hx hZ hown (host := "") (Or.inl (hw _ (List.mem_of_getElem? (i := 52) rfl))) Via.refl e0 Fs (g := (mkF m 2 #[.val (.ref a0), .val (.long q1), .second] [(.ref a0), (.long q1)])) rfl rfl (hb hby d7_2)
  refine own_go (B := (T1.setTop (mkF m 5 #[.val (.ref a0), .val (.long q1), .second] [(.long sa), (.long q1)]))) (fun t k => st1 _ k) ?_
  refine own_go (B := (T1.setTop (mkF m 6 #[.val (.ref a0), .val (.long q1), .second] [(.long (q1 - sa))]))) (fun t k => XS.lsub X1.here hx rfl (hb hby d7_5) rfl k) ?_
  refine own_go (B := (T1.setTop (mkF m 7 #[.val (.ref a0), .val (.long q1), .second] [(.ref a0), (.long (q1 - sa))]))) (fun t k => XS.aloadN X1.here hx rfl (hb hby d7_6) rfl rfl k) ?_
  obtain ⟨T2, X2, e2, st2⟩ := getF X1 hx hZ hown (host := "") (Or.inl (hw _ (List.mem_of_getElem? (i := 54) rfl))) Via.refl e1 Ft (g := (mkF m 7 #[.val (.ref a0), .val (.long q1), .second] [(.ref a0), (.long (q1 - sa))])) rfl rfl (hb hby d7_7)
  refine own_go (B := (T2.setTop (mkF m 10 #[.val (.ref a0), .val (.long q1), .second] [(.long tl), (.long (q1 - sa))]))) (fun t k => st2 _ k) ?_
  refine own_go (B := (T2.setTop (mkF m 11 #[.val (.ref a0), .val (.long q1), .second] [(.int (lcmpW (q1 - sa) tl))]))) (fun t k => XS.lcmp X2.here hx rfl (hb hby d7_10) rfl k) ?_
  by_cases hc11 : (q1 - sa) < tl
  · refine own_go (B := (T2.setTop (mkF m 18 #[.val (.ref a0), .val (.long q1), .second] []))) (fun t k => XS.ifYes X2.here hx rfl (pc0 := 11) (pc' := 18) rfl (hb hby d7_11) rfl ((if0 _ _).trans (tlt ((lw_lt _ _).mpr hc11)).1) (by decide) (by decide) k) ?_
    refine own_go (B := (T2.setTop (mkF m 19 #[.val (.ref a0), .val (.long q1), .second] [(.int (0 : Int32))]))) (fun t k => XS.iconst X2.here hx rfl (hb hby d7_18) k) ?_
    obtain ⟨fs, hr, hrun, hended, hW, hsame⟩ := X2.leave (v := some (.int (0 : Int32))) (fun h => by rw [Bd.returns] at h; cases h)
    exact ⟨_, _, retN X2 hx (t := .boolean) Bd.returns (by simp) (hb hby d7_19) hr, hrun, hended, _, _, rfl, ⟨congrArg (fun z => some (Value.int z)) (by simp only [F7, if_pos hc11]), N0, e2⟩, ⟨_, rfl⟩, hW, hsame.mono (by decide) (by decide)⟩
  · refine own_go (B := (T2.setTop (mkF m 14 #[.val (.ref a0), .val (.long q1), .second] []))) (fun t k => XS.ifNo X2.here hx rfl (hb hby d7_11) rfl ((if0 _ _).trans (flt (fun z => hc11 ((lw_lt _ _).mp z))).1) k) ?_
    refine own_go (B := (T2.setTop (mkF m 15 #[.val (.ref a0), .val (.long q1), .second] [(.int (1 : Int32))]))) (fun t k => XS.iconst X2.here hx rfl (hb hby d7_14) k) ?_
    refine own_go (B := (T2.setTop (mkF m 19 #[.val (.ref a0), .val (.long q1), .second] [(.int (1 : Int32))]))) (fun t k => XS.goto X2.here hx rfl (pc0 := 15) (pc' := 19) rfl (hb hby d7_15) (by decide) (by decide) k) ?_
    obtain ⟨fs, hr, hrun, hended, hW, hsame⟩ := X2.leave (v := some (.int (1 : Int32))) (fun h => by rw [Bd.returns] at h; cases h)
    exact ⟨_, _, retN X2 hx (t := .boolean) Bd.returns (by simp) (hb hby d7_19) hr, hrun, hended, _, _, rfl, ⟨congrArg (fun z => some (Value.int z)) (by simp only [F7, if_neg hc11]), N0, e2⟩, ⟨_, rfl⟩, hW, hsame.mono (by decide) (by decide)⟩
theorem own_lawT {a : Addr} {sa el tl : Int64} (h : el < tl) : F7 a (sa + el) sa tl = (0 : Int32) := by
  unfold F7
  have e : sa + el - sa = el := by grind
  rw [e, if_pos h]
theorem own_lawF {a : Addr} {sa el tl : Int64} (h : ¬ el < tl) : F7 a (sa + el) sa tl = (1 : Int32) := by
  unfold F7
  have e : sa + el - sa = el := by grind
  rw [e, if_neg h]
theorem pn_0 : plainName "com/example/tickwright/tickwright/dispatch/PendingHasExpiredPinLaw" = true := by first | (simp [plainName, overriddenIn]; done) | decide +kernel
theorem pd_0_0 : parseMethodDescriptor "(I)Ljava/lang/Integer;" = some ⟨[.int], some (.object "java/lang/Integer")⟩ := by decide +kernel
theorem pd_0_1 : parseMethodDescriptor "(Ljava/lang/Object;Ljava/lang/Object;)V" = some ⟨[(.object "java/lang/Object"), (.object "java/lang/Object")], none⟩ := by decide +kernel
theorem pd_0_2 : parseMethodDescriptor "(Lcom/example/tickwright/tickwright/dispatch/Dispatcher$Task;JJJJ)V" = some ⟨[(.object "com/example/tickwright/tickwright/dispatch/Dispatcher$Task"), .long, .long, .long, .long], none⟩ := by decide +kernel
theorem pd_0_3 : parseMethodDescriptor "(J)Z" = some ⟨[.long], some .boolean⟩ := by decide +kernel
theorem ef_0 (m : MethodId) (x0 : Int64) (x1 : Int64) (x2 : Int64) (x3 : Int32) (x4 : Int64) : entryFrame m #[(.long x0), (.long x1), (.long x2), (.int x3), (.long x4)] maxLocals = mkF m 0 #[.val (.long x0), .second, .val (.long x1), .second, .val (.long x2), .second, .val (.int x3), .val (.long x4), .second, .unset, .unset, .unset, .unset, .unset, .unset, .unset, .unset, .unset] [] := by first | (simp [entryFrame, mkF, argsToLocals, Value.category, maxLocals]; done) | rfl
def Q0 (Z : State) (q0 : Int64) (q1 : Int64) (q2 : Int64) (p3 : Int32) (q4 : Int64) (ca : Addr) (cc : Cell) (vf : Int32 → Value) (h0 : Heap) (n0 : Nat) (v : Option Value) (h : Heap) (L : List Loc) : Prop := v = some (.int (1 : Int32)) ∧ Fr n0 L
set_option maxRecDepth 65536 in
set_option maxHeartbeats 40000000 in
theorem rm0 (l : Launch) (Z : State) (ta : Array Value) (hw : ∀ d ∈ tables_1, d.before ta Z = true) (ws : List Jvm.Cond) (q0 : Int64) (q1 : Int64) (q2 : Int64) (p3 : Int32) (q4 : Int64) (ca : Addr) (cc : Cell) (vf : Int32 → Value) (h0 : Heap) (n0 : Nat) (Z0 : n0 ≤ h0.size) (O0 : Old Z n0 h0) (Sc : Sta Z Z.heap "java/lang/Integer$IntegerCache" "cache" "[Ljava/lang/Integer;" (.ref ca)) (Bx : Bxs Z ca cc "java/lang/Integer" "I" (256 : Int32) vf) (Sh : Sta Z Z.heap "java/lang/Integer$IntegerCache" "high" "I" (.int (127 : Int32))) :
    MetFree l x (head1 (Jvm.Cond.code x code maxLocals ret :: ws) room_1) (fun a U => a = #[(.long q0), (.long q1), (.long q2), (.int p3), (.long q4)] ∧ Z.Warmed39 U.vm ∧ U.heap = h0) (fun _ _ _ _ _ => True) (fun _ U o U' => ∃ v L, o = .returned v ∧ Q0 Z q0 q1 q2 p3 q4 ca cc vf h0 n0 v U'.heap L ∧ ReturnedEndW U o U' L room_1.cells room_1.slots) := by
  refine MetFree.of_bodySF (plainFor_of_name pn_0) hisR ?_
  intro p e s m args below meth c s₁ Bd hml0 hP hK
  obtain ⟨rfl, hZ, hh⟩ := hP
  have hx := Bd.exec
  have hby := Bd.bytes
  have hml : c.maxLocals = 18 := hml0
  have hown : s.vm.findClass "com/example/tickwright/tickwright/dispatch/PendingHasExpiredPinLaw" = some m.cls := findClass_of_methodNamed Bd.named
  have hnm := (name_of_methodNamed Bd.named Bd.method).1
  have X0 : Stand p l e room_1 (s.setVm s.vm) m #[(.long q0), (.long q1), (.long q2), (.int p3), (.long q4)] below meth c s₁ [] 0 0 := Stand.of_body Bd
  have e0 : s₁.heap = h0 := by rw [← hh, Bd.state]; rfl
  have N0 := Fr.nil n0
  have hS0 : s.Since s.vm 0 := (State.WarmedH.refl s).since 0
  have wS := own_wS hw
  refine own_go (B := (s₁.setTop (mkF m 0 #[.val (.long q0), .second, .val (.long q1), .second, .val (.long q2), .second, .val (.int p3), .val (.long q4), .second, .unset, .unset, .unset, .unset, .unset, .unset, .unset, .unset, .unset] []))) (fun t k => castTop (ef_0 m q0 q1 q2 p3 q4) k) ?_
  refine own_go (B := (s₁.setTop (mkF m 2 #[.val (.long q0), .second, .val (.long q1), .second, .val (.long q2), .second, .val (.int p3), .val (.long q4), .second, .unset, .unset, .unset, .unset, .unset, .unset, .unset, .unset, .unset] [(.long q2)]))) (fun t k => XS.lload X0.here hx rfl (hb hby at_0) rfl k) ?_
  refine own_go (B := (s₁.setTop (mkF m 5 #[.val (.long q0), .second, .val (.long q1), .second, .val (.long q2), .second, .val (.int p3), .val (.long q4), .second, .unset, .unset, .unset, .unset, .unset, .unset, .unset, .unset, .unset] [(.long (9223372036854775807 : Int64)), (.long q2)]))) (fun t k => X0.ldc2Long hx hown (mvT hZ (hw _ (List.mem_of_getElem? (i := 0) rfl))) (g := (mkF m 2 #[.val (.long q0), .second, .val (.long q1), .second, .val (.long q2), .second, .val (.int p3), .val (.long q4), .second, .unset, .unset, .unset, .unset, .unset, .unset, .unset, .unset, .unset] [(.long q2)])) rfl (hb hby at_2) _ k) ?_
  refine own_go (B := (s₁.setTop (mkF m 6 #[.val (.long q0), .second, .val (.long q1), .second, .val (.long q2), .second, .val (.int p3), .val (.long q4), .second, .unset, .unset, .unset, .unset, .unset, .unset, .unset, .unset, .unset] [(.long (q2 &&& (9223372036854775807 : Int64)))]))) (fun t k => XS.land X0.here hx rfl (hb hby at_5) rfl k) ?_
  refine own_go (B := (s₁.setTop (mkF m 8 #[.val (.long q0), .second, .val (.long q1), .second, .val (.long q2), .second, .val (.int p3), .val (.long q4), .second, .val (.long (q2 &&& (9223372036854775807 : Int64))), .second, .unset, .unset, .unset, .unset, .unset, .unset, .unset] []))) (fun t k => XS.lstore X0.here hx rfl (hb hby at_6) rfl (l' := #[.val (.long q0), .second, .val (.long q1), .second, .val (.long q2), .second, .val (.int p3), .val (.long q4), .second, .val (.long (q2 &&& (9223372036854775807 : Int64))), .second, .unset, .unset, .unset, .unset, .unset, .unset, .unset]) rfl k) ?_
  refine own_go (B := (s₁.setTop (mkF m 10 #[.val (.long q0), .second, .val (.long q1), .second, .val (.long q2), .second, .val (.int p3), .val (.long q4), .second, .val (.long (q2 &&& (9223372036854775807 : Int64))), .second, .unset, .unset, .unset, .unset, .unset, .unset, .unset] [(.int p3)]))) (fun t k => XS.iload X0.here hx rfl (hb hby at_8) rfl k) ?_
  refine own_go (B := (s₁.setTop (mkF m 11 #[.val (.long q0), .second, .val (.long q1), .second, .val (.long q2), .second, .val (.int p3), .val (.long q4), .second, .val (.long (q2 &&& (9223372036854775807 : Int64))), .second, .unset, .unset, .unset, .unset, .unset, .unset, .unset] [(.int (1 : Int32)), (.int p3)]))) (fun t k => XS.iconst X0.here hx rfl (hb hby at_10) k) ?_
  refine own_go (B := (s₁.setTop (mkF m 12 #[.val (.long q0), .second, .val (.long q1), .second, .val (.long q2), .second, .val (.int p3), .val (.long q4), .second, .val (.long (q2 &&& (9223372036854775807 : Int64))), .second, .unset, .unset, .unset, .unset, .unset, .unset, .unset] [(.int (p3 &&& (1 : Int32)))]))) (fun t k => XS.iand X0.here hx rfl (hb hby at_11) rfl k) ?_
  by_cases hc12 : (p3 &&& (1 : Int32)) = (0 : Int32)
  · refine own_go (B := (s₁.setTop (mkF m 40 #[.val (.long q0), .second, .val (.long q1), .second, .val (.long q2), .second, .val (.int p3), .val (.long q4), .second, .val (.long (q2 &&& (9223372036854775807 : Int64))), .second, .unset, .unset, .unset, .unset, .unset, .unset, .unset] []))) (fun t k => XS.ifYes X0.here hx rfl (pc0 := 12) (pc' := 40) rfl (hb hby at_12) rfl ((if0 _ _).trans (teq hc12).1) (by decide) (by decide) k) ?_
    refine own_go (B := (s₁.setTop (mkF m 41 #[.val (.long q0), .second, .val (.long q1), .second, .val (.long q2), .second, .val (.int p3), .val (.long q4), .second, .val (.long (q2 &&& (9223372036854775807 : Int64))), .second, .unset, .unset, .unset, .unset, .unset, .unset, .unset] [(.long q1)]))) (fun t k => XS.lloadN X0.here hx rfl (hb hby at_40) rfl k) ?_
    refine own_go (B := (s₁.setTop (mkF m 44 #[.val (.long q0), .second, .val (.long q1), .second, .val (.long q2), .second, .val (.int p3), .val (.long q4), .second, .val (.long (q2 &&& (9223372036854775807 : Int64))), .second, .unset, .unset, .unset, .unset, .unset, .unset, .unset] [(.long (9223372036854775807 : Int64)), (.long q1)]))) (fun t k => X0.ldc2Long hx hown (mvT hZ (hw _ (List.mem_of_getElem? (i := 0) rfl))) (g := (mkF m 41 #[.val (.long q0), .second, .val (.long q1), .second, .val (.long q2), .second, .val (.int p3), .val (.long q4), .second, .val (.long (q2 &&& (9223372036854775807 : Int64))), .second, .unset, .unset, .unset, .unset, .unset, .unset, .unset] [(.long q1)])) rfl (hb hby at_41) _ k) ?_
    refine own_go (B := (s₁.setTop (mkF m 45 #[.val (.long q0), .second, .val (.long q1), .second, .val (.long q2), .second, .val (.int p3), .val (.long q4), .second, .val (.long (q2 &&& (9223372036854775807 : Int64))), .second, .unset, .unset, .unset, .unset, .unset, .unset, .unset] [(.long (q1 &&& (9223372036854775807 : Int64)))]))) (fun t k => XS.land X0.here hx rfl (hb hby at_44) rfl k) ?_
    refine own_go (B := (s₁.setTop (mkF m 47 #[.val (.long q0), .second, .val (.long q1), .second, .val (.long q2), .second, .val (.int p3), .val (.long q4), .second, .val (.long (q2 &&& (9223372036854775807 : Int64))), .second, .val (.long (q1 &&& (9223372036854775807 : Int64))), .second, .unset, .unset, .unset, .unset, .unset] []))) (fun t k => XS.lstore X0.here hx rfl (hb hby at_45) rfl (l' := #[.val (.long q0), .second, .val (.long q1), .second, .val (.long q2), .second, .val (.int p3), .val (.long q4), .second, .val (.long (q2 &&& (9223372036854775807 : Int64))), .second, .val (.long (q1 &&& (9223372036854775807 : Int64))), .second, .unset, .unset, .unset, .unset, .unset]) rfl k) ?_
    refine own_go (B := (s₁.setTop (mkF m 48 #[.val (.long q0), .second, .val (.long q1), .second, .val (.long q2), .second, .val (.int p3), .val (.long q4), .second, .val (.long (q2 &&& (9223372036854775807 : Int64))), .second, .val (.long (q1 &&& (9223372036854775807 : Int64))), .second, .unset, .unset, .unset, .unset, .unset] [(.long q0)]))) (fun t k => XS.lloadN X0.here hx rfl (hb hby at_47) rfl k) ?_
    refine own_go (B := (s₁.setTop (mkF m 50 #[.val (.long q0), .second, .val (.long q1), .second, .val (.long q2), .second, .val (.int p3), .val (.long q4), .second, .val (.long (q2 &&& (9223372036854775807 : Int64))), .second, .val (.long (q1 &&& (9223372036854775807 : Int64))), .second, .unset, .unset, .unset, .unset, .unset] [(.long (q1 &&& (9223372036854775807 : Int64))), (.long q0)]))) (fun t k => XS.lload X0.here hx rfl (hb hby at_48) rfl k) ?_
    refine own_go (B := (s₁.setTop (mkF m 51 #[.val (.long q0), .second, .val (.long q1), .second, .val (.long q2), .second, .val (.int p3), .val (.long q4), .second, .val (.long (q2 &&& (9223372036854775807 : Int64))), .second, .val (.long (q1 &&& (9223372036854775807 : Int64))), .second, .unset, .unset, .unset, .unset, .unset] [(.long (q0 + (q1 &&& (9223372036854775807 : Int64))))]))) (fun t k => XS.ladd X0.here hx rfl (hb hby at_50) rfl k) ?_
    refine own_go (B := (s₁.setTop (mkF m 53 #[.val (.long q0), .second, .val (.long q1), .second, .val (.long q2), .second, .val (.int p3), .val (.long q4), .second, .val (.long (q2 &&& (9223372036854775807 : Int64))), .second, .val (.long (q1 &&& (9223372036854775807 : Int64))), .second, .val (.long (q0 + (q1 &&& (9223372036854775807 : Int64)))), .second, .unset, .unset, .unset] []))) (fun t k => XS.lstore X0.here hx rfl (hb hby at_51) rfl (l' := #[.val (.long q0), .second, .val (.long q1), .second, .val (.long q2), .second, .val (.int p3), .val (.long q4), .second, .val (.long (q2 &&& (9223372036854775807 : Int64))), .second, .val (.long (q1 &&& (9223372036854775807 : Int64))), .second, .val (.long (q0 + (q1 &&& (9223372036854775807 : Int64)))), .second, .unset, .unset, .unset]) rfl k) ?_
    obtain ⟨T1, h1, X1, e1, E1, A1, D1, -, st1⟩ := newO X0 hx hZ hown (hw _ (List.mem_of_getElem? (i := 1) rfl)) (hw _ (List.mem_of_getElem? (i := 2) rfl)) (hw _ (List.mem_of_getElem? (i := 3) rfl)) e0 (g := (mkF m 53 #[.val (.long q0), .second, .val (.long q1), .second, .val (.long q2), .second, .val (.int p3), .val (.long q4), .second, .val (.long (q2 &&& (9223372036854775807 : Int64))), .second, .val (.long (q1 &&& (9223372036854775807 : Int64))), .second, .val (.long (q0 + (q1 &&& (9223372036854775807 : Int64)))), .second, .unset, .unset, .unset] [])) rfl (hb hby at_53) (by decide) (by decide)
    obtain ⟨b1, g1⟩ : ∃ z, z = h0.size := ⟨_, rfl⟩
    rw [← g1] at A1 D1 st1
    have g_b1 : n0 ≤ b1 := Nat.le_trans Z0 (Nat.le_of_eq g1.symm)
    have Zs1 : n0 ≤ h1.size := Nat.le_trans Z0 E1.1
    have O1 := O0.ext E1
    have hk1 := Nat.le_trans (Nat.zero_le _) E1.1
    have F_id_b1 : Fld Z h1 b1 "com/example/tickwright/tickwright/dispatch/Dispatcher$Task" "id" "Ljava/lang/Object;" .null := D1 (Or.inr (hw _ (List.mem_of_getElem? (i := 36) rfl))) (ty := (.object "java/lang/Object")) (by decide)
    have F_payload_b1 : Fld Z h1 b1 "com/example/tickwright/tickwright/dispatch/Dispatcher$Task" "payload" "Ljava/lang/Object;" .null := D1 (Or.inr (hw _ (List.mem_of_getElem? (i := 38) rfl))) (ty := (.object "java/lang/Object")) (by decide)
    refine own_go (B := (T1.setTop (mkF m 56 #[.val (.long q0), .second, .val (.long q1), .second, .val (.long q2), .second, .val (.int p3), .val (.long q4), .second, .val (.long (q2 &&& (9223372036854775807 : Int64))), .second, .val (.long (q1 &&& (9223372036854775807 : Int64))), .second, .val (.long (q0 + (q1 &&& (9223372036854775807 : Int64)))), .second, .unset, .unset, .unset] [(.ref b1)]))) (fun t k => st1 _ k) ?_
    refine own_go (B := (T1.setTop (mkF m 57 #[.val (.long q0), .second, .val (.long q1), .second, .val (.long q2), .second, .val (.int p3), .val (.long q4), .second, .val (.long (q2 &&& (9223372036854775807 : Int64))), .second, .val (.long (q1 &&& (9223372036854775807 : Int64))), .second, .val (.long (q0 + (q1 &&& (9223372036854775807 : Int64)))), .second, .unset, .unset, .unset] [(.ref b1), (.ref b1)]))) (fun t k => XS.dup X1.here hx rfl (hb hby at_56) rfl rfl k) ?_
    refine own_go (B := (T1.setTop (mkF m 59 #[.val (.long q0), .second, .val (.long q1), .second, .val (.long q2), .second, .val (.int p3), .val (.long q4), .second, .val (.long (q2 &&& (9223372036854775807 : Int64))), .second, .val (.long (q1 &&& (9223372036854775807 : Int64))), .second, .val (.long (q0 + (q1 &&& (9223372036854775807 : Int64)))), .second, .unset, .unset, .unset] [(.int p3), (.ref b1), (.ref b1)]))) (fun t k => XS.iload X1.here hx rfl (hb hby at_57) rfl k) ?_
    obtain ⟨_, _, ⟨T2, L2, k2, n2⟩, -, X2, ⟨Lc2, hQ2, l2, y2, z2⟩, st2⟩ := Jvm.LawKit.callS X1 hx (y := (⟨"java/lang/Integer", "valueOf", "(I)Ljava/lang/Integer;"⟩ : MethodName)) hown (mvT hZ (hw _ (List.mem_of_getElem? (i := 4) rfl))) (mvT hZ (hw _ (List.mem_of_getElem? (i := 5) rfl))) (mvT hZ (hw _ (List.mem_of_getElem? (i := 6) rfl))) (mvT hZ (hw _ (List.mem_of_getElem? (i := 7) rfl))) (by decide) (backOf (W := 2) (rm1 l Z ta hw [] p3 ca cc vf h1 n0 Zs1 O1 Sc Bx Sh) hZ (hw _ (List.mem_of_getElem? (i := 7) rfl)) (hw _ (List.mem_of_getElem? (i := 6) rfl)) (by decide) (by decide)) (g := (mkF m 59 #[.val (.long q0), .second, .val (.long q1), .second, .val (.long q2), .second, .val (.int p3), .val (.long q4), .second, .val (.long (q2 &&& (9223372036854775807 : Int64))), .second, .val (.long (q1 &&& (9223372036854775807 : Int64))), .second, .val (.long (q0 + (q1 &&& (9223372036854775807 : Int64)))), .second, .unset, .unset, .unset] [(.int p3), (.ref b1), (.ref b1)])) rfl (by rw [hml]; rfl) (argsL := [(.int p3)]) (rest := [(.ref b1), (.ref b1)]) (lenOf pd_0_0 rfl) rfl (by show 2 * 0 + _ ≤ _; exact Nat.le_of_eq rfl) (hb hby at_59) (fun _ _ => ⟨rfl, e1, (by decide : (0 + 1) + 1 ≤ _), (by decide : (0 + 2) + 1 ≤ _)⟩)
    dsimp only [Pt.U, Pt.locs, Pt.cells, Pt.slots] at X2 l2 y2 z2 st2 hQ2
    subst l2 y2 z2
    obtain ⟨r2, rfl, N2q, K2, Er2⟩ := hQ2
    have E_b1_2 := A1.keep K2
    have F_b1_id_2 := F_id_b1.keep K2 nin0
    have F_b1_payload_2 := F_payload_b1.keep K2 nin0
    have Zs2 : n0 ≤ T2.heap.size := Nat.le_trans Zs1 K2.1
    have O2 := O1.keep K2 all0
    have N2 := Fr.app N0 N2q
    have hk2 := Nat.le_trans hk1 K2.1
    refine own_go (B := (T2.setTop (mkF m 62 #[.val (.long q0), .second, .val (.long q1), .second, .val (.long q2), .second, .val (.int p3), .val (.long q4), .second, .val (.long (q2 &&& (9223372036854775807 : Int64))), .second, .val (.long (q1 &&& (9223372036854775807 : Int64))), .second, .val (.long (q0 + (q1 &&& (9223372036854775807 : Int64)))), .second, .unset, .unset, .unset] [(.ref r2), (.ref b1), (.ref b1)]))) (fun t k => st2 _ k) ?_
    refine own_go (B := (T2.setTop (mkF m 63 #[.val (.long q0), .second, .val (.long q1), .second, .val (.long q2), .second, .val (.int p3), .val (.long q4), .second, .val (.long (q2 &&& (9223372036854775807 : Int64))), .second, .val (.long (q1 &&& (9223372036854775807 : Int64))), .second, .val (.long (q0 + (q1 &&& (9223372036854775807 : Int64)))), .second, .unset, .unset, .unset] [(.int (1 : Int32)), (.ref r2), (.ref b1), (.ref b1)]))) (fun t k => XS.iconst X2.here hx rfl (hb hby at_62) k) ?_
    obtain ⟨_, _, ⟨T3, L3, k3, n3⟩, -, X3, ⟨Lc3, hQ3, l3, y3, z3⟩, st3⟩ := Jvm.LawKit.callS X2 hx (y := (⟨"java/lang/Integer", "valueOf", "(I)Ljava/lang/Integer;"⟩ : MethodName)) hown (mvT hZ (hw _ (List.mem_of_getElem? (i := 4) rfl))) (mvT hZ (hw _ (List.mem_of_getElem? (i := 5) rfl))) (mvT hZ (hw _ (List.mem_of_getElem? (i := 6) rfl))) (mvT hZ (hw _ (List.mem_of_getElem? (i := 7) rfl))) (by decide) (backOf (W := 3) (rm1 l Z ta hw [] (1 : Int32) ca cc vf T2.heap n0 Zs2 O2 Sc Bx Sh) hZ (hw _ (List.mem_of_getElem? (i := 7) rfl)) (hw _ (List.mem_of_getElem? (i := 6) rfl)) (by decide) (by decide)) (g := (mkF m 63 #[.val (.long q0), .second, .val (.long q1), .second, .val (.long q2), .second, .val (.int p3), .val (.long q4), .second, .val (.long (q2 &&& (9223372036854775807 : Int64))), .second, .val (.long (q1 &&& (9223372036854775807 : Int64))), .second, .val (.long (q0 + (q1 &&& (9223372036854775807 : Int64)))), .second, .unset, .unset, .unset] [(.int (1 : Int32)), (.ref r2), (.ref b1), (.ref b1)])) rfl (by rw [hml]; rfl) (argsL := [(.int (1 : Int32))]) (rest := [(.ref r2), (.ref b1), (.ref b1)]) (lenOf pd_0_0 rfl) rfl (by show 2 * 0 + _ ≤ _; exact Nat.le_of_eq rfl) (hb hby at_63) (fun _ _ => ⟨rfl, rfl, (by decide : ((0 + 1) + 1) + 1 ≤ _), (by decide : ((0 + 2) + 1) + 1 ≤ _)⟩)
    dsimp only [Pt.U, Pt.locs, Pt.cells, Pt.slots] at X3 l3 y3 z3 st3 hQ3
    subst l3 y3 z3
    obtain ⟨r3, rfl, N3q, K3, Er3⟩ := hQ3
    have E_b1_3 := E_b1_2.keep K3
    have F_b1_id_3 := F_b1_id_2.keep K3 nin0
    have F_b1_payload_3 := F_b1_payload_2.keep K3 nin0
    have E_r2_3 := Er2.keep K3
    have Zs3 : n0 ≤ T3.heap.size := Nat.le_trans Zs2 K3.1
    have O3 := O2.keep K3 all0
    have N3 := Fr.app N2 N3q
    have hk3 := Nat.le_trans hk2 K3.1
    refine own_go (B := (T3.setTop (mkF m 66 #[.val (.long q0), .second, .val (.long q1), .second, .val (.long q2), .second, .val (.int p3), .val (.long q4), .second, .val (.long (q2 &&& (9223372036854775807 : Int64))), .second, .val (.long (q1 &&& (9223372036854775807 : Int64))), .second, .val (.long (q0 + (q1 &&& (9223372036854775807 : Int64)))), .second, .unset, .unset, .unset] [(.ref r3), (.ref r2), (.ref b1), (.ref b1)]))) (fun t k => st3 _ k) ?_
    obtain ⟨_, _, ⟨T4, L4, k4, n4⟩, -, XX4, hSS4, hgr4, ⟨Lc4, hQ4, l4, y4, z4⟩, st4⟩ := X3.specialBackS hx (y := (⟨"com/example/tickwright/tickwright/dispatch/Dispatcher$Task", "<init>", "(Ljava/lang/Object;Ljava/lang/Object;)V"⟩ : MethodName)) rfl hown (mvT hZ (hw _ (List.mem_of_getElem? (i := 11) rfl))) (mvT hZ (hw _ (List.mem_of_getElem? (i := 12) rfl))) (mvT hZ (hw _ (List.mem_of_getElem? (i := 13) rfl))) (by decide) (backOfS (W := 1) (rm2 l Z ta hw [] b1 r2 r3  T3.heap n0 Zs3 E_b1_3 F_b1_id_3 F_b1_payload_3 g_b1) hZ (hw _ (List.mem_of_getElem? (i := 13) rfl)) (hw _ (List.mem_of_getElem? (i := 3) rfl)) (by decide) (by decide)) (g := (mkF m 66 #[.val (.long q0), .second, .val (.long q1), .second, .val (.long q2), .second, .val (.int p3), .val (.long q4), .second, .val (.long (q2 &&& (9223372036854775807 : Int64))), .second, .val (.long (q1 &&& (9223372036854775807 : Int64))), .second, .val (.long (q0 + (q1 &&& (9223372036854775807 : Int64)))), .second, .unset, .unset, .unset] [(.ref r3), (.ref r2), (.ref b1), (.ref b1)])) rfl (by rw [hml]; rfl) (Steps.refl _) (a := b1) (argsL := [(.ref r2), (.ref r3)]) (rest := [(.ref b1)]) (lenOf pd_0_1 rfl) rfl (by show 2 * 0 + _ ≤ _; exact Nat.le_of_eq rfl) (hb hby at_66) (fun _ _ => ⟨rfl, rfl, (by decide : (((0 + 1) + 1) + 1) + 4 ≤ _), (by decide : (((0 + 2) + 1) + 1) + 44 ≤ _)⟩)
    dsimp only [Pt.U, Pt.locs, Pt.cells, Pt.slots] at XX4 hSS4 hgr4 l4 y4 z4 st4 hQ4
    subst l4 y4 z4
    obtain ⟨X4, hS4, hZ4, hown4⟩ := rebS hS0 (show _ ≤ T3.heap.size by exact hk3) XX4 hSS4 hgr4 hZ hown
    obtain ⟨rfl, N4q, K4⟩ := hQ4
    have E_b1_4 := E_b1_3.keep K4
    have E_r2_4 := E_r2_3.keep K4
    have E_r3_4 := Er3.keep K4
    have Zs4 : n0 ≤ T4.heap.size := Nat.le_trans Zs3 K4.1
    have O4 := O3.keep K4 (allS g_b1 all0)
    have N4 := Fr.app N3 N4q
    refine own_go (B := (T4.setTop (mkF m 69 #[.val (.long q0), .second, .val (.long q1), .second, .val (.long q2), .second, .val (.int p3), .val (.long q4), .second, .val (.long (q2 &&& (9223372036854775807 : Int64))), .second, .val (.long (q1 &&& (9223372036854775807 : Int64))), .second, .val (.long (q0 + (q1 &&& (9223372036854775807 : Int64)))), .second, .unset, .unset, .unset] [(.ref b1)]))) (fun t k => st4.trans k) ?_
    refine own_go (B := (T4.setTop (mkF m 71 #[.val (.long q0), .second, .val (.long q1), .second, .val (.long q2), .second, .val (.int p3), .val (.long q4), .second, .val (.long (q2 &&& (9223372036854775807 : Int64))), .second, .val (.long (q1 &&& (9223372036854775807 : Int64))), .second, .val (.long (q0 + (q1 &&& (9223372036854775807 : Int64)))), .second, .val (.ref b1), .unset, .unset] []))) (fun t k => XS.astore X4.here hx rfl (hb hby at_69) rfl rfl (l' := #[.val (.long q0), .second, .val (.long q1), .second, .val (.long q2), .second, .val (.int p3), .val (.long q4), .second, .val (.long (q2 &&& (9223372036854775807 : Int64))), .second, .val (.long (q1 &&& (9223372036854775807 : Int64))), .second, .val (.long (q0 + (q1 &&& (9223372036854775807 : Int64)))), .second, .val (.ref b1), .unset, .unset]) rfl k) ?_
    obtain ⟨T5, h5, X5, e5, E5, A5, D5, -, st5⟩ := newO X4 hx hZ4 hown4 (hw _ (List.mem_of_getElem? (i := 39) rfl)) (hw _ (List.mem_of_getElem? (i := 40) rfl)) (hw _ (List.mem_of_getElem? (i := 41) rfl)) rfl (g := (mkF m 71 #[.val (.long q0), .second, .val (.long q1), .second, .val (.long q2), .second, .val (.int p3), .val (.long q4), .second, .val (.long (q2 &&& (9223372036854775807 : Int64))), .second, .val (.long (q1 &&& (9223372036854775807 : Int64))), .second, .val (.long (q0 + (q1 &&& (9223372036854775807 : Int64)))), .second, .val (.ref b1), .unset, .unset] [])) rfl (hb hby at_71) (by decide) (by decide)
    obtain ⟨b5, g5⟩ : ∃ z, z = T4.heap.size := ⟨_, rfl⟩
    rw [← g5] at A5 D5 st5
    have ne_b1_b5 : b1 ≠ b5 := Nat.ne_of_lt (Nat.lt_of_lt_of_le E_b1_4.lt (Nat.le_of_eq g5.symm))
    have ne_r2_b5 : r2 ≠ b5 := Nat.ne_of_lt (Nat.lt_of_lt_of_le E_r2_4.lt (Nat.le_of_eq g5.symm))
    have ne_r3_b5 : r3 ≠ b5 := Nat.ne_of_lt (Nat.lt_of_lt_of_le E_r3_4.lt (Nat.le_of_eq g5.symm))
    have g_b5 : n0 ≤ b5 := Nat.le_trans Zs4 (Nat.le_of_eq g5.symm)
    have Zs5 : n0 ≤ h5.size := Nat.le_trans Zs4 E5.1
    have O5 := O4.ext E5
    have hk5 := Nat.le_trans (Nat.le_refl _) E5.1
    have E_b1_5 := E_b1_4.ext E5
    have E_r2_5 := E_r2_4.ext E5
    have E_r3_5 := E_r3_4.ext E5
    have F_task_b5 : Fld Z h5 b5 "com/example/tickwright/tickwright/dispatch/Pending" "task" "Lcom/example/tickwright/tickwright/dispatch/Dispatcher$Task;" .null := D5 (Or.inr (hw _ (List.mem_of_getElem? (i := 47) rfl))) (ty := (.object "com/example/tickwright/tickwright/dispatch/Dispatcher$Task")) (by decide)
    have F_serial_b5 : Fld Z h5 b5 "com/example/tickwright/tickwright/dispatch/Pending" "serial" "J" (.long (0 : Int64)) := D5 (Or.inr (hw _ (List.mem_of_getElem? (i := 49) rfl))) (ty := .long) (by decide)
    have F_waitingSince_b5 : Fld Z h5 b5 "com/example/tickwright/tickwright/dispatch/Pending" "waitingSince" "J" (.long (0 : Int64)) := D5 (Or.inr (hw _ (List.mem_of_getElem? (i := 51) rfl))) (ty := .long) (by decide)
    have F_submittedAt_b5 : Fld Z h5 b5 "com/example/tickwright/tickwright/dispatch/Pending" "submittedAt" "J" (.long (0 : Int64)) := D5 (Or.inr (hw _ (List.mem_of_getElem? (i := 53) rfl))) (ty := .long) (by decide)
    have F_timeToLiveNanos_b5 : Fld Z h5 b5 "com/example/tickwright/tickwright/dispatch/Pending" "timeToLiveNanos" "J" (.long (0 : Int64)) := D5 (Or.inr (hw _ (List.mem_of_getElem? (i := 55) rfl))) (ty := .long) (by decide)
    refine own_go (B := (T5.setTop (mkF m 74 #[.val (.long q0), .second, .val (.long q1), .second, .val (.long q2), .second, .val (.int p3), .val (.long q4), .second, .val (.long (q2 &&& (9223372036854775807 : Int64))), .second, .val (.long (q1 &&& (9223372036854775807 : Int64))), .second, .val (.long (q0 + (q1 &&& (9223372036854775807 : Int64)))), .second, .val (.ref b1), .unset, .unset] [(.ref b5)]))) (fun t k => st5 _ k) ?_
    refine own_go (B := (T5.setTop (mkF m 75 #[.val (.long q0), .second, .val (.long q1), .second, .val (.long q2), .second, .val (.int p3), .val (.long q4), .second, .val (.long (q2 &&& (9223372036854775807 : Int64))), .second, .val (.long (q1 &&& (9223372036854775807 : Int64))), .second, .val (.long (q0 + (q1 &&& (9223372036854775807 : Int64)))), .second, .val (.ref b1), .unset, .unset] [(.ref b5), (.ref b5)]))) (fun t k => XS.dup X5.here hx rfl (hb hby at_74) rfl rfl k) ?_
    refine own_go (B := (T5.setTop (mkF m 77 #[.val (.long q0), .second, .val (.long q1), .second, .val (.long q2), .second, .val (.int p3), .val (.long q4), .second, .val (.long (q2 &&& (9223372036854775807 : Int64))), .second, .val (.long (q1 &&& (9223372036854775807 : Int64))), .second, .val (.long (q0 + (q1 &&& (9223372036854775807 : Int64)))), .second, .val (.ref b1), .unset, .unset] [(.ref b1), (.ref b5), (.ref b5)]))) (fun t k => XS.aload X5.here hx rfl (hb hby at_75) rfl rfl k) ?_
    refine own_go (B := (T5.setTop (mkF m 79 #[.val (.long q0), .second, .val (.long q1), .second, .val (.long q2), .second, .val (.int p3), .val (.long q4), .second, .val (.long (q2 &&& (9223372036854775807 : Int64))), .second, .val (.long (q1 &&& (9223372036854775807 : Int64))), .second, .val (.long (q0 + (q1 &&& (9223372036854775807 : Int64)))), .second, .val (.ref b1), .unset, .unset] [(.long q4), (.ref b1), (.ref b5), (.ref b5)]))) (fun t k => XS.lload X5.here hx rfl (hb hby at_77) rfl k) ?_
    refine own_go (B := (T5.setTop (mkF m 81 #[.val (.long q0), .second, .val (.long q1), .second, .val (.long q2), .second, .val (.int p3), .val (.long q4), .second, .val (.long (q2 &&& (9223372036854775807 : Int64))), .second, .val (.long (q1 &&& (9223372036854775807 : Int64))), .second, .val (.long (q0 + (q1 &&& (9223372036854775807 : Int64)))), .second, .val (.ref b1), .unset, .unset] [(.long q4), (.long q4), (.ref b1), (.ref b5), (.ref b5)]))) (fun t k => XS.lload X5.here hx rfl (hb hby at_79) rfl k) ?_
    refine own_go (B := (T5.setTop (mkF m 82 #[.val (.long q0), .second, .val (.long q1), .second, .val (.long q2), .second, .val (.int p3), .val (.long q4), .second, .val (.long (q2 &&& (9223372036854775807 : Int64))), .second, .val (.long (q1 &&& (9223372036854775807 : Int64))), .second, .val (.long (q0 + (q1 &&& (9223372036854775807 : Int64)))), .second, .val (.ref b1), .unset, .unset] [(.long q0), (.long q4), (.long q4), (.ref b1), (.ref b5), (.ref b5)]))) (fun t k => XS.lloadN X5.here hx rfl (hb hby at_81) rfl k) ?_
    refine own_go (B := (T5.setTop (mkF m 84 #[.val (.long q0), .second, .val (.long q1), .second, .val (.long q2), .second, .val (.int p3), .val (.long q4), .second, .val (.long (q2 &&& (9223372036854775807 : Int64))), .second, .val (.long (q1 &&& (9223372036854775807 : Int64))), .second, .val (.long (q0 + (q1 &&& (9223372036854775807 : Int64)))), .second, .val (.ref b1), .unset, .unset] [(.long (q2 &&& (9223372036854775807 : Int64))), (.long q0), (.long q4), (.long q4), (.ref b1), (.ref b5), (.ref b5)]))) (fun t k => XS.lload X5.here hx rfl (hb hby at_82) rfl k) ?_
    obtain ⟨_, _, ⟨T6, L6, k6, n6⟩, -, X6, ⟨Lc6, hQ6, l6, y6, z6⟩, st6⟩ := X5.specialBack hx (y := (⟨"com/example/tickwright/tickwright/dispatch/Pending", "<init>", "(Lcom/example/tickwright/tickwright/dispatch/Dispatcher$Task;JJJJ)V"⟩ : MethodName)) rfl hown4 (mvT hZ4 (hw _ (List.mem_of_getElem? (i := 42) rfl))) (mvT hZ4 (hw _ (List.mem_of_getElem? (i := 43) rfl))) (mvT hZ4 (hw _ (List.mem_of_getElem? (i := 44) rfl))) (by decide) (backOf (W := 1) (rm6 l Z ta hw [] b5 b1 q4 q4 q0 (q2 &&& (9223372036854775807 : Int64))  h5 n0 Zs5 A5 F_task_b5 F_serial_b5 F_waitingSince_b5 F_submittedAt_b5 F_timeToLiveNanos_b5 g_b5) hZ4 (hw _ (List.mem_of_getElem? (i := 44) rfl)) (hw _ (List.mem_of_getElem? (i := 41) rfl)) (by decide) (by decide)) (g := (mkF m 84 #[.val (.long q0), .second, .val (.long q1), .second, .val (.long q2), .second, .val (.int p3), .val (.long q4), .second, .val (.long (q2 &&& (9223372036854775807 : Int64))), .second, .val (.long (q1 &&& (9223372036854775807 : Int64))), .second, .val (.long (q0 + (q1 &&& (9223372036854775807 : Int64)))), .second, .val (.ref b1), .unset, .unset] [(.long (q2 &&& (9223372036854775807 : Int64))), (.long q0), (.long q4), (.long q4), (.ref b1), (.ref b5), (.ref b5)])) rfl (by rw [hml]; rfl) (Steps.refl _) (a := b5) (argsL := [(.ref b1), (.long q4), (.long q4), (.long q0), (.long (q2 &&& (9223372036854775807 : Int64)))]) (rest := [(.ref b5)]) (lenOf pd_0_2 rfl) rfl (by show 2 * 0 + _ ≤ _; exact Nat.le_of_eq rfl) (hb hby at_84) (fun _ _ => ⟨rfl, e5, (by decide : (((((0 + 1) + 1) + 1) + 4) + 1) + 0 ≤ _), (by decide : (((((0 + 2) + 1) + 1) + 44) + 5) + 0 ≤ _)⟩)
    dsimp only [Pt.U, Pt.locs, Pt.cells, Pt.slots] at X6 l6 y6 z6 st6 hQ6
    subst l6 y6 z6
    obtain ⟨rfl, N6q, K6, Fq6_0, Fq6_1⟩ := hQ6
    have E_b1_6 := E_b1_5.keep K6
    have E_r2_6 := E_r2_5.keep K6
    have E_r3_6 := E_r3_5.keep K6
    have E_b5_6 := A5.keep K6
    have Zs6 : n0 ≤ T6.heap.size := Nat.le_trans Zs5 K6.1
    have O6 := O5.keep K6 (allS g_b5 all0)
    have N6 := Fr.app N4 N6q
    have hk6 := Nat.le_trans hk5 K6.1
    refine own_go (B := (T6.setTop (mkF m 87 #[.val (.long q0), .second, .val (.long q1), .second, .val (.long q2), .second, .val (.int p3), .val (.long q4), .second, .val (.long (q2 &&& (9223372036854775807 : Int64))), .second, .val (.long (q1 &&& (9223372036854775807 : Int64))), .second, .val (.long (q0 + (q1 &&& (9223372036854775807 : Int64)))), .second, .val (.ref b1), .unset, .unset] [(.ref b5)]))) (fun t k => st6.trans k) ?_
    refine own_go (B := (T6.setTop (mkF m 89 #[.val (.long q0), .second, .val (.long q1), .second, .val (.long q2), .second, .val (.int p3), .val (.long q4), .second, .val (.long (q2 &&& (9223372036854775807 : Int64))), .second, .val (.long (q1 &&& (9223372036854775807 : Int64))), .second, .val (.long (q0 + (q1 &&& (9223372036854775807 : Int64)))), .second, .val (.ref b1), .val (.ref b5), .unset] []))) (fun t k => XS.astore X6.here hx rfl (hb hby at_87) rfl rfl (l' := #[.val (.long q0), .second, .val (.long q1), .second, .val (.long q2), .second, .val (.int p3), .val (.long q4), .second, .val (.long (q2 &&& (9223372036854775807 : Int64))), .second, .val (.long (q1 &&& (9223372036854775807 : Int64))), .second, .val (.long (q0 + (q1 &&& (9223372036854775807 : Int64)))), .second, .val (.ref b1), .val (.ref b5), .unset]) rfl k) ?_
    refine own_go (B := (T6.setTop (mkF m 91 #[.val (.long q0), .second, .val (.long q1), .second, .val (.long q2), .second, .val (.int p3), .val (.long q4), .second, .val (.long (q2 &&& (9223372036854775807 : Int64))), .second, .val (.long (q1 &&& (9223372036854775807 : Int64))), .second, .val (.long (q0 + (q1 &&& (9223372036854775807 : Int64)))), .second, .val (.ref b1), .val (.ref b5), .unset] [(.long (q1 &&& (9223372036854775807 : Int64)))]))) (fun t k => XS.lload X6.here hx rfl (hb hby at_89) rfl k) ?_
    refine own_go (B := (T6.setTop (mkF m 93 #[.val (.long q0), .second, .val (.long q1), .second, .val (.long q2), .second, .val (.int p3), .val (.long q4), .second, .val (.long (q2 &&& (9223372036854775807 : Int64))), .second, .val (.long (q1 &&& (9223372036854775807 : Int64))), .second, .val (.long (q0 + (q1 &&& (9223372036854775807 : Int64)))), .second, .val (.ref b1), .val (.ref b5), .unset] [(.long (q2 &&& (9223372036854775807 : Int64))), (.long (q1 &&& (9223372036854775807 : Int64)))]))) (fun t k => XS.lload X6.here hx rfl (hb hby at_91) rfl k) ?_
    refine own_go (B := (T6.setTop (mkF m 94 #[.val (.long q0), .second, .val (.long q1), .second, .val (.long q2), .second, .val (.int p3), .val (.long q4), .second, .val (.long (q2 &&& (9223372036854775807 : Int64))), .second, .val (.long (q1 &&& (9223372036854775807 : Int64))), .second, .val (.long (q0 + (q1 &&& (9223372036854775807 : Int64)))), .second, .val (.ref b1), .val (.ref b5), .unset] [(.int (lcmpW (q1 &&& (9223372036854775807 : Int64)) (q2 &&& (9223372036854775807 : Int64))))]))) (fun t k => XS.lcmp X6.here hx rfl (hb hby at_93) rfl k) ?_
    by_cases hc94 : (q1 &&& (9223372036854775807 : Int64)) < (q2 &&& (9223372036854775807 : Int64))
    · refine own_go (B := (T6.setTop (mkF m 101 #[.val (.long q0), .second, .val (.long q1), .second, .val (.long q2), .second, .val (.int p3), .val (.long q4), .second, .val (.long (q2 &&& (9223372036854775807 : Int64))), .second, .val (.long (q1 &&& (9223372036854775807 : Int64))), .second, .val (.long (q0 + (q1 &&& (9223372036854775807 : Int64)))), .second, .val (.ref b1), .val (.ref b5), .unset] []))) (fun t k => XS.ifYes X6.here hx rfl (pc0 := 94) (pc' := 101) rfl (hb hby at_94) rfl ((if0 _ _).trans (tlt ((lw_lt _ _).mpr hc94)).1) (by decide) (by decide) k) ?_
      refine own_go (B := (T6.setTop (mkF m 102 #[.val (.long q0), .second, .val (.long q1), .second, .val (.long q2), .second, .val (.int p3), .val (.long q4), .second, .val (.long (q2 &&& (9223372036854775807 : Int64))), .second, .val (.long (q1 &&& (9223372036854775807 : Int64))), .second, .val (.long (q0 + (q1 &&& (9223372036854775807 : Int64)))), .second, .val (.ref b1), .val (.ref b5), .unset] [(.int (0 : Int32))]))) (fun t k => XS.iconst X6.here hx rfl (hb hby at_101) k) ?_
      refine own_go (B := (T6.setTop (mkF m 104 #[.val (.long q0), .second, .val (.long q1), .second, .val (.long q2), .second, .val (.int p3), .val (.long q4), .second, .val (.long (q2 &&& (9223372036854775807 : Int64))), .second, .val (.long (q1 &&& (9223372036854775807 : Int64))), .second, .val (.long (q0 + (q1 &&& (9223372036854775807 : Int64)))), .second, .val (.ref b1), .val (.ref b5), .val (.int (0 : Int32))] []))) (fun t k => XS.istore X6.here hx rfl (hb hby at_102) rfl (l' := #[.val (.long q0), .second, .val (.long q1), .second, .val (.long q2), .second, .val (.int p3), .val (.long q4), .second, .val (.long (q2 &&& (9223372036854775807 : Int64))), .second, .val (.long (q1 &&& (9223372036854775807 : Int64))), .second, .val (.long (q0 + (q1 &&& (9223372036854775807 : Int64)))), .second, .val (.ref b1), .val (.ref b5), .val (.int (0 : Int32))]) rfl k) ?_
      refine own_go (B := (T6.setTop (mkF m 106 #[.val (.long q0), .second, .val (.long q1), .second, .val (.long q2), .second, .val (.int p3), .val (.long q4), .second, .val (.long (q2 &&& (9223372036854775807 : Int64))), .second, .val (.long (q1 &&& (9223372036854775807 : Int64))), .second, .val (.long (q0 + (q1 &&& (9223372036854775807 : Int64)))), .second, .val (.ref b1), .val (.ref b5), .val (.int (0 : Int32))] [(.ref b5)]))) (fun t k => XS.aload X6.here hx rfl (hb hby at_104) rfl rfl k) ?_
      refine own_go (B := (T6.setTop (mkF m 108 #[.val (.long q0), .second, .val (.long q1), .second, .val (.long q2), .second, .val (.int p3), .val (.long q4), .second, .val (.long (q2 &&& (9223372036854775807 : Int64))), .second, .val (.long (q1 &&& (9223372036854775807 : Int64))), .second, .val (.long (q0 + (q1 &&& (9223372036854775807 : Int64)))), .second, .val (.ref b1), .val (.ref b5), .val (.int (0 : Int32))] [(.long (q0 + (q1 &&& (9223372036854775807 : Int64)))), (.ref b5)]))) (fun t k => XS.lload X6.here hx rfl (hb hby at_106) rfl k) ?_
      obtain ⟨cq7, kq7, q7a, q7b, q7c⟩ := isOf hZ4 rfl E_b5_6
      obtain ⟨_, _, ⟨T7, L7, k7, n7⟩, -, X7, ⟨Lc7, hQ7, l7, y7, z7⟩, st7⟩ := X6.virtualBack hx (y := (⟨"com/example/tickwright/tickwright/dispatch/Pending", "hasExpired", "(J)Z"⟩ : MethodName)) (z := (⟨"com/example/tickwright/tickwright/dispatch/Pending", "hasExpired", "(J)Z"⟩ : MethodName)) hown4 (mvT hZ4 (hw _ (List.mem_of_getElem? (i := 56) rfl))) (mvT hZ4 (hw _ (List.mem_of_getElem? (i := 57) rfl))) (notFace_of_selects (args := #[]) (mvT hZ4 (hw _ (List.mem_of_getElem? (i := 59) rfl)))) (mvT hZ4 (hw _ (List.mem_of_getElem? (i := 59) rfl))) (mvT hZ4 (hw _ (List.mem_of_getElem? (i := 58) rfl))) (by decide) (backOf (W := 0) (rm7 l Z ta hw [] b5 (q0 + (q1 &&& (9223372036854775807 : Int64))) q0 (q2 &&& (9223372036854775807 : Int64)) T6.heap n0 Fq6_0 Fq6_1) hZ4 (hw _ (List.mem_of_getElem? (i := 60) rfl)) (hw _ (List.mem_of_getElem? (i := 41) rfl)) (by decide) (by decide)) q7a q7c (g := (mkF m 108 #[.val (.long q0), .second, .val (.long q1), .second, .val (.long q2), .second, .val (.int p3), .val (.long q4), .second, .val (.long (q2 &&& (9223372036854775807 : Int64))), .second, .val (.long (q1 &&& (9223372036854775807 : Int64))), .second, .val (.long (q0 + (q1 &&& (9223372036854775807 : Int64)))), .second, .val (.ref b1), .val (.ref b5), .val (.int (0 : Int32))] [(.long (q0 + (q1 &&& (9223372036854775807 : Int64)))), (.ref b5)])) rfl (by rw [hml]; rfl) (Steps.refl _) (argsL := [(.long (q0 + (q1 &&& (9223372036854775807 : Int64))))]) (rest := []) (lenOf pd_0_3 rfl) rfl (by show 2 * 0 + _ ≤ _; exact Nat.le_of_eq rfl) (hb hby at_108) (fun _ _ => ⟨rfl, rfl, (by decide : ((((((0 + 1) + 1) + 1) + 4) + 1) + 0) + 0 ≤ _), (by decide : ((((((0 + 2) + 1) + 1) + 44) + 5) + 0) + 0 ≤ _)⟩)
      dsimp only [Pt.U, Pt.locs, Pt.cells, Pt.slots] at X7 l7 y7 z7 st7 hQ7
      subst l7 y7 z7
      obtain ⟨rfl, N7q, e7⟩ := hQ7
      replace e7 := e7
      have N7 := Fr.app N6 N7q
      refine own_go (B := (T7.setTop (mkF m 111 #[.val (.long q0), .second, .val (.long q1), .second, .val (.long q2), .second, .val (.int p3), .val (.long q4), .second, .val (.long (q2 &&& (9223372036854775807 : Int64))), .second, .val (.long (q1 &&& (9223372036854775807 : Int64))), .second, .val (.long (q0 + (q1 &&& (9223372036854775807 : Int64)))), .second, .val (.ref b1), .val (.ref b5), .val (.int (0 : Int32))] [(.int (F7 b5 (q0 + (q1 &&& (9223372036854775807 : Int64))) q0 (q2 &&& (9223372036854775807 : Int64))))]))) (fun t k => st7.trans k) ?_
      refine own_go (B := (T7.setTop (mkF m 113 #[.val (.long q0), .second, .val (.long q1), .second, .val (.long q2), .second, .val (.int p3), .val (.long q4), .second, .val (.long (q2 &&& (9223372036854775807 : Int64))), .second, .val (.long (q1 &&& (9223372036854775807 : Int64))), .second, .val (.long (q0 + (q1 &&& (9223372036854775807 : Int64)))), .second, .val (.ref b1), .val (.ref b5), .val (.int (0 : Int32))] [(.int (0 : Int32)), (.int (F7 b5 (q0 + (q1 &&& (9223372036854775807 : Int64))) q0 (q2 &&& (9223372036854775807 : Int64))))]))) (fun t k => XS.iload X7.here hx rfl (hb hby at_111) rfl k) ?_
      refine own_go (B := (T7.setTop (mkF m 116 #[.val (.long q0), .second, .val (.long q1), .second, .val (.long q2), .second, .val (.int p3), .val (.long q4), .second, .val (.long (q2 &&& (9223372036854775807 : Int64))), .second, .val (.long (q1 &&& (9223372036854775807 : Int64))), .second, .val (.long (q0 + (q1 &&& (9223372036854775807 : Int64)))), .second, .val (.ref b1), .val (.ref b5), .val (.int (0 : Int32))] []))) (fun t k => XS.icmpNo X7.here hx rfl (hb hby at_113) rfl (teq (own_lawT hc94)).2 k) ?_
      refine own_go (B := (T7.setTop (mkF m 117 #[.val (.long q0), .second, .val (.long q1), .second, .val (.long q2), .second, .val (.int p3), .val (.long q4), .second, .val (.long (q2 &&& (9223372036854775807 : Int64))), .second, .val (.long (q1 &&& (9223372036854775807 : Int64))), .second, .val (.long (q0 + (q1 &&& (9223372036854775807 : Int64)))), .second, .val (.ref b1), .val (.ref b5), .val (.int (0 : Int32))] [(.int (1 : Int32))]))) (fun t k => XS.iconst X7.here hx rfl (hb hby at_116) k) ?_
      refine own_go (B := (T7.setTop (mkF m 121 #[.val (.long q0), .second, .val (.long q1), .second, .val (.long q2), .second, .val (.int p3), .val (.long q4), .second, .val (.long (q2 &&& (9223372036854775807 : Int64))), .second, .val (.long (q1 &&& (9223372036854775807 : Int64))), .second, .val (.long (q0 + (q1 &&& (9223372036854775807 : Int64)))), .second, .val (.ref b1), .val (.ref b5), .val (.int (0 : Int32))] [(.int (1 : Int32))]))) (fun t k => XS.goto X7.here hx rfl (pc0 := 117) (pc' := 121) rfl (hb hby at_117) (by decide) (by decide) k) ?_
      obtain ⟨fs, hr, hrun, hended, hWd⟩ := X7.leaveW hS4 (show _ ≤ T7.heap.size by rw [e7]; exact hk6) (v := some (.int (1 : Int32))) (fun h => by rw [Bd.returns] at h; cases h)
      exact ⟨_, _, retN X7 hx (t := .boolean) Bd.returns (by simp) (hb hby at_121) hr, hrun, hended, _, _, rfl, ⟨rfl, N7⟩, hWd.1, hWd.2.1, hWd.2.2.1, hWd.2.2.2.mono (by decide) (by decide)⟩
    · refine own_go (B := (T6.setTop (mkF m 97 #[.val (.long q0), .second, .val (.long q1), .second, .val (.long q2), .second, .val (.int p3), .val (.long q4), .second, .val (.long (q2 &&& (9223372036854775807 : Int64))), .second, .val (.long (q1 &&& (9223372036854775807 : Int64))), .second, .val (.long (q0 + (q1 &&& (9223372036854775807 : Int64)))), .second, .val (.ref b1), .val (.ref b5), .unset] []))) (fun t k => XS.ifNo X6.here hx rfl (hb hby at_94) rfl ((if0 _ _).trans (flt (fun z => hc94 ((lw_lt _ _).mp z))).1) k) ?_
      refine own_go (B := (T6.setTop (mkF m 98 #[.val (.long q0), .second, .val (.long q1), .second, .val (.long q2), .second, .val (.int p3), .val (.long q4), .second, .val (.long (q2 &&& (9223372036854775807 : Int64))), .second, .val (.long (q1 &&& (9223372036854775807 : Int64))), .second, .val (.long (q0 + (q1 &&& (9223372036854775807 : Int64)))), .second, .val (.ref b1), .val (.ref b5), .unset] [(.int (1 : Int32))]))) (fun t k => XS.iconst X6.here hx rfl (hb hby at_97) k) ?_
      refine own_go (B := (T6.setTop (mkF m 102 #[.val (.long q0), .second, .val (.long q1), .second, .val (.long q2), .second, .val (.int p3), .val (.long q4), .second, .val (.long (q2 &&& (9223372036854775807 : Int64))), .second, .val (.long (q1 &&& (9223372036854775807 : Int64))), .second, .val (.long (q0 + (q1 &&& (9223372036854775807 : Int64)))), .second, .val (.ref b1), .val (.ref b5), .unset] [(.int (1 : Int32))]))) (fun t k => XS.goto X6.here hx rfl (pc0 := 98) (pc' := 102) rfl (hb hby at_98) (by decide) (by decide) k) ?_
      refine own_go (B := (T6.setTop (mkF m 104 #[.val (.long q0), .second, .val (.long q1), .second, .val (.long q2), .second, .val (.int p3), .val (.long q4), .second, .val (.long (q2 &&& (9223372036854775807 : Int64))), .second, .val (.long (q1 &&& (9223372036854775807 : Int64))), .second, .val (.long (q0 + (q1 &&& (9223372036854775807 : Int64)))), .second, .val (.ref b1), .val (.ref b5), .val (.int (1 : Int32))] []))) (fun t k => XS.istore X6.here hx rfl (hb hby at_102) rfl (l' := #[.val (.long q0), .second, .val (.long q1), .second, .val (.long q2), .second, .val (.int p3), .val (.long q4), .second, .val (.long (q2 &&& (9223372036854775807 : Int64))), .second, .val (.long (q1 &&& (9223372036854775807 : Int64))), .second, .val (.long (q0 + (q1 &&& (9223372036854775807 : Int64)))), .second, .val (.ref b1), .val (.ref b5), .val (.int (1 : Int32))]) rfl k) ?_
      refine own_go (B := (T6.setTop (mkF m 106 #[.val (.long q0), .second, .val (.long q1), .second, .val (.long q2), .second, .val (.int p3), .val (.long q4), .second, .val (.long (q2 &&& (9223372036854775807 : Int64))), .second, .val (.long (q1 &&& (9223372036854775807 : Int64))), .second, .val (.long (q0 + (q1 &&& (9223372036854775807 : Int64)))), .second, .val (.ref b1), .val (.ref b5), .val (.int (1 : Int32))] [(.ref b5)]))) (fun t k => XS.aload X6.here hx rfl (hb hby at_104) rfl rfl k) ?_
      refine own_go (B := (T6.setTop (mkF m 108 #[.val (.long q0), .second, .val (.long q1), .second, .val (.long q2), .second, .val (.int p3), .val (.long q4), .second, .val (.long (q2 &&& (9223372036854775807 : Int64))), .second, .val (.long (q1 &&& (9223372036854775807 : Int64))), .second, .val (.long (q0 + (q1 &&& (9223372036854775807 : Int64)))), .second, .val (.ref b1), .val (.ref b5), .val (.int (1 : Int32))] [(.long (q0 + (q1 &&& (9223372036854775807 : Int64)))), (.ref b5)]))) (fun t k => XS.lload X6.here hx rfl (hb hby at_106) rfl k) ?_
      obtain ⟨cq8, kq8, q8a, q8b, q8c⟩ := isOf hZ4 rfl E_b5_6
      obtain ⟨_, _, ⟨T8, L8, k8, n8⟩, -, X8, ⟨Lc8, hQ8, l8, y8, z8⟩, st8⟩ := X6.virtualBack hx (y := (⟨"com/example/tickwright/tickwright/dispatch/Pending", "hasExpired", "(J)Z"⟩ : MethodName)) (z := (⟨"com/example/tickwright/tickwright/dispatch/Pending", "hasExpired", "(J)Z"⟩ : MethodName)) hown4 (mvT hZ4 (hw _ (List.mem_of_getElem? (i := 56) rfl))) (mvT hZ4 (hw _ (List.mem_of_getElem? (i := 57) rfl))) (notFace_of_selects (args := #[]) (mvT hZ4 (hw _ (List.mem_of_getElem? (i := 59) rfl)))) (mvT hZ4 (hw _ (List.mem_of_getElem? (i := 59) rfl))) (mvT hZ4 (hw _ (List.mem_of_getElem? (i := 58) rfl))) (by decide) (backOf (W := 0) (rm7 l Z ta hw [] b5 (q0 + (q1 &&& (9223372036854775807 : Int64))) q0 (q2 &&& (9223372036854775807 : Int64)) T6.heap n0 Fq6_0 Fq6_1) hZ4 (hw _ (List.mem_of_getElem? (i := 60) rfl)) (hw _ (List.mem_of_getElem? (i := 41) rfl)) (by decide) (by decide)) q8a q8c (g := (mkF m 108 #[.val (.long q0), .second, .val (.long q1), .second, .val (.long q2), .second, .val (.int p3), .val (.long q4), .second, .val (.long (q2 &&& (9223372036854775807 : Int64))), .second, .val (.long (q1 &&& (9223372036854775807 : Int64))), .second, .val (.long (q0 + (q1 &&& (9223372036854775807 : Int64)))), .second, .val (.ref b1), .val (.ref b5), .val (.int (1 : Int32))] [(.long (q0 + (q1 &&& (9223372036854775807 : Int64)))), (.ref b5)])) rfl (by rw [hml]; rfl) (Steps.refl _) (argsL := [(.long (q0 + (q1 &&& (9223372036854775807 : Int64))))]) (rest := []) (lenOf pd_0_3 rfl) rfl (by show 2 * 0 + _ ≤ _; exact Nat.le_of_eq rfl) (hb hby at_108) (fun _ _ => ⟨rfl, rfl, (by decide : ((((((0 + 1) + 1) + 1) + 4) + 1) + 0) + 0 ≤ _), (by decide : ((((((0 + 2) + 1) + 1) + 44) + 5) + 0) + 0 ≤ _)⟩)
      dsimp only [Pt.U, Pt.locs, Pt.cells, Pt.slots] at X8 l8 y8 z8 st8 hQ8
      subst l8 y8 z8
      obtain ⟨rfl, N8q, e8⟩ := hQ8
      replace e8 := e8
      have N8 := Fr.app N6 N8q
      refine own_go (B := (T8.setTop (mkF m 111 #[.val (.long q0), .second, .val (.long q1), .second, .val (.long q2), .second, .val (.int p3), .val (.long q4), .second, .val (.long (q2 &&& (9223372036854775807 : Int64))), .second, .val (.long (q1 &&& (9223372036854775807 : Int64))), .second, .val (.long (q0 + (q1 &&& (9223372036854775807 : Int64)))), .second, .val (.ref b1), .val (.ref b5), .val (.int (1 : Int32))] [(.int (F7 b5 (q0 + (q1 &&& (9223372036854775807 : Int64))) q0 (q2 &&& (9223372036854775807 : Int64))))]))) (fun t k => st8.trans k) ?_
      refine own_go (B := (T8.setTop (mkF m 113 #[.val (.long q0), .second, .val (.long q1), .second, .val (.long q2), .second, .val (.int p3), .val (.long q4), .second, .val (.long (q2 &&& (9223372036854775807 : Int64))), .second, .val (.long (q1 &&& (9223372036854775807 : Int64))), .second, .val (.long (q0 + (q1 &&& (9223372036854775807 : Int64)))), .second, .val (.ref b1), .val (.ref b5), .val (.int (1 : Int32))] [(.int (1 : Int32)), (.int (F7 b5 (q0 + (q1 &&& (9223372036854775807 : Int64))) q0 (q2 &&& (9223372036854775807 : Int64))))]))) (fun t k => XS.iload X8.here hx rfl (hb hby at_111) rfl k) ?_
      refine own_go (B := (T8.setTop (mkF m 116 #[.val (.long q0), .second, .val (.long q1), .second, .val (.long q2), .second, .val (.int p3), .val (.long q4), .second, .val (.long (q2 &&& (9223372036854775807 : Int64))), .second, .val (.long (q1 &&& (9223372036854775807 : Int64))), .second, .val (.long (q0 + (q1 &&& (9223372036854775807 : Int64)))), .second, .val (.ref b1), .val (.ref b5), .val (.int (1 : Int32))] []))) (fun t k => XS.icmpNo X8.here hx rfl (hb hby at_113) rfl (teq (own_lawF hc94)).2 k) ?_
      refine own_go (B := (T8.setTop (mkF m 117 #[.val (.long q0), .second, .val (.long q1), .second, .val (.long q2), .second, .val (.int p3), .val (.long q4), .second, .val (.long (q2 &&& (9223372036854775807 : Int64))), .second, .val (.long (q1 &&& (9223372036854775807 : Int64))), .second, .val (.long (q0 + (q1 &&& (9223372036854775807 : Int64)))), .second, .val (.ref b1), .val (.ref b5), .val (.int (1 : Int32))] [(.int (1 : Int32))]))) (fun t k => XS.iconst X8.here hx rfl (hb hby at_116) k) ?_
      refine own_go (B := (T8.setTop (mkF m 121 #[.val (.long q0), .second, .val (.long q1), .second, .val (.long q2), .second, .val (.int p3), .val (.long q4), .second, .val (.long (q2 &&& (9223372036854775807 : Int64))), .second, .val (.long (q1 &&& (9223372036854775807 : Int64))), .second, .val (.long (q0 + (q1 &&& (9223372036854775807 : Int64)))), .second, .val (.ref b1), .val (.ref b5), .val (.int (1 : Int32))] [(.int (1 : Int32))]))) (fun t k => XS.goto X8.here hx rfl (pc0 := 117) (pc' := 121) rfl (hb hby at_117) (by decide) (by decide) k) ?_
      obtain ⟨fs, hr, hrun, hended, hWd⟩ := X8.leaveW hS4 (show _ ≤ T8.heap.size by rw [e8]; exact hk6) (v := some (.int (1 : Int32))) (fun h => by rw [Bd.returns] at h; cases h)
      exact ⟨_, _, retN X8 hx (t := .boolean) Bd.returns (by simp) (hb hby at_121) hr, hrun, hended, _, _, rfl, ⟨rfl, N8⟩, hWd.1, hWd.2.1, hWd.2.2.1, hWd.2.2.2.mono (by decide) (by decide)⟩
  · refine own_go (B := (s₁.setTop (mkF m 15 #[.val (.long q0), .second, .val (.long q1), .second, .val (.long q2), .second, .val (.int p3), .val (.long q4), .second, .val (.long (q2 &&& (9223372036854775807 : Int64))), .second, .unset, .unset, .unset, .unset, .unset, .unset, .unset] []))) (fun t k => XS.ifNo X0.here hx rfl (hb hby at_12) rfl ((if0 _ _).trans (feq hc12).1) k) ?_
    refine own_go (B := (s₁.setTop (mkF m 17 #[.val (.long q0), .second, .val (.long q1), .second, .val (.long q2), .second, .val (.int p3), .val (.long q4), .second, .val (.long (q2 &&& (9223372036854775807 : Int64))), .second, .unset, .unset, .unset, .unset, .unset, .unset, .unset] [(.int p3)]))) (fun t k => XS.iload X0.here hx rfl (hb hby at_15) rfl k) ?_
    refine own_go (B := (s₁.setTop (mkF m 18 #[.val (.long q0), .second, .val (.long q1), .second, .val (.long q2), .second, .val (.int p3), .val (.long q4), .second, .val (.long (q2 &&& (9223372036854775807 : Int64))), .second, .unset, .unset, .unset, .unset, .unset, .unset, .unset] [(.int (1 : Int32)), (.int p3)]))) (fun t k => XS.iconst X0.here hx rfl (hb hby at_17) k) ?_
    refine own_go (B := (s₁.setTop (mkF m 19 #[.val (.long q0), .second, .val (.long q1), .second, .val (.long q2), .second, .val (.int p3), .val (.long q4), .second, .val (.long (q2 &&& (9223372036854775807 : Int64))), .second, .unset, .unset, .unset, .unset, .unset, .unset, .unset] [(.int ((p3.toUInt32 >>> ((1 : Int32) &&& 31).toUInt32).toInt32))]))) (fun t k => XS.iushr X0.here hx rfl (hb hby at_18) rfl k) ?_
    refine own_go (B := (s₁.setTop (mkF m 20 #[.val (.long q0), .second, .val (.long q1), .second, .val (.long q2), .second, .val (.int p3), .val (.long q4), .second, .val (.long (q2 &&& (9223372036854775807 : Int64))), .second, .unset, .unset, .unset, .unset, .unset, .unset, .unset] [(.int (3 : Int32)), (.int ((p3.toUInt32 >>> ((1 : Int32) &&& 31).toUInt32).toInt32))]))) (fun t k => XS.iconst X0.here hx rfl (hb hby at_19) k) ?_
    refine own_go (B := (s₁.setTop (mkF m 21 #[.val (.long q0), .second, .val (.long q1), .second, .val (.long q2), .second, .val (.int p3), .val (.long q4), .second, .val (.long (q2 &&& (9223372036854775807 : Int64))), .second, .unset, .unset, .unset, .unset, .unset, .unset, .unset] [(.int (((p3.toUInt32 >>> ((1 : Int32) &&& 31).toUInt32).toInt32) % (3 : Int32)))]))) (fun t k => iremM X0 hx rfl (hb hby at_20) rfl (by decide) k) ?_
    refine own_go (B := (s₁.setTop (mkF m 22 #[.val (.long q0), .second, .val (.long q1), .second, .val (.long q2), .second, .val (.int p3), .val (.long q4), .second, .val (.long (q2 &&& (9223372036854775807 : Int64))), .second, .unset, .unset, .unset, .unset, .unset, .unset, .unset] [(.int (1 : Int32)), (.int (((p3.toUInt32 >>> ((1 : Int32) &&& 31).toUInt32).toInt32) % (3 : Int32)))]))) (fun t k => XS.iconst X0.here hx rfl (hb hby at_21) k) ?_
    refine own_go (B := (s₁.setTop (mkF m 23 #[.val (.long q0), .second, .val (.long q1), .second, .val (.long q2), .second, .val (.int p3), .val (.long q4), .second, .val (.long (q2 &&& (9223372036854775807 : Int64))), .second, .unset, .unset, .unset, .unset, .unset, .unset, .unset] [(.int ((((p3.toUInt32 >>> ((1 : Int32) &&& 31).toUInt32).toInt32) % (3 : Int32)) - (1 : Int32)))]))) (fun t k => XS.isub X0.here hx rfl (hb hby at_22) rfl k) ?_
    refine own_go (B := (s₁.setTop (mkF m 24 #[.val (.long q0), .second, .val (.long q1), .second, .val (.long q2), .second, .val (.int p3), .val (.long q4), .second, .val (.long (q2 &&& (9223372036854775807 : Int64))), .second, .unset, .unset, .unset, .unset, .unset, .unset, .unset] [(.long (((((p3.toUInt32 >>> ((1 : Int32) &&& 31).toUInt32).toInt32) % (3 : Int32)) - (1 : Int32)).toInt64))]))) (fun t k => XS.i2l X0.here hx rfl (hb hby at_23) rfl k) ?_
    refine own_go (B := (s₁.setTop (mkF m 26 #[.val (.long q0), .second, .val (.long q1), .second, .val (.long q2), .second, .val (.int p3), .val (.long q4), .second, .val (.long (q2 &&& (9223372036854775807 : Int64))), .second, .unset, .unset, .val (.long (((((p3.toUInt32 >>> ((1 : Int32) &&& 31).toUInt32).toInt32) % (3 : Int32)) - (1 : Int32)).toInt64)), .second, .unset, .unset, .unset] []))) (fun t k => XS.lstore X0.here hx rfl (hb hby at_24) rfl (l' := #[.val (.long q0), .second, .val (.long q1), .second, .val (.long q2), .second, .val (.int p3), .val (.long q4), .second, .val (.long (q2 &&& (9223372036854775807 : Int64))), .second, .unset, .unset, .val (.long (((((p3.toUInt32 >>> ((1 : Int32) &&& 31).toUInt32).toInt32) % (3 : Int32)) - (1 : Int32)).toInt64)), .second, .unset, .unset, .unset]) rfl k) ?_
    refine own_go (B := (s₁.setTop (mkF m 28 #[.val (.long q0), .second, .val (.long q1), .second, .val (.long q2), .second, .val (.int p3), .val (.long q4), .second, .val (.long (q2 &&& (9223372036854775807 : Int64))), .second, .unset, .unset, .val (.long (((((p3.toUInt32 >>> ((1 : Int32) &&& 31).toUInt32).toInt32) % (3 : Int32)) - (1 : Int32)).toInt64)), .second, .unset, .unset, .unset] [(.long (q2 &&& (9223372036854775807 : Int64)))]))) (fun t k => XS.lload X0.here hx rfl (hb hby at_26) rfl k) ?_
    refine own_go (B := (s₁.setTop (mkF m 30 #[.val (.long q0), .second, .val (.long q1), .second, .val (.long q2), .second, .val (.int p3), .val (.long q4), .second, .val (.long (q2 &&& (9223372036854775807 : Int64))), .second, .unset, .unset, .val (.long (((((p3.toUInt32 >>> ((1 : Int32) &&& 31).toUInt32).toInt32) % (3 : Int32)) - (1 : Int32)).toInt64)), .second, .unset, .unset, .unset] [(.long (((((p3.toUInt32 >>> ((1 : Int32) &&& 31).toUInt32).toInt32) % (3 : Int32)) - (1 : Int32)).toInt64)), (.long (q2 &&& (9223372036854775807 : Int64)))]))) (fun t k => XS.lload X0.here hx rfl (hb hby at_28) rfl k) ?_
    refine own_go (B := (s₁.setTop (mkF m 31 #[.val (.long q0), .second, .val (.long q1), .second, .val (.long q2), .second, .val (.int p3), .val (.long q4), .second, .val (.long (q2 &&& (9223372036854775807 : Int64))), .second, .unset, .unset, .val (.long (((((p3.toUInt32 >>> ((1 : Int32) &&& 31).toUInt32).toInt32) % (3 : Int32)) - (1 : Int32)).toInt64)), .second, .unset, .unset, .unset] [(.long ((q2 &&& (9223372036854775807 : Int64)) + (((((p3.toUInt32 >>> ((1 : Int32) &&& 31).toUInt32).toInt32) % (3 : Int32)) - (1 : Int32)).toInt64)))]))) (fun t k => XS.ladd X0.here hx rfl (hb hby at_30) rfl k) ?_
    refine own_go (B := (s₁.setTop (mkF m 34 #[.val (.long q0), .second, .val (.long q1), .second, .val (.long q2), .second, .val (.int p3), .val (.long q4), .second, .val (.long (q2 &&& (9223372036854775807 : Int64))), .second, .unset, .unset, .val (.long (((((p3.toUInt32 >>> ((1 : Int32) &&& 31).toUInt32).toInt32) % (3 : Int32)) - (1 : Int32)).toInt64)), .second, .unset, .unset, .unset] [(.long (9223372036854775807 : Int64)), (.long ((q2 &&& (9223372036854775807 : Int64)) + (((((p3.toUInt32 >>> ((1 : Int32) &&& 31).toUInt32).toInt32) % (3 : Int32)) - (1 : Int32)).toInt64)))]))) (fun t k => X0.ldc2Long hx hown (mvT hZ (hw _ (List.mem_of_getElem? (i := 0) rfl))) (g := (mkF m 31 #[.val (.long q0), .second, .val (.long q1), .second, .val (.long q2), .second, .val (.int p3), .val (.long q4), .second, .val (.long (q2 &&& (9223372036854775807 : Int64))), .second, .unset, .unset, .val (.long (((((p3.toUInt32 >>> ((1 : Int32) &&& 31).toUInt32).toInt32) % (3 : Int32)) - (1 : Int32)).toInt64)), .second, .unset, .unset, .unset] [(.long ((q2 &&& (9223372036854775807 : Int64)) + (((((p3.toUInt32 >>> ((1 : Int32) &&& 31).toUInt32).toInt32) % (3 : Int32)) - (1 : Int32)).toInt64)))])) rfl (hb hby at_31) _ k) ?_
    refine own_go (B := (s₁.setTop (mkF m 35 #[.val (.long q0), .second, .val (.long q1), .second, .val (.long q2), .second, .val (.int p3), .val (.long q4), .second, .val (.long (q2 &&& (9223372036854775807 : Int64))), .second, .unset, .unset, .val (.long (((((p3.toUInt32 >>> ((1 : Int32) &&& 31).toUInt32).toInt32) % (3 : Int32)) - (1 : Int32)).toInt64)), .second, .unset, .unset, .unset] [(.long (((q2 &&& (9223372036854775807 : Int64)) + (((((p3.toUInt32 >>> ((1 : Int32) &&& 31).toUInt32).toInt32) % (3 : Int32)) - (1 : Int32)).toInt64)) &&& (9223372036854775807 : Int64)))]))) (fun t k => XS.land X0.here hx rfl (hb hby at_34) rfl k) ?_
    refine own_go (B := (s₁.setTop (mkF m 37 #[.val (.long q0), .second, .val (.long q1), .second, .val (.long q2), .second, .val (.int p3), .val (.long q4), .second, .val (.long (q2 &&& (9223372036854775807 : Int64))), .second, .val (.long (((q2 &&& (9223372036854775807 : Int64)) + (((((p3.toUInt32 >>> ((1 : Int32) &&& 31).toUInt32).toInt32) % (3 : Int32)) - (1 : Int32)).toInt64)) &&& (9223372036854775807 : Int64))), .second, .val (.long (((((p3.toUInt32 >>> ((1 : Int32) &&& 31).toUInt32).toInt32) % (3 : Int32)) - (1 : Int32)).toInt64)), .second, .unset, .unset, .unset] []))) (fun t k => XS.lstore X0.here hx rfl (hb hby at_35) rfl (l' := #[.val (.long q0), .second, .val (.long q1), .second, .val (.long q2), .second, .val (.int p3), .val (.long q4), .second, .val (.long (q2 &&& (9223372036854775807 : Int64))), .second, .val (.long (((q2 &&& (9223372036854775807 : Int64)) + (((((p3.toUInt32 >>> ((1 : Int32) &&& 31).toUInt32).toInt32) % (3 : Int32)) - (1 : Int32)).toInt64)) &&& (9223372036854775807 : Int64))), .second, .val (.long (((((p3.toUInt32 >>> ((1 : Int32) &&& 31).toUInt32).toInt32) % (3 : Int32)) - (1 : Int32)).toInt64)), .second, .unset, .unset, .unset]) rfl k) ?_
    refine own_go (B := (s₁.setTop (mkF m 47 #[.val (.long q0), .second, .val (.long q1), .second, .val (.long q2), .second, .val (.int p3), .val (.long q4), .second, .val (.long (q2 &&& (9223372036854775807 : Int64))), .second, .val (.long (((q2 &&& (9223372036854775807 : Int64)) + (((((p3.toUInt32 >>> ((1 : Int32) &&& 31).toUInt32).toInt32) % (3 : Int32)) - (1 : Int32)).toInt64)) &&& (9223372036854775807 : Int64))), .second, .val (.long (((((p3.toUInt32 >>> ((1 : Int32) &&& 31).toUInt32).toInt32) % (3 : Int32)) - (1 : Int32)).toInt64)), .second, .unset, .unset, .unset] []))) (fun t k => XS.goto X0.here hx rfl (pc0 := 37) (pc' := 47) rfl (hb hby at_37) (by decide) (by decide) k) ?_
    refine own_go (B := (s₁.setTop (mkF m 48 #[.val (.long q0), .second, .val (.long q1), .second, .val (.long q2), .second, .val (.int p3), .val (.long q4), .second, .val (.long (q2 &&& (9223372036854775807 : Int64))), .second, .val (.long (((q2 &&& (9223372036854775807 : Int64)) + (((((p3.toUInt32 >>> ((1 : Int32) &&& 31).toUInt32).toInt32) % (3 : Int32)) - (1 : Int32)).toInt64)) &&& (9223372036854775807 : Int64))), .second, .val (.long (((((p3.toUInt32 >>> ((1 : Int32) &&& 31).toUInt32).toInt32) % (3 : Int32)) - (1 : Int32)).toInt64)), .second, .unset, .unset, .unset] [(.long q0)]))) (fun t k => XS.lloadN X0.here hx rfl (hb hby at_47) rfl k) ?_
    refine own_go (B := (s₁.setTop (mkF m 50 #[.val (.long q0), .second, .val (.long q1), .second, .val (.long q2), .second, .val (.int p3), .val (.long q4), .second, .val (.long (q2 &&& (9223372036854775807 : Int64))), .second, .val (.long (((q2 &&& (9223372036854775807 : Int64)) + (((((p3.toUInt32 >>> ((1 : Int32) &&& 31).toUInt32).toInt32) % (3 : Int32)) - (1 : Int32)).toInt64)) &&& (9223372036854775807 : Int64))), .second, .val (.long (((((p3.toUInt32 >>> ((1 : Int32) &&& 31).toUInt32).toInt32) % (3 : Int32)) - (1 : Int32)).toInt64)), .second, .unset, .unset, .unset] [(.long (((q2 &&& (9223372036854775807 : Int64)) + (((((p3.toUInt32 >>> ((1 : Int32) &&& 31).toUInt32).toInt32) % (3 : Int32)) - (1 : Int32)).toInt64)) &&& (9223372036854775807 : Int64))), (.long q0)]))) (fun t k => XS.lload X0.here hx rfl (hb hby at_48) rfl k) ?_
    refine own_go (B := (s₁.setTop (mkF m 51 #[.val (.long q0), .second, .val (.long q1), .second, .val (.long q2), .second, .val (.int p3), .val (.long q4), .second, .val (.long (q2 &&& (9223372036854775807 : Int64))), .second, .val (.long (((q2 &&& (9223372036854775807 : Int64)) + (((((p3.toUInt32 >>> ((1 : Int32) &&& 31).toUInt32).toInt32) % (3 : Int32)) - (1 : Int32)).toInt64)) &&& (9223372036854775807 : Int64))), .second, .val (.long (((((p3.toUInt32 >>> ((1 : Int32) &&& 31).toUInt32).toInt32) % (3 : Int32)) - (1 : Int32)).toInt64)), .second, .unset, .unset, .unset] [(.long (q0 + (((q2 &&& (9223372036854775807 : Int64)) + (((((p3.toUInt32 >>> ((1 : Int32) &&& 31).toUInt32).toInt32) % (3 : Int32)) - (1 : Int32)).toInt64)) &&& (9223372036854775807 : Int64))))]))) (fun t k => XS.ladd X0.here hx rfl (hb hby at_50) rfl k) ?_
    refine own_go (B := (s₁.setTop (mkF m 53 #[.val (.long q0), .second, .val (.long q1), .second, .val (.long q2), .second, .val (.int p3), .val (.long q4), .second, .val (.long (q2 &&& (9223372036854775807 : Int64))), .second, .val (.long (((q2 &&& (9223372036854775807 : Int64)) + (((((p3.toUInt32 >>> ((1 : Int32) &&& 31).toUInt32).toInt32) % (3 : Int32)) - (1 : Int32)).toInt64)) &&& (9223372036854775807 : Int64))), .second, .val (.long (q0 + (((q2 &&& (9223372036854775807 : Int64)) + (((((p3.toUInt32 >>> ((1 : Int32) &&& 31).toUInt32).toInt32) % (3 : Int32)) - (1 : Int32)).toInt64)) &&& (9223372036854775807 : Int64)))), .second, .unset, .unset, .unset] []))) (fun t k => XS.lstore X0.here hx rfl (hb hby at_51) rfl (l' := #[.val (.long q0), .second, .val (.long q1), .second, .val (.long q2), .second, .val (.int p3), .val (.long q4), .second, .val (.long (q2 &&& (9223372036854775807 : Int64))), .second, .val (.long (((q2 &&& (9223372036854775807 : Int64)) + (((((p3.toUInt32 >>> ((1 : Int32) &&& 31).toUInt32).toInt32) % (3 : Int32)) - (1 : Int32)).toInt64)) &&& (9223372036854775807 : Int64))), .second, .val (.long (q0 + (((q2 &&& (9223372036854775807 : Int64)) + (((((p3.toUInt32 >>> ((1 : Int32) &&& 31).toUInt32).toInt32) % (3 : Int32)) - (1 : Int32)).toInt64)) &&& (9223372036854775807 : Int64)))), .second, .unset, .unset, .unset]) rfl k) ?_
    obtain ⟨T9, h9, X9, e9, E9, A9, D9, -, st9⟩ := newO X0 hx hZ hown (hw _ (List.mem_of_getElem? (i := 1) rfl)) (hw _ (List.mem_of_getElem? (i := 2) rfl)) (hw _ (List.mem_of_getElem? (i := 3) rfl)) e0 (g := (mkF m 53 #[.val (.long q0), .second, .val (.long q1), .second, .val (.long q2), .second, .val (.int p3), .val (.long q4), .second, .val (.long (q2 &&& (9223372036854775807 : Int64))), .second, .val (.long (((q2 &&& (9223372036854775807 : Int64)) + (((((p3.toUInt32 >>> ((1 : Int32) &&& 31).toUInt32).toInt32) % (3 : Int32)) - (1 : Int32)).toInt64)) &&& (9223372036854775807 : Int64))), .second, .val (.long (q0 + (((q2 &&& (9223372036854775807 : Int64)) + (((((p3.toUInt32 >>> ((1 : Int32) &&& 31).toUInt32).toInt32) % (3 : Int32)) - (1 : Int32)).toInt64)) &&& (9223372036854775807 : Int64)))), .second, .unset, .unset, .unset] [])) rfl (hb hby at_53) (by decide) (by decide)
    obtain ⟨b9, g9⟩ : ∃ z, z = h0.size := ⟨_, rfl⟩
    rw [← g9] at A9 D9 st9
    have g_b9 : n0 ≤ b9 := Nat.le_trans Z0 (Nat.le_of_eq g9.symm)
    have Zs9 : n0 ≤ h9.size := Nat.le_trans Z0 E9.1
    have O9 := O0.ext E9
    have hk9 := Nat.le_trans (Nat.zero_le _) E9.1
    have F_id_b9 : Fld Z h9 b9 "com/example/tickwright/tickwright/dispatch/Dispatcher$Task" "id" "Ljava/lang/Object;" .null := D9 (Or.inr (hw _ (List.mem_of_getElem? (i := 36) rfl))) (ty := (.object "java/lang/Object")) (by decide)
    have F_payload_b9 : Fld Z h9 b9 "com/example/tickwright/tickwright/dispatch/Dispatcher$Task" "payload" "Ljava/lang/Object;" .null := D9 (Or.inr (hw _ (List.mem_of_getElem? (i := 38) rfl))) (ty := (.object "java/lang/Object")) (by decide)
    refine own_go (B := (T9.setTop (mkF m 56 #[.val (.long q0), .second, .val (.long q1), .second, .val (.long q2), .second, .val (.int p3), .val (.long q4), .second, .val (.long (q2 &&& (9223372036854775807 : Int64))), .second, .val (.long (((q2 &&& (9223372036854775807 : Int64)) + (((((p3.toUInt32 >>> ((1 : Int32) &&& 31).toUInt32).toInt32) % (3 : Int32)) - (1 : Int32)).toInt64)) &&& (9223372036854775807 : Int64))), .second, .val (.long (q0 + (((q2 &&& (9223372036854775807 : Int64)) + (((((p3.toUInt32 >>> ((1 : Int32) &&& 31).toUInt32).toInt32) % (3 : Int32)) - (1 : Int32)).toInt64)) &&& (9223372036854775807 : Int64)))), .second, .unset, .unset, .unset] [(.ref b9)]))) (fun t k => st9 _ k) ?_
    refine own_go (B := (T9.setTop (mkF m 57 #[.val (.long q0), .second, .val (.long q1), .second, .val (.long q2), .second, .val (.int p3), .val (.long q4), .second, .val (.long (q2 &&& (9223372036854775807 : Int64))), .second, .val (.long (((q2 &&& (9223372036854775807 : Int64)) + (((((p3.toUInt32 >>> ((1 : Int32) &&& 31).toUInt32).toInt32) % (3 : Int32)) - (1 : Int32)).toInt64)) &&& (9223372036854775807 : Int64))), .second, .val (.long (q0 + (((q2 &&& (9223372036854775807 : Int64)) + (((((p3.toUInt32 >>> ((1 : Int32) &&& 31).toUInt32).toInt32) % (3 : Int32)) - (1 : Int32)).toInt64)) &&& (9223372036854775807 : Int64)))), .second, .unset, .unset, .unset] [(.ref b9), (.ref b9)]))) (fun t k => XS.dup X9.here hx rfl (hb hby at_56) rfl rfl k) ?_
    refine own_go (B := (T9.setTop (mkF m 59 #[.val (.long q0), .second, .val (.long q1), .second, .val (.long q2), .second, .val (.int p3), .val (.long q4), .second, .val (.long (q2 &&& (9223372036854775807 : Int64))), .second, .val (.long (((q2 &&& (9223372036854775807 : Int64)) + (((((p3.toUInt32 >>> ((1 : Int32) &&& 31).toUInt32).toInt32) % (3 : Int32)) - (1 : Int32)).toInt64)) &&& (9223372036854775807 : Int64))), .second, .val (.long (q0 + (((q2 &&& (9223372036854775807 : Int64)) + (((((p3.toUInt32 >>> ((1 : Int32) &&& 31).toUInt32).toInt32) % (3 : Int32)) - (1 : Int32)).toInt64)) &&& (9223372036854775807 : Int64)))), .second, .unset, .unset, .unset] [(.int p3), (.ref b9), (.ref b9)]))) (fun t k => XS.iload X9.here hx rfl (hb hby at_57) rfl k) ?_
    obtain ⟨_, _, ⟨T10, L10, k10, n10⟩, -, X10, ⟨Lc10, hQ10, l10, y10, z10⟩, st10⟩ := Jvm.LawKit.callS X9 hx (y := (⟨"java/lang/Integer", "valueOf", "(I)Ljava/lang/Integer;"⟩ : MethodName)) hown (mvT hZ (hw _ (List.mem_of_getElem? (i := 4) rfl))) (mvT hZ (hw _ (List.mem_of_getElem? (i := 5) rfl))) (mvT hZ (hw _ (List.mem_of_getElem? (i := 6) rfl))) (mvT hZ (hw _ (List.mem_of_getElem? (i := 7) rfl))) (by decide) (backOf (W := 2) (rm1 l Z ta hw [] p3 ca cc vf h9 n0 Zs9 O9 Sc Bx Sh) hZ (hw _ (List.mem_of_getElem? (i := 7) rfl)) (hw _ (List.mem_of_getElem? (i := 6) rfl)) (by decide) (by decide)) (g := (mkF m 59 #[.val (.long q0), .second, .val (.long q1), .second, .val (.long q2), .second, .val (.int p3), .val (.long q4), .second, .val (.long (q2 &&& (9223372036854775807 : Int64))), .second, .val (.long (((q2 &&& (9223372036854775807 : Int64)) + (((((p3.toUInt32 >>> ((1 : Int32) &&& 31).toUInt32).toInt32) % (3 : Int32)) - (1 : Int32)).toInt64)) &&& (9223372036854775807 : Int64))), .second, .val (.long (q0 + (((q2 &&& (9223372036854775807 : Int64)) + (((((p3.toUInt32 >>> ((1 : Int32) &&& 31).toUInt32).toInt32) % (3 : Int32)) - (1 : Int32)).toInt64)) &&& (9223372036854775807 : Int64)))), .second, .unset, .unset, .unset] [(.int p3), (.ref b9), (.ref b9)])) rfl (by rw [hml]; rfl) (argsL := [(.int p3)]) (rest := [(.ref b9), (.ref b9)]) (lenOf pd_0_0 rfl) rfl (by show 2 * 0 + _ ≤ _; exact Nat.le_of_eq rfl) (hb hby at_59) (fun _ _ => ⟨rfl, e9, (by decide : (0 + 1) + 1 ≤ _), (by decide : (0 + 2) + 1 ≤ _)⟩)
    dsimp only [Pt.U, Pt.locs, Pt.cells, Pt.slots] at X10 l10 y10 z10 st10 hQ10
    subst l10 y10 z10
    obtain ⟨r10, rfl, N10q, K10, Er10⟩ := hQ10
    have E_b9_10 := A9.keep K10
    have F_b9_id_10 := F_id_b9.keep K10 nin0
    have F_b9_payload_10 := F_payload_b9.keep K10 nin0
    have Zs10 : n0 ≤ T10.heap.size := Nat.le_trans Zs9 K10.1
    have O10 := O9.keep K10 all0
    have N10 := Fr.app N0 N10q
    have hk10 := Nat.le_trans hk9 K10.1
    refine own_go (B := (T10.setTop (mkF m 62 #[.val (.long q0), .second, .val (.long q1), .second, .val (.long q2), .second, .val (.int p3), .val (.long q4), .second, .val (.long (q2 &&& (9223372036854775807 : Int64))), .second, .val (.long (((q2 &&& (9223372036854775807 : Int64)) + (((((p3.toUInt32 >>> ((1 : Int32) &&& 31).toUInt32).toInt32) % (3 : Int32)) - (1 : Int32)).toInt64)) &&& (9223372036854775807 : Int64))), .second, .val (.long (q0 + (((q2 &&& (9223372036854775807 : Int64)) + (((((p3.toUInt32 >>> ((1 : Int32) &&& 31).toUInt32).toInt32) % (3 : Int32)) - (1 : Int32)).toInt64)) &&& (9223372036854775807 : Int64)))), .second, .unset, .unset, .unset] [(.ref r10), (.ref b9), (.ref b9)]))) (fun t k => st10 _ k) ?_
    refine own_go (B := (T10.setTop (mkF m 63 #[.val (.long q0), .second, .val (.long q1), .second, .val (.long q2), .second, .val (.int p3), .val (.long q4), .second, .val (.long (q2 &&& (9223372036854775807 : Int64))), .second, .val (.long (((q2 &&& (9223372036854775807 : Int64)) + (((((p3.toUInt32 >>> ((1 : Int32) &&& 31).toUInt32).toInt32) % (3 : Int32)) - (1 : Int32)).toInt64)) &&& (9223372036854775807 : Int64))), .second, .val (.long (q0 + (((q2 &&& (9223372036854775807 : Int64)) + (((((p3.toUInt32 >>> ((1 : Int32) &&& 31).toUInt32).toInt32) % (3 : Int32)) - (1 : Int32)).toInt64)) &&& (9223372036854775807 : Int64)))), .second, .unset, .unset, .unset] [(.int (1 : Int32)), (.ref r10), (.ref b9), (.ref b9)]))) (fun t k => XS.iconst X10.here hx rfl (hb hby at_62) k) ?_
    obtain ⟨_, _, ⟨T11, L11, k11, n11⟩, -, X11, ⟨Lc11, hQ11, l11, y11, z11⟩, st11⟩ := Jvm.LawKit.callS X10 hx (y := (⟨"java/lang/Integer", "valueOf", "(I)Ljava/lang/Integer;"⟩ : MethodName)) hown (mvT hZ (hw _ (List.mem_of_getElem? (i := 4) rfl))) (mvT hZ (hw _ (List.mem_of_getElem? (i := 5) rfl))) (mvT hZ (hw _ (List.mem_of_getElem? (i := 6) rfl))) (mvT hZ (hw _ (List.mem_of_getElem? (i := 7) rfl))) (by decide) (backOf (W := 3) (rm1 l Z ta hw [] (1 : Int32) ca cc vf T10.heap n0 Zs10 O10 Sc Bx Sh) hZ (hw _ (List.mem_of_getElem? (i := 7) rfl)) (hw _ (List.mem_of_getElem? (i := 6) rfl)) (by decide) (by decide)) (g := (mkF m 63 #[.val (.long q0), .second, .val (.long q1), .second, .val (.long q2), .second, .val (.int p3), .val (.long q4), .second, .val (.long (q2 &&& (9223372036854775807 : Int64))), .second, .val (.long (((q2 &&& (9223372036854775807 : Int64)) + (((((p3.toUInt32 >>> ((1 : Int32) &&& 31).toUInt32).toInt32) % (3 : Int32)) - (1 : Int32)).toInt64)) &&& (9223372036854775807 : Int64))), .second, .val (.long (q0 + (((q2 &&& (9223372036854775807 : Int64)) + (((((p3.toUInt32 >>> ((1 : Int32) &&& 31).toUInt32).toInt32) % (3 : Int32)) - (1 : Int32)).toInt64)) &&& (9223372036854775807 : Int64)))), .second, .unset, .unset, .unset] [(.int (1 : Int32)), (.ref r10), (.ref b9), (.ref b9)])) rfl (by rw [hml]; rfl) (argsL := [(.int (1 : Int32))]) (rest := [(.ref r10), (.ref b9), (.ref b9)]) (lenOf pd_0_0 rfl) rfl (by show 2 * 0 + _ ≤ _; exact Nat.le_of_eq rfl) (hb hby at_63) (fun _ _ => ⟨rfl, rfl, (by decide : ((0 + 1) + 1) + 1 ≤ _), (by decide : ((0 + 2) + 1) + 1 ≤ _)⟩)
    dsimp only [Pt.U, Pt.locs, Pt.cells, Pt.slots] at X11 l11 y11 z11 st11 hQ11
    subst l11 y11 z11
    obtain ⟨r11, rfl, N11q, K11, Er11⟩ := hQ11
    have E_b9_11 := E_b9_10.keep K11
    have F_b9_id_11 := F_b9_id_10.keep K11 nin0
    have F_b9_payload_11 := F_b9_payload_10.keep K11 nin0
    have E_r10_11 := Er10.keep K11
    have Zs11 : n0 ≤ T11.heap.size := Nat.le_trans Zs10 K11.1
    have O11 := O10.keep K11 all0
    have N11 := Fr.app N10 N11q
    have hk11 := Nat.le_trans hk10 K11.1
    refine own_go (B := (T11.setTop (mkF m 66 #[.val (.long q0), .second, .val (.long q1), .second, .val (.long q2), .second, .val (.int p3), .val (.long q4), .second, .val (.long (q2 &&& (9223372036854775807 : Int64))), .second, .val (.long (((q2 &&& (9223372036854775807 : Int64)) + (((((p3.toUInt32 >>> ((1 : Int32) &&& 31).toUInt32).toInt32) % (3 : Int32)) - (1 : Int32)).toInt64)) &&& (9223372036854775807 : Int64))), .second, .val (.long (q0 + (((q2 &&& (9223372036854775807 : Int64)) + (((((p3.toUInt32 >>> ((1 : Int32) &&& 31).toUInt32).toInt32) % (3 : Int32)) - (1 : Int32)).toInt64)) &&& (9223372036854775807 : Int64)))), .second, .unset, .unset, .unset] [(.ref r11), (.ref r10), (.ref b9), (.ref b9)]))) (fun t k => st11 _ k) ?_
    obtain ⟨_, _, ⟨T12, L12, k12, n12⟩, -, XX12, hSS12, hgr12, ⟨Lc12, hQ12, l12, y12, z12⟩, st12⟩ := X11.specialBackS hx (y := (⟨"com/example/tickwright/tickwright/dispatch/Dispatcher$Task", "<init>", "(Ljava/lang/Object;Ljava/lang/Object;)V"⟩ : MethodName)) rfl hown (mvT hZ (hw _ (List.mem_of_getElem? (i := 11) rfl))) (mvT hZ (hw _ (List.mem_of_getElem? (i := 12) rfl))) (mvT hZ (hw _ (List.mem_of_getElem? (i := 13) rfl))) (by decide) (backOfS (W := 1) (rm2 l Z ta hw [] b9 r10 r11  T11.heap n0 Zs11 E_b9_11 F_b9_id_11 F_b9_payload_11 g_b9) hZ (hw _ (List.mem_of_getElem? (i := 13) rfl)) (hw _ (List.mem_of_getElem? (i := 3) rfl)) (by decide) (by decide)) (g := (mkF m 66 #[.val (.long q0), .second, .val (.long q1), .second, .val (.long q2), .second, .val (.int p3), .val (.long q4), .second, .val (.long (q2 &&& (9223372036854775807 : Int64))), .second, .val (.long (((q2 &&& (9223372036854775807 : Int64)) + (((((p3.toUInt32 >>> ((1 : Int32) &&& 31).toUInt32).toInt32) % (3 : Int32)) - (1 : Int32)).toInt64)) &&& (9223372036854775807 : Int64))), .second, .val (.long (q0 + (((q2 &&& (9223372036854775807 : Int64)) + (((((p3.toUInt32 >>> ((1 : Int32) &&& 31).toUInt32).toInt32) % (3 : Int32)) - (1 : Int32)).toInt64)) &&& (9223372036854775807 : Int64)))), .second, .unset, .unset, .unset] [(.ref r11), (.ref r10), (.ref b9), (.ref b9)])) rfl (by rw [hml]; rfl) (Steps.refl _) (a := b9) (argsL := [(.ref r10), (.ref r11)]) (rest := [(.ref b9)]) (lenOf pd_0_1 rfl) rfl (by show 2 * 0 + _ ≤ _; exact Nat.le_of_eq rfl) (hb hby at_66) (fun _ _ => ⟨rfl, rfl, (by decide : (((0 + 1) + 1) + 1) + 4 ≤ _), (by decide : (((0 + 2) + 1) + 1) + 44 ≤ _)⟩)
    dsimp only [Pt.U, Pt.locs, Pt.cells, Pt.slots] at XX12 hSS12 hgr12 l12 y12 z12 st12 hQ12
    subst l12 y12 z12
    obtain ⟨X12, hS12, hZ12, hown12⟩ := rebS hS0 (show _ ≤ T11.heap.size by exact hk11) XX12 hSS12 hgr12 hZ hown
    obtain ⟨rfl, N12q, K12⟩ := hQ12
    have E_b9_12 := E_b9_11.keep K12
    have E_r10_12 := E_r10_11.keep K12
    have E_r11_12 := Er11.keep K12
    have Zs12 : n0 ≤ T12.heap.size := Nat.le_trans Zs11 K12.1
    have O12 := O11.keep K12 (allS g_b9 all0)
    have N12 := Fr.app N11 N12q
    refine own_go (B := (T12.setTop (mkF m 69 #[.val (.long q0), .second, .val (.long q1), .second, .val (.long q2), .second, .val (.int p3), .val (.long q4), .second, .val (.long (q2 &&& (9223372036854775807 : Int64))), .second, .val (.long (((q2 &&& (9223372036854775807 : Int64)) + (((((p3.toUInt32 >>> ((1 : Int32) &&& 31).toUInt32).toInt32) % (3 : Int32)) - (1 : Int32)).toInt64)) &&& (9223372036854775807 : Int64))), .second, .val (.long (q0 + (((q2 &&& (9223372036854775807 : Int64)) + (((((p3.toUInt32 >>> ((1 : Int32) &&& 31).toUInt32).toInt32) % (3 : Int32)) - (1 : Int32)).toInt64)) &&& (9223372036854775807 : Int64)))), .second, .unset, .unset, .unset] [(.ref b9)]))) (fun t k => st12.trans k) ?_
    refine own_go (B := (T12.setTop (mkF m 71 #[.val (.long q0), .second, .val (.long q1), .second, .val (.long q2), .second, .val (.int p3), .val (.long q4), .second, .val (.long (q2 &&& (9223372036854775807 : Int64))), .second, .val (.long (((q2 &&& (9223372036854775807 : Int64)) + (((((p3.toUInt32 >>> ((1 : Int32) &&& 31).toUInt32).toInt32) % (3 : Int32)) - (1 : Int32)).toInt64)) &&& (9223372036854775807 : Int64))), .second, .val (.long (q0 + (((q2 &&& (9223372036854775807 : Int64)) + (((((p3.toUInt32 >>> ((1 : Int32) &&& 31).toUInt32).toInt32) % (3 : Int32)) - (1 : Int32)).toInt64)) &&& (9223372036854775807 : Int64)))), .second, .val (.ref b9), .unset, .unset] []))) (fun t k => XS.astore X12.here hx rfl (hb hby at_69) rfl rfl (l' := #[.val (.long q0), .second, .val (.long q1), .second, .val (.long q2), .second, .val (.int p3), .val (.long q4), .second, .val (.long (q2 &&& (9223372036854775807 : Int64))), .second, .val (.long (((q2 &&& (9223372036854775807 : Int64)) + (((((p3.toUInt32 >>> ((1 : Int32) &&& 31).toUInt32).toInt32) % (3 : Int32)) - (1 : Int32)).toInt64)) &&& (9223372036854775807 : Int64))), .second, .val (.long (q0 + (((q2 &&& (9223372036854775807 : Int64)) + (((((p3.toUInt32 >>> ((1 : Int32) &&& 31).toUInt32).toInt32) % (3 : Int32)) - (1 : Int32)).toInt64)) &&& (9223372036854775807 : Int64)))), .second, .val (.ref b9), .unset, .unset]) rfl k) ?_
    obtain ⟨T13, h13, X13, e13, E13, A13, D13, -, st13⟩ := newO X12 hx hZ12 hown12 (hw _ (List.mem_of_getElem? (i := 39) rfl)) (hw _ (List.mem_of_getElem? (i := 40) rfl)) (hw _ (List.mem_of_getElem? (i := 41) rfl)) rfl (g := (mkF m 71 #[.val (.long q0), .second, .val (.long q1), .second, .val (.long q2), .second, .val (.int p3), .val (.long q4), .second, .val (.long (q2 &&& (9223372036854775807 : Int64))), .second, .val (.long (((q2 &&& (9223372036854775807 : Int64)) + (((((p3.toUInt32 >>> ((1 : Int32) &&& 31).toUInt32).toInt32) % (3 : Int32)) - (1 : Int32)).toInt64)) &&& (9223372036854775807 : Int64))), .second, .val (.long (q0 + (((q2 &&& (9223372036854775807 : Int64)) + (((((p3.toUInt32 >>> ((1 : Int32) &&& 31).toUInt32).toInt32) % (3 : Int32)) - (1 : Int32)).toInt64)) &&& (9223372036854775807 : Int64)))), .second, .val (.ref b9), .unset, .unset] [])) rfl (hb hby at_71) (by decide) (by decide)
    obtain ⟨b13, g13⟩ : ∃ z, z = T12.heap.size := ⟨_, rfl⟩
    rw [← g13] at A13 D13 st13
    have ne_b9_b13 : b9 ≠ b13 := Nat.ne_of_lt (Nat.lt_of_lt_of_le E_b9_12.lt (Nat.le_of_eq g13.symm))
    have ne_r10_b13 : r10 ≠ b13 := Nat.ne_of_lt (Nat.lt_of_lt_of_le E_r10_12.lt (Nat.le_of_eq g13.symm))
    have ne_r11_b13 : r11 ≠ b13 := Nat.ne_of_lt (Nat.lt_of_lt_of_le E_r11_12.lt (Nat.le_of_eq g13.symm))
    have g_b13 : n0 ≤ b13 := Nat.le_trans Zs12 (Nat.le_of_eq g13.symm)
    have Zs13 : n0 ≤ h13.size := Nat.le_trans Zs12 E13.1
    have O13 := O12.ext E13
    have hk13 := Nat.le_trans (Nat.le_refl _) E13.1
    have E_b9_13 := E_b9_12.ext E13
    have E_r10_13 := E_r10_12.ext E13
    have E_r11_13 := E_r11_12.ext E13
    have F_task_b13 : Fld Z h13 b13 "com/example/tickwright/tickwright/dispatch/Pending" "task" "Lcom/example/tickwright/tickwright/dispatch/Dispatcher$Task;" .null := D13 (Or.inr (hw _ (List.mem_of_getElem? (i := 47) rfl))) (ty := (.object "com/example/tickwright/tickwright/dispatch/Dispatcher$Task")) (by decide)
    have F_serial_b13 : Fld Z h13 b13 "com/example/tickwright/tickwright/dispatch/Pending" "serial" "J" (.long (0 : Int64)) := D13 (Or.inr (hw _ (List.mem_of_getElem? (i := 49) rfl))) (ty := .long) (by decide)
    have F_waitingSince_b13 : Fld Z h13 b13 "com/example/tickwright/tickwright/dispatch/Pending" "waitingSince" "J" (.long (0 : Int64)) := D13 (Or.inr (hw _ (List.mem_of_getElem? (i := 51) rfl))) (ty := .long) (by decide)
    have F_submittedAt_b13 : Fld Z h13 b13 "com/example/tickwright/tickwright/dispatch/Pending" "submittedAt" "J" (.long (0 : Int64)) := D13 (Or.inr (hw _ (List.mem_of_getElem? (i := 53) rfl))) (ty := .long) (by decide)
    have F_timeToLiveNanos_b13 : Fld Z h13 b13 "com/example/tickwright/tickwright/dispatch/Pending" "timeToLiveNanos" "J" (.long (0 : Int64)) := D13 (Or.inr (hw _ (List.mem_of_getElem? (i := 55) rfl))) (ty := .long) (by decide)
    refine own_go (B := (T13.setTop (mkF m 74 #[.val (.long q0), .second, .val (.long q1), .second, .val (.long q2), .second, .val (.int p3), .val (.long q4), .second, .val (.long (q2 &&& (9223372036854775807 : Int64))), .second, .val (.long (((q2 &&& (9223372036854775807 : Int64)) + (((((p3.toUInt32 >>> ((1 : Int32) &&& 31).toUInt32).toInt32) % (3 : Int32)) - (1 : Int32)).toInt64)) &&& (9223372036854775807 : Int64))), .second, .val (.long (q0 + (((q2 &&& (9223372036854775807 : Int64)) + (((((p3.toUInt32 >>> ((1 : Int32) &&& 31).toUInt32).toInt32) % (3 : Int32)) - (1 : Int32)).toInt64)) &&& (9223372036854775807 : Int64)))), .second, .val (.ref b9), .unset, .unset] [(.ref b13)]))) (fun t k => st13 _ k) ?_
    refine own_go (B := (T13.setTop (mkF m 75 #[.val (.long q0), .second, .val (.long q1), .second, .val (.long q2), .second, .val (.int p3), .val (.long q4), .second, .val (.long (q2 &&& (9223372036854775807 : Int64))), .second, .val (.long (((q2 &&& (9223372036854775807 : Int64)) + (((((p3.toUInt32 >>> ((1 : Int32) &&& 31).toUInt32).toInt32) % (3 : Int32)) - (1 : Int32)).toInt64)) &&& (9223372036854775807 : Int64))), .second, .val (.long (q0 + (((q2 &&& (9223372036854775807 : Int64)) + (((((p3.toUInt32 >>> ((1 : Int32) &&& 31).toUInt32).toInt32) % (3 : Int32)) - (1 : Int32)).toInt64)) &&& (9223372036854775807 : Int64)))), .second, .val (.ref b9), .unset, .unset] [(.ref b13), (.ref b13)]))) (fun t k => XS.dup X13.here hx rfl (hb hby at_74) rfl rfl k) ?_
    refine own_go (B := (T13.setTop (mkF m 77 #[.val (.long q0), .second, .val (.long q1), .second, .val (.long q2), .second, .val (.int p3), .val (.long q4), .second, .val (.long (q2 &&& (9223372036854775807 : Int64))), .second, .val (.long (((q2 &&& (9223372036854775807 : Int64)) + (((((p3.toUInt32 >>> ((1 : Int32) &&& 31).toUInt32).toInt32) % (3 : Int32)) - (1 : Int32)).toInt64)) &&& (9223372036854775807 : Int64))), .second, .val (.long (q0 + (((q2 &&& (9223372036854775807 : Int64)) + (((((p3.toUInt32 >>> ((1 : Int32) &&& 31).toUInt32).toInt32) % (3 : Int32)) - (1 : Int32)).toInt64)) &&& (9223372036854775807 : Int64)))), .second, .val (.ref b9), .unset, .unset] [(.ref b9), (.ref b13), (.ref b13)]))) (fun t k => XS.aload X13.here hx rfl (hb hby at_75) rfl rfl k) ?_
    refine own_go (B := (T13.setTop (mkF m 79 #[.val (.long q0), .second, .val (.long q1), .second, .val (.long q2), .second, .val (.int p3), .val (.long q4), .second, .val (.long (q2 &&& (9223372036854775807 : Int64))), .second, .val (.long (((q2 &&& (9223372036854775807 : Int64)) + (((((p3.toUInt32 >>> ((1 : Int32) &&& 31).toUInt32).toInt32) % (3 : Int32)) - (1 : Int32)).toInt64)) &&& (9223372036854775807 : Int64))), .second, .val (.long (q0 + (((q2 &&& (9223372036854775807 : Int64)) + (((((p3.toUInt32 >>> ((1 : Int32) &&& 31).toUInt32).toInt32) % (3 : Int32)) - (1 : Int32)).toInt64)) &&& (9223372036854775807 : Int64)))), .second, .val (.ref b9), .unset, .unset] [(.long q4), (.ref b9), (.ref b13), (.ref b13)]))) (fun t k => XS.lload X13.here hx rfl (hb hby at_77) rfl k) ?_
    refine own_go (B := (T13.setTop (mkF m 81 #[.val (.long q0), .second, .val (.long q1), .second, .val (.long q2), .second, .val (.int p3), .val (.long q4), .second, .val (.long (q2 &&& (9223372036854775807 : Int64))), .second, .val (.long (((q2 &&& (9223372036854775807 : Int64)) + (((((p3.toUInt32 >>> ((1 : Int32) &&& 31).toUInt32).toInt32) % (3 : Int32)) - (1 : Int32)).toInt64)) &&& (9223372036854775807 : Int64))), .second, .val (.long (q0 + (((q2 &&& (9223372036854775807 : Int64)) + (((((p3.toUInt32 >>> ((1 : Int32) &&& 31).toUInt32).toInt32) % (3 : Int32)) - (1 : Int32)).toInt64)) &&& (9223372036854775807 : Int64)))), .second, .val (.ref b9), .unset, .unset] [(.long q4), (.long q4), (.ref b9), (.ref b13), (.ref b13)]))) (fun t k => XS.lload X13.here hx rfl (hb hby at_79) rfl k) ?_
    refine own_go (B := (T13.setTop (mkF m 82 #[.val (.long q0), .second, .val (.long q1), .second, .val (.long q2), .second, .val (.int p3), .val (.long q4), .second, .val (.long (q2 &&& (9223372036854775807 : Int64))), .second, .val (.long (((q2 &&& (9223372036854775807 : Int64)) + (((((p3.toUInt32 >>> ((1 : Int32) &&& 31).toUInt32).toInt32) % (3 : Int32)) - (1 : Int32)).toInt64)) &&& (9223372036854775807 : Int64))), .second, .val (.long (q0 + (((q2 &&& (9223372036854775807 : Int64)) + (((((p3.toUInt32 >>> ((1 : Int32) &&& 31).toUInt32).toInt32) % (3 : Int32)) - (1 : Int32)).toInt64)) &&& (9223372036854775807 : Int64)))), .second, .val (.ref b9), .unset, .unset] [(.long q0), (.long q4), (.long q4), (.ref b9), (.ref b13), (.ref b13)]))) (fun t k => XS.lloadN X13.here hx rfl (hb hby at_81) rfl k) ?_
    refine own_go (B := (T13.setTop (mkF m 84 #[.val (.long q0), .second, .val (.long q1), .second, .val (.long q2), .second, .val (.int p3), .val (.long q4), .second, .val (.long (q2 &&& (9223372036854775807 : Int64))), .second, .val (.long (((q2 &&& (9223372036854775807 : Int64)) + (((((p3.toUInt32 >>> ((1 : Int32) &&& 31).toUInt32).toInt32) % (3 : Int32)) - (1 : Int32)).toInt64)) &&& (9223372036854775807 : Int64))), .second, .val (.long (q0 + (((q2 &&& (9223372036854775807 : Int64)) + (((((p3.toUInt32 >>> ((1 : Int32) &&& 31).toUInt32).toInt32) % (3 : Int32)) - (1 : Int32)).toInt64)) &&& (9223372036854775807 : Int64)))), .second, .val (.ref b9), .unset, .unset] [(.long (q2 &&& (9223372036854775807 : Int64))), (.long q0), (.long q4), (.long q4), (.ref b9), (.ref b13), (.ref b13)]))) (fun t k => XS.lload X13.here hx rfl (hb hby at_82) rfl k) ?_
    obtain ⟨_, _, ⟨T14, L14, k14, n14⟩, -, X14, ⟨Lc14, hQ14, l14, y14, z14⟩, st14⟩ := X13.specialBack hx (y := (⟨"com/example/tickwright/tickwright/dispatch/Pending", "<init>", "(Lcom/example/tickwright/tickwright/dispatch/Dispatcher$Task;JJJJ)V"⟩ : MethodName)) rfl hown12 (mvT hZ12 (hw _ (List.mem_of_getElem? (i := 42) rfl))) (mvT hZ12 (hw _ (List.mem_of_getElem? (i := 43) rfl))) (mvT hZ12 (hw _ (List.mem_of_getElem? (i := 44) rfl))) (by decide) (backOf (W := 1) (rm6 l Z ta hw [] b13 b9 q4 q4 q0 (q2 &&& (9223372036854775807 : Int64))  h13 n0 Zs13 A13 F_task_b13 F_serial_b13 F_waitingSince_b13 F_submittedAt_b13 F_timeToLiveNanos_b13 g_b13) hZ12 (hw _ (List.mem_of_getElem? (i := 44) rfl)) (hw _ (List.mem_of_getElem? (i := 41) rfl)) (by decide) (by decide)) (g := (mkF m 84 #[.val (.long q0), .second, .val (.long q1), .second, .val (.long q2), .second, .val (.int p3), .val (.long q4), .second, .val (.long (q2 &&& (9223372036854775807 : Int64))), .second, .val (.long (((q2 &&& (9223372036854775807 : Int64)) + (((((p3.toUInt32 >>> ((1 : Int32) &&& 31).toUInt32).toInt32) % (3 : Int32)) - (1 : Int32)).toInt64)) &&& (9223372036854775807 : Int64))), .second, .val (.long (q0 + (((q2 &&& (9223372036854775807 : Int64)) + (((((p3.toUInt32 >>> ((1 : Int32) &&& 31).toUInt32).toInt32) % (3 : Int32)) - (1 : Int32)).toInt64)) &&& (9223372036854775807 : Int64)))), .second, .val (.ref b9), .unset, .unset] [(.long (q2 &&& (9223372036854775807 : Int64))), (.long q0), (.long q4), (.long q4), (.ref b9), (.ref b13), (.ref b13)])) rfl (by rw [hml]; rfl) (Steps.refl _) (a := b13) (argsL := [(.ref b9), (.long q4), (.long q4), (.long q0), (.long (q2 &&& (9223372036854775807 : Int64)))]) (rest := [(.ref b13)]) (lenOf pd_0_2 rfl) rfl (by show 2 * 0 + _ ≤ _; exact Nat.le_of_eq rfl) (hb hby at_84) (fun _ _ => ⟨rfl, e13, (by decide : (((((0 + 1) + 1) + 1) + 4) + 1) + 0 ≤ _), (by decide : (((((0 + 2) + 1) + 1) + 44) + 5) + 0 ≤ _)⟩)
    dsimp only [Pt.U, Pt.locs, Pt.cells, Pt.slots] at X14 l14 y14 z14 st14 hQ14
    subst l14 y14 z14
    obtain ⟨rfl, N14q, K14, Fq14_0, Fq14_1⟩ := hQ14
    have E_b9_14 := E_b9_13.keep K14
    have E_r10_14 := E_r10_13.keep K14
    have E_r11_14 := E_r11_13.keep K14
    have E_b13_14 := A13.keep K14
    have Zs14 : n0 ≤ T14.heap.size := Nat.le_trans Zs13 K14.1
    have O14 := O13.keep K14 (allS g_b13 all0)
    have N14 := Fr.app N12 N14q
    have hk14 := Nat.le_trans hk13 K14.1
    refine own_go (B := (T14.setTop (mkF m 87 #[.val (.long q0), .second, .val (.long q1), .second, .val (.long q2), .second, .val (.int p3), .val (.long q4), .second, .val (.long (q2 &&& (9223372036854775807 : Int64))), .second, .val (.long (((q2 &&& (9223372036854775807 : Int64)) + (((((p3.toUInt32 >>> ((1 : Int32) &&& 31).toUInt32).toInt32) % (3 : Int32)) - (1 : Int32)).toInt64)) &&& (9223372036854775807 : Int64))), .second, .val (.long (q0 + (((q2 &&& (9223372036854775807 : Int64)) + (((((p3.toUInt32 >>> ((1 : Int32) &&& 31).toUInt32).toInt32) % (3 : Int32)) - (1 : Int32)).toInt64)) &&& (9223372036854775807 : Int64)))), .second, .val (.ref b9), .unset, .unset] [(.ref b13)]))) (fun t k => st14.trans k) ?_
    refine own_go (B := (T14.setTop (mkF m 89 #[.val (.long q0), .second, .val (.long q1), .second, .val (.long q2), .second, .val (.int p3), .val (.long q4), .second, .val (.long (q2 &&& (9223372036854775807 : Int64))), .second, .val (.long (((q2 &&& (9223372036854775807 : Int64)) + (((((p3.toUInt32 >>> ((1 : Int32) &&& 31).toUInt32).toInt32) % (3 : Int32)) - (1 : Int32)).toInt64)) &&& (9223372036854775807 : Int64))), .second, .val (.long (q0 + (((q2 &&& (9223372036854775807 : Int64)) + (((((p3.toUInt32 >>> ((1 : Int32) &&& 31).toUInt32).toInt32) % (3 : Int32)) - (1 : Int32)).toInt64)) &&& (9223372036854775807 : Int64)))), .second, .val (.ref b9), .val (.ref b13), .unset] []))) (fun t k => XS.astore X14.here hx rfl (hb hby at_87) rfl rfl (l' := #[.val (.long q0), .second, .val (.long q1), .second, .val (.long q2), .second, .val (.int p3), .val (.long q4), .second, .val (.long (q2 &&& (9223372036854775807 : Int64))), .second, .val (.long (((q2 &&& (9223372036854775807 : Int64)) + (((((p3.toUInt32 >>> ((1 : Int32) &&& 31).toUInt32).toInt32) % (3 : Int32)) - (1 : Int32)).toInt64)) &&& (9223372036854775807 : Int64))), .second, .val (.long (q0 + (((q2 &&& (9223372036854775807 : Int64)) + (((((p3.toUInt32 >>> ((1 : Int32) &&& 31).toUInt32).toInt32) % (3 : Int32)) - (1 : Int32)).toInt64)) &&& (9223372036854775807 : Int64)))), .second, .val (.ref b9), .val (.ref b13), .unset]) rfl k) ?_
    refine own_go (B := (T14.setTop (mkF m 91 #[.val (.long q0), .second, .val (.long q1), .second, .val (.long q2), .second, .val (.int p3), .val (.long q4), .second, .val (.long (q2 &&& (9223372036854775807 : Int64))), .second, .val (.long (((q2 &&& (9223372036854775807 : Int64)) + (((((p3.toUInt32 >>> ((1 : Int32) &&& 31).toUInt32).toInt32) % (3 : Int32)) - (1 : Int32)).toInt64)) &&& (9223372036854775807 : Int64))), .second, .val (.long (q0 + (((q2 &&& (9223372036854775807 : Int64)) + (((((p3.toUInt32 >>> ((1 : Int32) &&& 31).toUInt32).toInt32) % (3 : Int32)) - (1 : Int32)).toInt64)) &&& (9223372036854775807 : Int64)))), .second, .val (.ref b9), .val (.ref b13), .unset] [(.long (((q2 &&& (9223372036854775807 : Int64)) + (((((p3.toUInt32 >>> ((1 : Int32) &&& 31).toUInt32).toInt32) % (3 : Int32)) - (1 : Int32)).toInt64)) &&& (9223372036854775807 : Int64)))]))) (fun t k => XS.lload X14.here hx rfl (hb hby at_89) rfl k) ?_
    refine own_go (B := (T14.setTop (mkF m 93 #[.val (.long q0), .second, .val (.long q1), .second, .val (.long q2), .second, .val (.int p3), .val (.long q4), .second, .val (.long (q2 &&& (9223372036854775807 : Int64))), .second, .val (.long (((q2 &&& (9223372036854775807 : Int64)) + (((((p3.toUInt32 >>> ((1 : Int32) &&& 31).toUInt32).toInt32) % (3 : Int32)) - (1 : Int32)).toInt64)) &&& (9223372036854775807 : Int64))), .second, .val (.long (q0 + (((q2 &&& (9223372036854775807 : Int64)) + (((((p3.toUInt32 >>> ((1 : Int32) &&& 31).toUInt32).toInt32) % (3 : Int32)) - (1 : Int32)).toInt64)) &&& (9223372036854775807 : Int64)))), .second, .val (.ref b9), .val (.ref b13), .unset] [(.long (q2 &&& (9223372036854775807 : Int64))), (.long (((q2 &&& (9223372036854775807 : Int64)) + (((((p3.toUInt32 >>> ((1 : Int32) &&& 31).toUInt32).toInt32) % (3 : Int32)) - (1 : Int32)).toInt64)) &&& (9223372036854775807 : Int64)))]))) (fun t k => XS.lload X14.here hx rfl (hb hby at_91) rfl k) ?_
    refine own_go (B := (T14.setTop (mkF m 94 #[.val (.long q0), .second, .val (.long q1), .second, .val (.long q2), .second, .val (.int p3), .val (.long q4), .second, .val (.long (q2 &&& (9223372036854775807 : Int64))), .second, .val (.long (((q2 &&& (9223372036854775807 : Int64)) + (((((p3.toUInt32 >>> ((1 : Int32) &&& 31).toUInt32).toInt32) % (3 : Int32)) - (1 : Int32)).toInt64)) &&& (9223372036854775807 : Int64))), .second, .val (.long (q0 + (((q2 &&& (9223372036854775807 : Int64)) + (((((p3.toUInt32 >>> ((1 : Int32) &&& 31).toUInt32).toInt32) % (3 : Int32)) - (1 : Int32)).toInt64)) &&& (9223372036854775807 : Int64)))), .second, .val (.ref b9), .val (.ref b13), .unset] [(.int (lcmpW (((q2 &&& (9223372036854775807 : Int64)) + (((((p3.toUInt32 >>> ((1 : Int32) &&& 31).toUInt32).toInt32) % (3 : Int32)) - (1 : Int32)).toInt64)) &&& (9223372036854775807 : Int64)) (q2 &&& (9223372036854775807 : Int64))))]))) (fun t k => XS.lcmp X14.here hx rfl (hb hby at_93) rfl k) ?_
    by_cases hc94 : (((q2 &&& (9223372036854775807 : Int64)) + (((((p3.toUInt32 >>> ((1 : Int32) &&& 31).toUInt32).toInt32) % (3 : Int32)) - (1 : Int32)).toInt64)) &&& (9223372036854775807 : Int64)) < (q2 &&& (9223372036854775807 : Int64))
    · refine own_go (B := (T14.setTop (mkF m 101 #[.val (.long q0), .second, .val (.long q1), .second, .val (.long q2), .second, .val (.int p3), .val (.long q4), .second, .val (.long (q2 &&& (9223372036854775807 : Int64))), .second, .val (.long (((q2 &&& (9223372036854775807 : Int64)) + (((((p3.toUInt32 >>> ((1 : Int32) &&& 31).toUInt32).toInt32) % (3 : Int32)) - (1 : Int32)).toInt64)) &&& (9223372036854775807 : Int64))), .second, .val (.long (q0 + (((q2 &&& (9223372036854775807 : Int64)) + (((((p3.toUInt32 >>> ((1 : Int32) &&& 31).toUInt32).toInt32) % (3 : Int32)) - (1 : Int32)).toInt64)) &&& (9223372036854775807 : Int64)))), .second, .val (.ref b9), .val (.ref b13), .unset] []))) (fun t k => XS.ifYes X14.here hx rfl (pc0 := 94) (pc' := 101) rfl (hb hby at_94) rfl ((if0 _ _).trans (tlt ((lw_lt _ _).mpr hc94)).1) (by decide) (by decide) k) ?_
      refine own_go (B := (T14.setTop (mkF m 102 #[.val (.long q0), .second, .val (.long q1), .second, .val (.long q2), .second, .val (.int p3), .val (.long q4), .second, .val (.long (q2 &&& (9223372036854775807 : Int64))), .second, .val (.long (((q2 &&& (9223372036854775807 : Int64)) + (((((p3.toUInt32 >>> ((1 : Int32) &&& 31).toUInt32).toInt32) % (3 : Int32)) - (1 : Int32)).toInt64)) &&& (9223372036854775807 : Int64))), .second, .val (.long (q0 + (((q2 &&& (9223372036854775807 : Int64)) + (((((p3.toUInt32 >>> ((1 : Int32) &&& 31).toUInt32).toInt32) % (3 : Int32)) - (1 : Int32)).toInt64)) &&& (9223372036854775807 : Int64)))), .second, .val (.ref b9), .val (.ref b13), .unset] [(.int (0 : Int32))]))) (fun t k => XS.iconst X14.here hx rfl (hb hby at_101) k) ?_
      refine own_go (B := (T14.setTop (mkF m 104 #[.val (.long q0), .second, .val (.long q1), .second, .val (.long q2), .second, .val (.int p3), .val (.long q4), .second, .val (.long (q2 &&& (9223372036854775807 : Int64))), .second, .val (.long (((q2 &&& (9223372036854775807 : Int64)) + (((((p3.toUInt32 >>> ((1 : Int32) &&& 31).toUInt32).toInt32) % (3 : Int32)) - (1 : Int32)).toInt64)) &&& (9223372036854775807 : Int64))), .second, .val (.long (q0 + (((q2 &&& (9223372036854775807 : Int64)) + (((((p3.toUInt32 >>> ((1 : Int32) &&& 31).toUInt32).toInt32) % (3 : Int32)) - (1 : Int32)).toInt64)) &&& (9223372036854775807 : Int64)))), .second, .val (.ref b9), .val (.ref b13), .val (.int (0 : Int32))] []))) (fun t k => XS.istore X14.here hx rfl (hb hby at_102) rfl (l' := #[.val (.long q0), .second, .val (.long q1), .second, .val (.long q2), .second, .val (.int p3), .val (.long q4), .second, .val (.long (q2 &&& (9223372036854775807 : Int64))), .second, .val (.long (((q2 &&& (9223372036854775807 : Int64)) + (((((p3.toUInt32 >>> ((1 : Int32) &&& 31).toUInt32).toInt32) % (3 : Int32)) - (1 : Int32)).toInt64)) &&& (9223372036854775807 : Int64))), .second, .val (.long (q0 + (((q2 &&& (9223372036854775807 : Int64)) + (((((p3.toUInt32 >>> ((1 : Int32) &&& 31).toUInt32).toInt32) % (3 : Int32)) - (1 : Int32)).toInt64)) &&& (9223372036854775807 : Int64)))), .second, .val (.ref b9), .val (.ref b13), .val (.int (0 : Int32))]) rfl k) ?_
      refine own_go (B := (T14.setTop (mkF m 106 #[.val (.long q0), .second, .val (.long q1), .second, .val (.long q2), .second, .val (.int p3), .val (.long q4), .second, .val (.long (q2 &&& (9223372036854775807 : Int64))), .second, .val (.long (((q2 &&& (9223372036854775807 : Int64)) + (((((p3.toUInt32 >>> ((1 : Int32) &&& 31).toUInt32).toInt32) % (3 : Int32)) - (1 : Int32)).toInt64)) &&& (9223372036854775807 : Int64))), .second, .val (.long (q0 + (((q2 &&& (9223372036854775807 : Int64)) + (((((p3.toUInt32 >>> ((1 : Int32) &&& 31).toUInt32).toInt32) % (3 : Int32)) - (1 : Int32)).toInt64)) &&& (9223372036854775807 : Int64)))), .second, .val (.ref b9), .val (.ref b13), .val (.int (0 : Int32))] [(.ref b13)]))) (fun t k => XS.aload X14.here hx rfl (hb hby at_104) rfl rfl k) ?_
      refine own_go (B := (T14.setTop (mkF m 108 #[.val (.long q0), .second, .val (.long q1), .second, .val (.long q2), .second, .val (.int p3), .val (.long q4), .second, .val (.long (q2 &&& (9223372036854775807 : Int64))), .second, .val (.long (((q2 &&& (9223372036854775807 : Int64)) + (((((p3.toUInt32 >>> ((1 : Int32) &&& 31).toUInt32).toInt32) % (3 : Int32)) - (1 : Int32)).toInt64)) &&& (9223372036854775807 : Int64))), .second, .val (.long (q0 + (((q2 &&& (9223372036854775807 : Int64)) + (((((p3.toUInt32 >>> ((1 : Int32) &&& 31).toUInt32).toInt32) % (3 : Int32)) - (1 : Int32)).toInt64)) &&& (9223372036854775807 : Int64)))), .second, .val (.ref b9), .val (.ref b13), .val (.int (0 : Int32))] [(.long (q0 + (((q2 &&& (9223372036854775807 : Int64)) + (((((p3.toUInt32 >>> ((1 : Int32) &&& 31).toUInt32).toInt32) % (3 : Int32)) - (1 : Int32)).toInt64)) &&& (9223372036854775807 : Int64)))), (.ref b13)]))) (fun t k => XS.lload X14.here hx rfl (hb hby at_106) rfl k) ?_
      obtain ⟨cq15, kq15, q15a, q15b, q15c⟩ := isOf hZ12 rfl E_b13_14
      obtain ⟨_, _, ⟨T15, L15, k15, n15⟩, -, X15, ⟨Lc15, hQ15, l15, y15, z15⟩, st15⟩ := X14.virtualBack hx (y := (⟨"com/example/tickwright/tickwright/dispatch/Pending", "hasExpired", "(J)Z"⟩ : MethodName)) (z := (⟨"com/example/tickwright/tickwright/dispatch/Pending", "hasExpired", "(J)Z"⟩ : MethodName)) hown12 (mvT hZ12 (hw _ (List.mem_of_getElem? (i := 56) rfl))) (mvT hZ12 (hw _ (List.mem_of_getElem? (i := 57) rfl))) (notFace_of_selects (args := #[]) (mvT hZ12 (hw _ (List.mem_of_getElem? (i := 59) rfl)))) (mvT hZ12 (hw _ (List.mem_of_getElem? (i := 59) rfl))) (mvT hZ12 (hw _ (List.mem_of_getElem? (i := 58) rfl))) (by decide) (backOf (W := 0) (rm7 l Z ta hw [] b13 (q0 + (((q2 &&& (9223372036854775807 : Int64)) + (((((p3.toUInt32 >>> ((1 : Int32) &&& 31).toUInt32).toInt32) % (3 : Int32)) - (1 : Int32)).toInt64)) &&& (9223372036854775807 : Int64))) q0 (q2 &&& (9223372036854775807 : Int64)) T14.heap n0 Fq14_0 Fq14_1) hZ12 (hw _ (List.mem_of_getElem? (i := 60) rfl)) (hw _ (List.mem_of_getElem? (i := 41) rfl)) (by decide) (by decide)) q15a q15c (g := (mkF m 108 #[.val (.long q0), .second, .val (.long q1), .second, .val (.long q2), .second, .val (.int p3), .val (.long q4), .second, .val (.long (q2 &&& (9223372036854775807 : Int64))), .second, .val (.long (((q2 &&& (9223372036854775807 : Int64)) + (((((p3.toUInt32 >>> ((1 : Int32) &&& 31).toUInt32).toInt32) % (3 : Int32)) - (1 : Int32)).toInt64)) &&& (9223372036854775807 : Int64))), .second, .val (.long (q0 + (((q2 &&& (9223372036854775807 : Int64)) + (((((p3.toUInt32 >>> ((1 : Int32) &&& 31).toUInt32).toInt32) % (3 : Int32)) - (1 : Int32)).toInt64)) &&& (9223372036854775807 : Int64)))), .second, .val (.ref b9), .val (.ref b13), .val (.int (0 : Int32))] [(.long (q0 + (((q2 &&& (9223372036854775807 : Int64)) + (((((p3.toUInt32 >>> ((1 : Int32) &&& 31).toUInt32).toInt32) % (3 : Int32)) - (1 : Int32)).toInt64)) &&& (9223372036854775807 : Int64)))), (.ref b13)])) rfl (by rw [hml]; rfl) (Steps.refl _) (argsL := [(.long (q0 + (((q2 &&& (9223372036854775807 : Int64)) + (((((p3.toUInt32 >>> ((1 : Int32) &&& 31).toUInt32).toInt32) % (3 : Int32)) - (1 : Int32)).toInt64)) &&& (9223372036854775807 : Int64))))]) (rest := []) (lenOf pd_0_3 rfl) rfl (by show 2 * 0 + _ ≤ _; exact Nat.le_of_eq rfl) (hb hby at_108) (fun _ _ => ⟨rfl, rfl, (by decide : ((((((0 + 1) + 1) + 1) + 4) + 1) + 0) + 0 ≤ _), (by decide : ((((((0 + 2) + 1) + 1) + 44) + 5) + 0) + 0 ≤ _)⟩)
      dsimp only [Pt.U, Pt.locs, Pt.cells, Pt.slots] at X15 l15 y15 z15 st15 hQ15
      subst l15 y15 z15
      obtain ⟨rfl, N15q, e15⟩ := hQ15
      replace e15 := e15
      have N15 := Fr.app N14 N15q
      refine own_go (B := (T15.setTop (mkF m 111 #[.val (.long q0), .second, .val (.long q1), .second, .val (.long q2), .second, .val (.int p3), .val (.long q4), .second, .val (.long (q2 &&& (9223372036854775807 : Int64))), .second, .val (.long (((q2 &&& (9223372036854775807 : Int64)) + (((((p3.toUInt32 >>> ((1 : Int32) &&& 31).toUInt32).toInt32) % (3 : Int32)) - (1 : Int32)).toInt64)) &&& (9223372036854775807 : Int64))), .second, .val (.long (q0 + (((q2 &&& (9223372036854775807 : Int64)) + (((((p3.toUInt32 >>> ((1 : Int32) &&& 31).toUInt32).toInt32) % (3 : Int32)) - (1 : Int32)).toInt64)) &&& (9223372036854775807 : Int64)))), .second, .val (.ref b9), .val (.ref b13), .val (.int (0 : Int32))] [(.int (F7 b13 (q0 + (((q2 &&& (9223372036854775807 : Int64)) + (((((p3.toUInt32 >>> ((1 : Int32) &&& 31).toUInt32).toInt32) % (3 : Int32)) - (1 : Int32)).toInt64)) &&& (9223372036854775807 : Int64))) q0 (q2 &&& (9223372036854775807 : Int64))))]))) (fun t k => st15.trans k) ?_
      refine own_go (B := (T15.setTop (mkF m 113 #[.val (.long q0), .second, .val (.long q1), .second, .val (.long q2), .second, .val (.int p3), .val (.long q4), .second, .val (.long (q2 &&& (9223372036854775807 : Int64))), .second, .val (.long (((q2 &&& (9223372036854775807 : Int64)) + (((((p3.toUInt32 >>> ((1 : Int32) &&& 31).toUInt32).toInt32) % (3 : Int32)) - (1 : Int32)).toInt64)) &&& (9223372036854775807 : Int64))), .second, .val (.long (q0 + (((q2 &&& (9223372036854775807 : Int64)) + (((((p3.toUInt32 >>> ((1 : Int32) &&& 31).toUInt32).toInt32) % (3 : Int32)) - (1 : Int32)).toInt64)) &&& (9223372036854775807 : Int64)))), .second, .val (.ref b9), .val (.ref b13), .val (.int (0 : Int32))] [(.int (0 : Int32)), (.int (F7 b13 (q0 + (((q2 &&& (9223372036854775807 : Int64)) + (((((p3.toUInt32 >>> ((1 : Int32) &&& 31).toUInt32).toInt32) % (3 : Int32)) - (1 : Int32)).toInt64)) &&& (9223372036854775807 : Int64))) q0 (q2 &&& (9223372036854775807 : Int64))))]))) (fun t k => XS.iload X15.here hx rfl (hb hby at_111) rfl k) ?_
      refine own_go (B := (T15.setTop (mkF m 116 #[.val (.long q0), .second, .val (.long q1), .second, .val (.long q2), .second, .val (.int p3), .val (.long q4), .second, .val (.long (q2 &&& (9223372036854775807 : Int64))), .second, .val (.long (((q2 &&& (9223372036854775807 : Int64)) + (((((p3.toUInt32 >>> ((1 : Int32) &&& 31).toUInt32).toInt32) % (3 : Int32)) - (1 : Int32)).toInt64)) &&& (9223372036854775807 : Int64))), .second, .val (.long (q0 + (((q2 &&& (9223372036854775807 : Int64)) + (((((p3.toUInt32 >>> ((1 : Int32) &&& 31).toUInt32).toInt32) % (3 : Int32)) - (1 : Int32)).toInt64)) &&& (9223372036854775807 : Int64)))), .second, .val (.ref b9), .val (.ref b13), .val (.int (0 : Int32))] []))) (fun t k => XS.icmpNo X15.here hx rfl (hb hby at_113) rfl (teq (own_lawT hc94)).2 k) ?_
      refine own_go (B := (T15.setTop (mkF m 117 #[.val (.long q0), .second, .val (.long q1), .second, .val (.long q2), .second, .val (.int p3), .val (.long q4), .second, .val (.long (q2 &&& (9223372036854775807 : Int64))), .second, .val (.long (((q2 &&& (9223372036854775807 : Int64)) + (((((p3.toUInt32 >>> ((1 : Int32) &&& 31).toUInt32).toInt32) % (3 : Int32)) - (1 : Int32)).toInt64)) &&& (9223372036854775807 : Int64))), .second, .val (.long (q0 + (((q2 &&& (9223372036854775807 : Int64)) + (((((p3.toUInt32 >>> ((1 : Int32) &&& 31).toUInt32).toInt32) % (3 : Int32)) - (1 : Int32)).toInt64)) &&& (9223372036854775807 : Int64)))), .second, .val (.ref b9), .val (.ref b13), .val (.int (0 : Int32))] [(.int (1 : Int32))]))) (fun t k => XS.iconst X15.here hx rfl (hb hby at_116) k) ?_
      refine own_go (B := (T15.setTop (mkF m 121 #[.val (.long q0), .second, .val (.long q1), .second, .val (.long q2), .second, .val (.int p3), .val (.long q4), .second, .val (.long (q2 &&& (9223372036854775807 : Int64))), .second, .val (.long (((q2 &&& (9223372036854775807 : Int64)) + (((((p3.toUInt32 >>> ((1 : Int32) &&& 31).toUInt32).toInt32) % (3 : Int32)) - (1 : Int32)).toInt64)) &&& (9223372036854775807 : Int64))), .second, .val (.long (q0 + (((q2 &&& (9223372036854775807 : Int64)) + (((((p3.toUInt32 >>> ((1 : Int32) &&& 31).toUInt32).toInt32) % (3 : Int32)) - (1 : Int32)).toInt64)) &&& (9223372036854775807 : Int64)))), .second, .val (.ref b9), .val (.ref b13), .val (.int (0 : Int32))] [(.int (1 : Int32))]))) (fun t k => XS.goto X15.here hx rfl (pc0 := 117) (pc' := 121) rfl (hb hby at_117) (by decide) (by decide) k) ?_
      obtain ⟨fs, hr, hrun, hended, hWd⟩ := X15.leaveW hS12 (show _ ≤ T15.heap.size by rw [e15]; exact hk14) (v := some (.int (1 : Int32))) (fun h => by rw [Bd.returns] at h; cases h)
      exact ⟨_, _, retN X15 hx (t := .boolean) Bd.returns (by simp) (hb hby at_121) hr, hrun, hended, _, _, rfl, ⟨rfl, N15⟩, hWd.1, hWd.2.1, hWd.2.2.1, hWd.2.2.2.mono (by decide) (by decide)⟩
    · refine own_go (B := (T14.setTop (mkF m 97 #[.val (.long q0), .second, .val (.long q1), .second, .val (.long q2), .second, .val (.int p3), .val (.long q4), .second, .val (.long (q2 &&& (9223372036854775807 : Int64))), .second, .val (.long (((q2 &&& (9223372036854775807 : Int64)) + (((((p3.toUInt32 >>> ((1 : Int32) &&& 31).toUInt32).toInt32) % (3 : Int32)) - (1 : Int32)).toInt64)) &&& (9223372036854775807 : Int64))), .second, .val (.long (q0 + (((q2 &&& (9223372036854775807 : Int64)) + (((((p3.toUInt32 >>> ((1 : Int32) &&& 31).toUInt32).toInt32) % (3 : Int32)) - (1 : Int32)).toInt64)) &&& (9223372036854775807 : Int64)))), .second, .val (.ref b9), .val (.ref b13), .unset] []))) (fun t k => XS.ifNo X14.here hx rfl (hb hby at_94) rfl ((if0 _ _).trans (flt (fun z => hc94 ((lw_lt _ _).mp z))).1) k) ?_
      refine own_go (B := (T14.setTop (mkF m 98 #[.val (.long q0), .second, .val (.long q1), .second, .val (.long q2), .second, .val (.int p3), .val (.long q4), .second, .val (.long (q2 &&& (9223372036854775807 : Int64))), .second, .val (.long (((q2 &&& (9223372036854775807 : Int64)) + (((((p3.toUInt32 >>> ((1 : Int32) &&& 31).toUInt32).toInt32) % (3 : Int32)) - (1 : Int32)).toInt64)) &&& (9223372036854775807 : Int64))), .second, .val (.long (q0 + (((q2 &&& (9223372036854775807 : Int64)) + (((((p3.toUInt32 >>> ((1 : Int32) &&& 31).toUInt32).toInt32) % (3 : Int32)) - (1 : Int32)).toInt64)) &&& (9223372036854775807 : Int64)))), .second, .val (.ref b9), .val (.ref b13), .unset] [(.int (1 : Int32))]))) (fun t k => XS.iconst X14.here hx rfl (hb hby at_97) k) ?_
      refine own_go (B := (T14.setTop (mkF m 102 #[.val (.long q0), .second, .val (.long q1), .second, .val (.long q2), .second, .val (.int p3), .val (.long q4), .second, .val (.long (q2 &&& (9223372036854775807 : Int64))), .second, .val (.long (((q2 &&& (9223372036854775807 : Int64)) + (((((p3.toUInt32 >>> ((1 : Int32) &&& 31).toUInt32).toInt32) % (3 : Int32)) - (1 : Int32)).toInt64)) &&& (9223372036854775807 : Int64))), .second, .val (.long (q0 + (((q2 &&& (9223372036854775807 : Int64)) + (((((p3.toUInt32 >>> ((1 : Int32) &&& 31).toUInt32).toInt32) % (3 : Int32)) - (1 : Int32)).toInt64)) &&& (9223372036854775807 : Int64)))), .second, .val (.ref b9), .val (.ref b13), .unset] [(.int (1 : Int32))]))) (fun t k => XS.goto X14.here hx rfl (pc0 := 98) (pc' := 102) rfl (hb hby at_98) (by decide) (by decide) k) ?_
      refine own_go (B := (T14.setTop (mkF m 104 #[.val (.long q0), .second, .val (.long q1), .second, .val (.long q2), .second, .val (.int p3), .val (.long q4), .second, .val (.long (q2 &&& (9223372036854775807 : Int64))), .second, .val (.long (((q2 &&& (9223372036854775807 : Int64)) + (((((p3.toUInt32 >>> ((1 : Int32) &&& 31).toUInt32).toInt32) % (3 : Int32)) - (1 : Int32)).toInt64)) &&& (9223372036854775807 : Int64))), .second, .val (.long (q0 + (((q2 &&& (9223372036854775807 : Int64)) + (((((p3.toUInt32 >>> ((1 : Int32) &&& 31).toUInt32).toInt32) % (3 : Int32)) - (1 : Int32)).toInt64)) &&& (9223372036854775807 : Int64)))), .second, .val (.ref b9), .val (.ref b13), .val (.int (1 : Int32))] []))) (fun t k => XS.istore X14.here hx rfl (hb hby at_102) rfl (l' := #[.val (.long q0), .second, .val (.long q1), .second, .val (.long q2), .second, .val (.int p3), .val (.long q4), .second, .val (.long (q2 &&& (9223372036854775807 : Int64))), .second, .val (.long (((q2 &&& (9223372036854775807 : Int64)) + (((((p3.toUInt32 >>> ((1 : Int32) &&& 31).toUInt32).toInt32) % (3 : Int32)) - (1 : Int32)).toInt64)) &&& (9223372036854775807 : Int64))), .second, .val (.long (q0 + (((q2 &&& (9223372036854775807 : Int64)) + (((((p3.toUInt32 >>> ((1 : Int32) &&& 31).toUInt32).toInt32) % (3 : Int32)) - (1 : Int32)).toInt64)) &&& (9223372036854775807 : Int64)))), .second, .val (.ref b9), .val (.ref b13), .val (.int (1 : Int32))]) rfl k) ?_
      refine own_go (B := (T14.setTop (mkF m 106 #[.val (.long q0), .second, .val (.long q1), .second, .val (.long q2), .second, .val (.int p3), .val (.long q4), .second, .val (.long (q2 &&& (9223372036854775807 : Int64))), .second, .val (.long (((q2 &&& (9223372036854775807 : Int64)) + (((((p3.toUInt32 >>> ((1 : Int32) &&& 31).toUInt32).toInt32) % (3 : Int32)) - (1 : Int32)).toInt64)) &&& (9223372036854775807 : Int64))), .second, .val (.long (q0 + (((q2 &&& (9223372036854775807 : Int64)) + (((((p3.toUInt32 >>> ((1 : Int32) &&& 31).toUInt32).toInt32) % (3 : Int32)) - (1 : Int32)).toInt64)) &&& (9223372036854775807 : Int64)))), .second, .val (.ref b9), .val (.ref b13), .val (.int (1 : Int32))] [(.ref b13)]))) (fun t k => XS.aload X14.here hx rfl (hb hby at_104) rfl rfl k) ?_
      refine own_go (B := (T14.setTop (mkF m 108 #[.val (.long q0), .second, .val (.long q1), .second, .val (.long q2), .second, .val (.int p3), .val (.long q4), .second, .val (.long (q2 &&& (9223372036854775807 : Int64))), .second, .val (.long (((q2 &&& (9223372036854775807 : Int64)) + (((((p3.toUInt32 >>> ((1 : Int32) &&& 31).toUInt32).toInt32) % (3 : Int32)) - (1 : Int32)).toInt64)) &&& (9223372036854775807 : Int64))), .second, .val (.long (q0 + (((q2 &&& (9223372036854775807 : Int64)) + (((((p3.toUInt32 >>> ((1 : Int32) &&& 31).toUInt32).toInt32) % (3 : Int32)) - (1 : Int32)).toInt64)) &&& (9223372036854775807 : Int64)))), .second, .val (.ref b9), .val (.ref b13), .val (.int (1 : Int32))] [(.long (q0 + (((q2 &&& (9223372036854775807 : Int64)) + (((((p3.toUInt32 >>> ((1 : Int32) &&& 31).toUInt32).toInt32) % (3 : Int32)) - (1 : Int32)).toInt64)) &&& (9223372036854775807 : Int64)))), (.ref b13)]))) (fun t k => XS.lload X14.here hx rfl (hb hby at_106) rfl k) ?_
      obtain ⟨cq16, kq16, q16a, q16b, q16c⟩ := isOf hZ12 rfl E_b13_14
      obtain ⟨_, _, ⟨T16, L16, k16, n16⟩, -, X16, ⟨Lc16, hQ16, l16, y16, z16⟩, st16⟩ := X14.virtualBack hx (y := (⟨"com/example/tickwright/tickwright/dispatch/Pending", "hasExpired", "(J)Z"⟩ : MethodName)) (z := (⟨"com/example/tickwright/tickwright/dispatch/Pending", "hasExpired", "(J)Z"⟩ : MethodName)) hown12 (mvT hZ12 (hw _ (List.mem_of_getElem? (i := 56) rfl))) (mvT hZ12 (hw _ (List.mem_of_getElem? (i := 57) rfl))) (notFace_of_selects (args := #[]) (mvT hZ12 (hw _ (List.mem_of_getElem? (i := 59) rfl)))) (mvT hZ12 (hw _ (List.mem_of_getElem? (i := 59) rfl))) (mvT hZ12 (hw _ (List.mem_of_getElem? (i := 58) rfl))) (by decide) (backOf (W := 0) (rm7 l Z ta hw [] b13 (q0 + (((q2 &&& (9223372036854775807 : Int64)) + (((((p3.toUInt32 >>> ((1 : Int32) &&& 31).toUInt32).toInt32) % (3 : Int32)) - (1 : Int32)).toInt64)) &&& (9223372036854775807 : Int64))) q0 (q2 &&& (9223372036854775807 : Int64)) T14.heap n0 Fq14_0 Fq14_1) hZ12 (hw _ (List.mem_of_getElem? (i := 60) rfl)) (hw _ (List.mem_of_getElem? (i := 41) rfl)) (by decide) (by decide)) q16a q16c (g := (mkF m 108 #[.val (.long q0), .second, .val (.long q1), .second, .val (.long q2), .second, .val (.int p3), .val (.long q4), .second, .val (.long (q2 &&& (9223372036854775807 : Int64))), .second, .val (.long (((q2 &&& (9223372036854775807 : Int64)) + (((((p3.toUInt32 >>> ((1 : Int32) &&& 31).toUInt32).toInt32) % (3 : Int32)) - (1 : Int32)).toInt64)) &&& (9223372036854775807 : Int64))), .second, .val (.long (q0 + (((q2 &&& (9223372036854775807 : Int64)) + (((((p3.toUInt32 >>> ((1 : Int32) &&& 31).toUInt32).toInt32) % (3 : Int32)) - (1 : Int32)).toInt64)) &&& (9223372036854775807 : Int64)))), .second, .val (.ref b9), .val (.ref b13), .val (.int (1 : Int32))] [(.long (q0 + (((q2 &&& (9223372036854775807 : Int64)) + (((((p3.toUInt32 >>> ((1 : Int32) &&& 31).toUInt32).toInt32) % (3 : Int32)) - (1 : Int32)).toInt64)) &&& (9223372036854775807 : Int64)))), (.ref b13)])) rfl (by rw [hml]; rfl) (Steps.refl _) (argsL := [(.long (q0 + (((q2 &&& (9223372036854775807 : Int64)) + (((((p3.toUInt32 >>> ((1 : Int32) &&& 31).toUInt32).toInt32) % (3 : Int32)) - (1 : Int32)).toInt64)) &&& (9223372036854775807 : Int64))))]) (rest := []) (lenOf pd_0_3 rfl) rfl (by show 2 * 0 + _ ≤ _; exact Nat.le_of_eq rfl) (hb hby at_108) (fun _ _ => ⟨rfl, rfl, (by decide : ((((((0 + 1) + 1) + 1) + 4) + 1) + 0) + 0 ≤ _), (by decide : ((((((0 + 2) + 1) + 1) + 44) + 5) + 0) + 0 ≤ _)⟩)
      dsimp only [Pt.U, Pt.locs, Pt.cells, Pt.slots] at X16 l16 y16 z16 st16 hQ16
      subst l16 y16 z16
      obtain ⟨rfl, N16q, e16⟩ := hQ16
      replace e16 := e16
      have N16 := Fr.app N14 N16q
      refine own_go (B := (T16.setTop (mkF m 111 #[.val (.long q0), .second, .val (.long q1), .second, .val (.long q2), .second, .val (.int p3), .val (.long q4), .second, .val (.long (q2 &&& (9223372036854775807 : Int64))), .second, .val (.long (((q2 &&& (9223372036854775807 : Int64)) + (((((p3.toUInt32 >>> ((1 : Int32) &&& 31).toUInt32).toInt32) % (3 : Int32)) - (1 : Int32)).toInt64)) &&& (9223372036854775807 : Int64))), .second, .val (.long (q0 + (((q2 &&& (9223372036854775807 : Int64)) + (((((p3.toUInt32 >>> ((1 : Int32) &&& 31).toUInt32).toInt32) % (3 : Int32)) - (1 : Int32)).toInt64)) &&& (9223372036854775807 : Int64)))), .second, .val (.ref b9), .val (.ref b13), .val (.int (1 : Int32))] [(.int (F7 b13 (q0 + (((q2 &&& (9223372036854775807 : Int64)) + (((((p3.toUInt32 >>> ((1 : Int32) &&& 31).toUInt32).toInt32) % (3 : Int32)) - (1 : Int32)).toInt64)) &&& (9223372036854775807 : Int64))) q0 (q2 &&& (9223372036854775807 : Int64))))]))) (fun t k => st16.trans k) ?_
      refine own_go (B := (T16.setTop (mkF m 113 #[.val (.long q0), .second, .val (.long q1), .second, .val (.long q2), .second, .val (.int p3), .val (.long q4), .second, .val (.long (q2 &&& (9223372036854775807 : Int64))), .second, .val (.long (((q2 &&& (9223372036854775807 : Int64)) + (((((p3.toUInt32 >>> ((1 : Int32) &&& 31).toUInt32).toInt32) % (3 : Int32)) - (1 : Int32)).toInt64)) &&& (9223372036854775807 : Int64))), .second, .val (.long (q0 + (((q2 &&& (9223372036854775807 : Int64)) + (((((p3.toUInt32 >>> ((1 : Int32) &&& 31).toUInt32).toInt32) % (3 : Int32)) - (1 : Int32)).toInt64)) &&& (9223372036854775807 : Int64)))), .second, .val (.ref b9), .val (.ref b13), .val (.int (1 : Int32))] [(.int (1 : Int32)), (.int (F7 b13 (q0 + (((q2 &&& (9223372036854775807 : Int64)) + (((((p3.toUInt32 >>> ((1 : Int32) &&& 31).toUInt32).toInt32) % (3 : Int32)) - (1 : Int32)).toInt64)) &&& (9223372036854775807 : Int64))) q0 (q2 &&& (9223372036854775807 : Int64))))]))) (fun t k => XS.iload X16.here hx rfl (hb hby at_111) rfl k) ?_
      refine own_go (B := (T16.setTop (mkF m 116 #[.val (.long q0), .second, .val (.long q1), .second, .val (.long q2), .second, .val (.int p3), .val (.long q4), .second, .val (.long (q2 &&& (9223372036854775807 : Int64))), .second, .val (.long (((q2 &&& (9223372036854775807 : Int64)) + (((((p3.toUInt32 >>> ((1 : Int32) &&& 31).toUInt32).toInt32) % (3 : Int32)) - (1 : Int32)).toInt64)) &&& (9223372036854775807 : Int64))), .second, .val (.long (q0 + (((q2 &&& (9223372036854775807 : Int64)) + (((((p3.toUInt32 >>> ((1 : Int32) &&& 31).toUInt32).toInt32) % (3 : Int32)) - (1 : Int32)).toInt64)) &&& (9223372036854775807 : Int64)))), .second, .val (.ref b9), .val (.ref b13), .val (.int (1 : Int32))] []))) (fun t k => XS.icmpNo X16.here hx rfl (hb hby at_113) rfl (teq (own_lawF hc94)).2 k) ?_
      refine own_go (B := (T16.setTop (mkF m 117 #[.val (.long q0), .second, .val (.long q1), .second, .val (.long q2), .second, .val (.int p3), .val (.long q4), .second, .val (.long (q2 &&& (9223372036854775807 : Int64))), .second, .val (.long (((q2 &&& (9223372036854775807 : Int64)) + (((((p3.toUInt32 >>> ((1 : Int32) &&& 31).toUInt32).toInt32) % (3 : Int32)) - (1 : Int32)).toInt64)) &&& (9223372036854775807 : Int64))), .second, .val (.long (q0 + (((q2 &&& (9223372036854775807 : Int64)) + (((((p3.toUInt32 >>> ((1 : Int32) &&& 31).toUInt32).toInt32) % (3 : Int32)) - (1 : Int32)).toInt64)) &&& (9223372036854775807 : Int64)))), .second, .val (.ref b9), .val (.ref b13), .val (.int (1 : Int32))] [(.int (1 : Int32))]))) (fun t k => XS.iconst X16.here hx rfl (hb hby at_116) k) ?_
      refine own_go (B := (T16.setTop (mkF m 121 #[.val (.long q0), .second, .val (.long q1), .second, .val (.long q2), .second, .val (.int p3), .val (.long q4), .second, .val (.long (q2 &&& (9223372036854775807 : Int64))), .second, .val (.long (((q2 &&& (9223372036854775807 : Int64)) + (((((p3.toUInt32 >>> ((1 : Int32) &&& 31).toUInt32).toInt32) % (3 : Int32)) - (1 : Int32)).toInt64)) &&& (9223372036854775807 : Int64))), .second, .val (.long (q0 + (((q2 &&& (9223372036854775807 : Int64)) + (((((p3.toUInt32 >>> ((1 : Int32) &&& 31).toUInt32).toInt32) % (3 : Int32)) - (1 : Int32)).toInt64)) &&& (9223372036854775807 : Int64)))), .second, .val (.ref b9), .val (.ref b13), .val (.int (1 : Int32))] [(.int (1 : Int32))]))) (fun t k => XS.goto X16.here hx rfl (pc0 := 117) (pc' := 121) rfl (hb hby at_117) (by decide) (by decide) k) ?_
      obtain ⟨fs, hr, hrun, hended, hWd⟩ := X16.leaveW hS12 (show _ ≤ T16.heap.size by rw [e16]; exact hk14) (v := some (.int (1 : Int32))) (fun h => by rw [Bd.returns] at h; cases h)
      exact ⟨_, _, retN X16 hx (t := .boolean) Bd.returns (by simp) (hb hby at_121) hr, hrun, hended, _, _, rfl, ⟨rfl, N16⟩, hWd.1, hWd.2.1, hWd.2.2.1, hWd.2.2.2.mono (by decide) (by decide)⟩
theorem own_eqi {t : Jvm.Term} {n : Int32} {args : Array Value} {s : State} (h : (Jvm.Cond.eq t (.int n)).value args s none s [] = some true) : t.eval args s none [] s = some (.int n) := by
  obtain ⟨x, y, h1, h2, h3, h4⟩ := cmp_v (Or.inl h)
  obtain rfl : y = .int n := (Option.some.inj (h2.symm.trans (Term.int_eval n)))
  obtain ⟨z, rfl⟩ := h4
  have h5 : z = n := by simpa [Cond.value, h1, h2] using h
  rw [h1, h5]
theorem own_len {t : Jvm.Term} {n : Int32} {args : Array Value} {s : State} {a : Addr} {c : Cell} {ty : FieldType} (ev : t.eval args s none [] s = some (.ref a)) (A : Arr s s.heap a c ty) (h : (Jvm.Term.length t).eval args s none [] s = some (.int n)) : c.slots.size < 2 ^ 31 ∧ c.slots.size.toInt32 = n := by
  have h1 := Arr.fin (State.Warmed39.refl s).alike A
  by_cases q : c.slots.size < 2 ^ 31
  · have e := (len_f ev h1 q).symm.trans h
    simp only [Option.some.injEq, Value.int.injEq] at e
    exact ⟨q, e⟩
  · simp [Term.eval, ev, h1, q] at h
theorem own_sub {args : Array Value} {Z : State} {j : Int32} (hj : ¬ j < 0) : (Jvm.Term.sub (.index 0) (.int (128 : Int32))).eval args Z none [j.toNatClampNeg] Z = some (.int (j - (128 : Int32))) := by
  have h := idx_at (args := args) (s := Z) (first := Z) (o := none) hj
  simp only [Term.eval] at h ⊢
  simp [h]
  exact (back32 hj).1
set_option maxRecDepth 65536 in
set_option maxHeartbeats 40000000 in
theorem comes_1 {Post : Tables → Env → Array Value → State → Outcome → State → Prop} (hpost : ∀ tb e args s v u, (limb_1_1.after args s (.returned v) u = true ∧ limb_1_2.after args s (.returned v) u = true ∧ True) → ReturnedEndW s (.returned v) u (Jvm.fieldLocs frame_1_writes args s ++ Jvm.arrayLocs frame_1_arrays args s ++ Jvm.staticLocs frame_1_statics s) 24 2176 → Post tb e args s (.returned v) u) :
    ArmFor flags0 classFile x code maxLocals ret World_1 tables_1 room_1 Calls_1 rest_1 Pre_1 Post := by
  intro l hfl _ _ p e ha hc hk s m args below hf hA hF happ hP
  obtain ⟨hcalls, hrest, hpre⟩ := hP
  obtain ⟨-, -, -, hnamed, -, -, -, hat⟩ := (Spec.applies_iff hf).mp happ
  obtain ⟨hg, hn⟩ := and_e (Cond.before_iff.mp (show (Jvm.Cond.and given_1 narrow_1).before args s = true from hpre))
  obtain ⟨gc, g0⟩ := and_e hg
  obtain ⟨gg0, g1⟩ := and_e g0
  obtain ⟨gg1, g2⟩ := and_e g1
  obtain ⟨gg2, g3⟩ := and_e g2
  obtain ⟨gg3, g4⟩ := and_e g3
  obtain ⟨w0, w1, w2, w3, w4, rfl⟩ : ∃ w0 w1 w2 w3 w4 : Value, args = #[w0, w1, w2, w3, w4] := by
    have hs : args.size = 5 := by simpa [Cond.value, given_1] using gc
    obtain ⟨L⟩ := args
    match L, hs with
    | [w0, w1, w2, w3, w4], _ => exact ⟨w0, w1, w2, w3, w4, rfl⟩
  have hw := fun d (hd : d ∈ tables_1) => atoms_spec (ws := Jvm.Cond.code x code maxLocals ret :: tables_1) hat d (List.mem_cons_of_mem _ hd)
  have hfit : Fit s := fun {y c} hc i hi => by
    obtain ⟨ha, rfl⟩ := Array.getElem?_eq_some_iff.mp hc
    have q := List.all_eq_true.mp ((Array.all_eq_true_iff_forall_mem.mp hF) _ (Array.getElem_mem ha)) i (List.mem_range.mpr hi)
    simpa [Array.getElem?_eq_getElem hi] using q
  obtain ⟨i0, ei0⟩ := isL_v gg0
  obtain rfl : w0 = (.long i0) := Option.some.inj ei0
  obtain ⟨i1, ei1⟩ := isL_v gg1
  obtain rfl : w1 = (.long i1) := Option.some.inj ei1
  obtain ⟨i2, ei2⟩ := isL_v gg2
  obtain rfl : w2 = (.long i2) := Option.some.inj ei2
  obtain ⟨i3, ei3⟩ := is_v gg3
  obtain rfl : w3 = (.int i3) := Option.some.inj ei3
  obtain ⟨i4, ei4⟩ := isL_v g4
  obtain rfl : w4 = (.long i4) := Option.some.inj ei4
  have hsets := (atoms_of jdkStatics_1 (show (jdkStatics_1.foldr Jvm.Cond.and restOwn_1).before _ s = true from hrest)).1
  have jw := fun (k : Nat) (d : Jvm.Cond) (hd : jdkStatics_1[k]? = some d) => hsets d (List.mem_of_getElem? hd)
  have hhi := own_eqi (Cond.before_iff.mp (jw 3 _ rfl))
  have Sh := Sta.start hhi (Or.inl (jw 1 _ rfl))
  obtain ⟨ca, hca⟩ := arr_v (Cond.before_iff.mp (jw 4 _ rfl))
  have Sc := Sta.start hca (Or.inr ⟨(hw _ (List.mem_of_getElem? (i := 9) rfl)), jw 2 _ rfl⟩)
  obtain ⟨cc, Acc⟩ := Arr.start hca (Cond.before_iff.mp (jw 4 _ rfl))
  obtain ⟨lenLt, lenEq⟩ := own_len hca Acc (own_eqi (Cond.before_iff.mp (jw 6 _ rfl)))
  have Bx := Bxs.start (K := "java/lang/Integer") (d := "I") (z := (256 : Int32)) (val := fun j => .int (j - (128 : Int32))) (fun idx => hca) Acc lenLt lenEq (by decide) (Cond.before_iff.mp (jw 7 _ rfl)) (fun X j hj h => eqv_i (own_sub hj) h)
  obtain ⟨n, o, h1, h2, h3, _, L, rfl, ⟨rfl, N⟩, hq⟩ := rm0 l s _ hw tables_1 i0 i1 i2 i3 i4 ca cc _ s.heap s.heap.size (Nat.le_refl _) (Old.start s) Sc Bx Sh p e ha hc hk s m _ below hf ((Spec.applies_iff_loose hf).mp happ).1 ⟨rfl, State.Warmed39.refl s, rfl⟩ trivial
  refine ⟨n, _, h1, h2, h3, hpost _ _ _ _ _ _ ⟨Cond.after_iff.mpr rfl, Cond.after_iff.mpr (eq_i res_at (Term.int_eval (1)) rfl), trivial⟩ ⟨hq.1, hq.2.1, hq.2.2.1, (hq.2.2.2.sift fun y hy => Or.inr (N y hy)).mono (by decide) (by decide)⟩⟩
theorem main_1_1 : Claimed_1_1 := comes_1 fun _ _ _ _ _ _ h hF => ⟨h.1, hF⟩
theorem main_1_2 : Claimed_1_2 := comes_1 fun _ _ _ _ _ _ h hF => ⟨h.2.1, hF⟩
end Jvm.Pilot.@@N@@
namespace Jvm.Pilot.@@N@@
open Jvm Jvm.ClassFile Sem Op Lib Jvm.Free Jvm.Stand Jvm.Pilot.@@N@@.Jvm.D
/-! MADE BY PROGRAM (witnessworld.py) out of the Statement's table words and the real class files: 21 classes; the members and pool entries that the words name. The judged class is class 1, her method 1. -/
namespace start1
open Jvm.ClassFile
def u (s : String) : CpInfo := .utf8 (stringToUtf16 s)
/-- a pool by its gaps: so many unusable entries, then the entry; so many at the end -/
def gap : Nat → List CpInfo → List CpInfo
  | 0, r => r
  | n + 1, r => .unusable :: gap n r
def poolList (es : List (Nat × CpInfo)) (last : Nat) : List CpInfo := es.foldr (fun e r => gap e.1 (e.2 :: r)) (gap last [])
def pool (es : List (Nat × CpInfo)) (last : Nat) : Array CpInfo := ⟨poolList es last⟩
def fileOf (pool : Array CpInfo) (this : Nat) (attrs : Array Attribute := #[]) (ms : Array MethodInfo := #[]) (fl : Nat := 33) (sup : Nat := 0) (ifs : Array Nat := #[]) (fds : Array FieldInfo := #[]) : ClassFile where
  minorVersion := 0
  majorVersion := 65
  constantPool := pool
  accessFlags := fl
  thisClass := this
  superClass := sup
  interfaces := ifs
  fields := fds
  methods := ms
  attributes := attrs
def plain (name : String) (sup : Option ClassId) : Class where
  name := name
  kind := .ordinary
  loader := none
  accessFlags := 33
  super := sup
  interfaces := #[]
  cf := none
  fields := #[]
  methods := #[]
  instanceTypes := #[]
  staticTypes := #[]
  resolved := #[]
  callSites := []
  init := .initialized
  statics := none
  mirror := none

def pool0 : Array CpInfo := pool [(5, u "<init>"), (0, u "()V"), (1, .class_ 10), (1, u "java/lang/Object")] 113

def k0c0 : Code := { maxStack := 0, maxLocals := 1, code := object_method_1_code, exceptionTable := #[], attributes := #[] }
def k0m0 : Method := { name := "<init>", desc := "()V", sig := { parameters := [], returnType := none }, accessFlags := 1, code := some k0c0 }
/-- java/lang/Object -/
def k0 : Class := { plain "java/lang/Object" none with
  accessFlags := 33
  interfaces := #[]
  cf := some (fileOf pool0 8 #[] #[{ accessFlags := 1, nameIndex := 5, descriptorIndex := 6, attributes := #[] }] 33 0 #[] #[])
  fields := #[]
  methods := #[k0m0]
  instanceTypes := #[]
  staticTypes := #[]
  resolved := Array.replicate 124 none
  statics := none }

def pool1 : Array CpInfo := pool [(2, .class_ 4), (1, u "java/lang/Object"), (0, u "<init>"), (0, u "()V"), (2, .long 9223372036854775807), (1, .class_ 12), (0, u "com/example/tickwright/tickwright/dispatch/Dispatcher$Task"), (0, .methodref 14 15), (0, .class_ 16), (0, .nameAndType 17 18), (0, u "java/lang/Integer"), (0, u "valueOf"), (0, u "(I)Ljava/lang/Integer;"), (0, .methodref 11 20), (0, .nameAndType 5 21), (0, u "(Ljava/lang/Object;Ljava/lang/Object;)V"), (0, .class_ 23), (0, u "com/example/tickwright/tickwright/dispatch/Pending"), (0, .methodref 22 25), (0, .nameAndType 5 26), (0, u "(Lcom/example/tickwright/tickwright/dispatch/Dispatcher$Task;JJJJ)V"), (0, .methodref 22 28), (0, .nameAndType 29 30), (0, u "hasExpired"), (0, u "(J)Z"), (0, .class_ 32), (0, u "com/example/tickwright/tickwright/dispatch/PendingHasExpiredPinLaw"), (2, u "law"), (0, u "(JJJIJ)Z")] 7

def k1m0 : Method := { name := "<init>", desc := "()V", sig := { parameters := [], returnType := none }, accessFlags := 1, code := none }
def k1c1 : Code := { maxStack := 11, maxLocals := 18, code := code, exceptionTable := #[], attributes := #[] }
def k1m1 : Method := { name := "law", desc := "(JJJIJ)Z", sig := { parameters := [.long, .long, .long, .int, .long], returnType := some .boolean }, accessFlags := 9, code := some k1c1 }
/-- com/example/tickwright/tickwright/dispatch/PendingHasExpiredPinLaw -/
def k1 : Class := { plain "com/example/tickwright/tickwright/dispatch/PendingHasExpiredPinLaw" (some 0) with
  accessFlags := 49
  interfaces := #[]
  cf := some (fileOf pool1 31 #[] #[{ accessFlags := 1, nameIndex := 5, descriptorIndex := 6, attributes := #[] }, { accessFlags := 9, nameIndex := 35, descriptorIndex := 36, attributes := #[] }] 49 2 #[] #[])
  fields := #[]
  methods := #[k1m0, k1m1]
  instanceTypes := #[]
  staticTypes := #[]
  resolved := Array.replicate 44 none
  statics := none }

def pool2 : Array CpInfo := pool [(1, .methodref 2 3), (0, .class_ 4), (0, .nameAndType 5 6), (0, u "java/lang/Object"), (0, u "<init>"), (0, u "()V"), (0, .class_ 8), (0, u "java/lang/Record")] 13

def k2c0 : Code := { maxStack := 1, maxLocals := 1, code := jdk_30_method_1_code, exceptionTable := #[], attributes := #[] }
def k2m0 : Method := { name := "<init>", desc := "()V", sig := { parameters := [], returnType := none }, accessFlags := 4, code := some k2c0 }
/-- java/lang/Record -/
def k2 : Class := { plain "java/lang/Record" (some 0) with
  accessFlags := 1057
  interfaces := #[]
  cf := some (fileOf pool2 7 #[] #[{ accessFlags := 4, nameIndex := 5, descriptorIndex := 6, attributes := #[] }] 1057 2 #[] #[])
  fields := #[]
  methods := #[k2m0]
  instanceTypes := #[]
  staticTypes := #[]
  resolved := Array.replicate 22 none
  statics := none }

def pool3 : Array CpInfo := pool [(1, .methodref 2 3), (0, .class_ 4), (0, .nameAndType 5 6), (0, u "java/lang/Record"), (0, u "<init>"), (0, u "()V"), (0, .string 8), (0, u "id"), (0, .methodref 10 11), (0, .class_ 12), (0, .nameAndType 13 14), (0, u "java/util/Objects"), (0, u "requireNonNull"), (0, u "(Ljava/lang/Object;Ljava/lang/String;)Ljava/lang/Object;"), (0, .string 16), (0, u "payload"), (0, .fieldref 18 19), (0, .class_ 20), (0, .nameAndType 8 21), (0, u "com/example/tickwright/tickwright/dispatch/Dispatcher$Task"), (0, u "Ljava/lang/Object;"), (0, .fieldref 18 23), (0, .nameAndType 16 21), (15, u "(Ljava/lang/Object;Ljava/lang/Object;)V"), (14, .class_ 55), (0, u "com/example/tickwright/tickwright/dispatch/Dispatcher")] 20

def k3c0 : Code := { maxStack := 2, maxLocals := 3, code := prog_18_method_1_code, exceptionTable := #[], attributes := #[] }
def k3m0 : Method := { name := "<init>", desc := "(Ljava/lang/Object;Ljava/lang/Object;)V", sig := { parameters := [(.object "java/lang/Object"), (.object "java/lang/Object")], returnType := none }, accessFlags := 1, code := some k3c0 }
/-- com/example/tickwright/tickwright/dispatch/Dispatcher$Task -/
def k3 : Class := { plain "com/example/tickwright/tickwright/dispatch/Dispatcher$Task" (some 2) with
  accessFlags := 49
  interfaces := #[]
  cf := some (fileOf pool3 18 #[.nestHost 54] #[{ accessFlags := 1, nameIndex := 5, descriptorIndex := 39, attributes := #[] }] 49 2 #[] #[{ accessFlags := 18, nameIndex := 8, descriptorIndex := 21, attributes := #[] }, { accessFlags := 18, nameIndex := 16, descriptorIndex := 21, attributes := #[] }])
  fields := #[{ name := "id", type := (.object "java/lang/Object"), accessFlags := 18, slot := 0, constantValue := 0 }, { name := "payload", type := (.object "java/lang/Object"), accessFlags := 18, slot := 1, constantValue := 0 }]
  methods := #[k3m0]
  instanceTypes := #[(.object "java/lang/Object"), (.object "java/lang/Object")]
  staticTypes := #[]
  resolved := Array.replicate 76 none
  statics := none }

def pool4 : Array CpInfo := pool [(1, .class_ 2), (0, u "java/io/Serializable"), (0, .class_ 4), (0, u "java/lang/Object")] 2

/-- java/io/Serializable -/
def k4 : Class := { plain "java/io/Serializable" (some 0) with
  accessFlags := 1537
  interfaces := #[]
  cf := some (fileOf pool4 1 #[] #[] 1537 3 #[] #[])
  fields := #[]
  methods := #[]
  instanceTypes := #[]
  staticTypes := #[]
  resolved := Array.replicate 7 none
  statics := none }

def pool5 : Array CpInfo := pool [(1, .methodref 2 3), (0, .class_ 4), (0, .nameAndType 5 6), (0, u "java/lang/Object"), (0, u "<init>"), (0, u "()V"), (1, .class_ 10), (1, u "java/lang/Number"), (2, .class_ 14), (0, u "java/io/Serializable"), (0, u "serialVersionUID"), (0, u "J")] 20

def k5c0 : Code := { maxStack := 1, maxLocals := 1, code := jdk_18_method_1_code, exceptionTable := #[], attributes := #[] }
def k5m0 : Method := { name := "<init>", desc := "()V", sig := { parameters := [], returnType := none }, accessFlags := 1, code := some k5c0 }
/-- java/lang/Number -/
def k5 : Class := { plain "java/lang/Number" (some 0) with
  accessFlags := 1057
  interfaces := #[4]
  cf := some (fileOf pool5 8 #[] #[{ accessFlags := 1, nameIndex := 5, descriptorIndex := 6, attributes := #[] }] 1057 2 #[13] #[{ accessFlags := 26, nameIndex := 15, descriptorIndex := 16, attributes := #[] }])
  fields := #[{ name := "serialVersionUID", type := .long, accessFlags := 26, slot := 0, constantValue := 0 }]
  methods := #[k5m0]
  instanceTypes := #[]
  staticTypes := #[.long]
  resolved := Array.replicate 37 none
  statics := none }

def pool6 : Array CpInfo := pool [(1, .class_ 2), (0, u "java/lang/Comparable"), (0, .class_ 4), (0, u "java/lang/Object")] 7

/-- java/lang/Comparable -/
def k6 : Class := { plain "java/lang/Comparable" (some 0) with
  accessFlags := 1537
  interfaces := #[]
  cf := some (fileOf pool6 1 #[] #[] 1537 3 #[] #[])
  fields := #[]
  methods := #[]
  instanceTypes := #[]
  staticTypes := #[]
  resolved := Array.replicate 12 none
  statics := none }

def pool7 : Array CpInfo := pool [(1, .class_ 2), (0, u "java/lang/constant/Constable"), (0, .class_ 4), (0, u "java/lang/Object")] 6

/-- java/lang/constant/Constable -/
def k7 : Class := { plain "java/lang/constant/Constable" (some 0) with
  accessFlags := 1537
  interfaces := #[]
  cf := some (fileOf pool7 1 #[] #[] 1537 3 #[] #[])
  fields := #[]
  methods := #[]
  instanceTypes := #[]
  staticTypes := #[]
  resolved := Array.replicate 11 none
  statics := none }

def pool8 : Array CpInfo := pool [(1, .class_ 2), (0, u "java/lang/constant/ConstantDesc"), (0, .class_ 4), (0, u "java/lang/Object")] 32

/-- java/lang/constant/ConstantDesc -/
def k8 : Class := { plain "java/lang/constant/ConstantDesc" (some 0) with
  accessFlags := 1537
  interfaces := #[]
  cf := some (fileOf pool8 1 #[] #[] 1537 3 #[] #[])
  fields := #[]
  methods := #[]
  instanceTypes := #[]
  staticTypes := #[]
  resolved := Array.replicate 37 none
  statics := none }

def pool9 : Array CpInfo := pool [(1, .class_ 2), (0, u "java/lang/Integer"), (16, u "digits"), (0, u "[C"), (46, u "<init>"), (17, u "DigitOnes"), (0, u "[B"), (2, u "DigitTens"), (10, .nameAndType 67 101), (0, u "()V"), (85, u "valueOf"), (0, u "(I)Ljava/lang/Integer;"), (0, .class_ 190), (0, u "java/lang/Integer$IntegerCache"), (0, .fieldref 189 192), (0, .nameAndType 193 194), (0, u "high"), (0, u "I"), (0, .fieldref 189 196), (0, .nameAndType 197 198), (0, u "cache"), (0, u "[Ljava/lang/Integer;"), (0, .methodref 1 200), (0, .nameAndType 67 201), (0, u "(I)V"), (0, .methodref 203 100), (0, .class_ 204), (0, u "java/lang/Number"), (0, .fieldref 1 206), (0, .nameAndType 207 194), (0, u "value"), (94, u "TYPE"), (0, u "Ljava/lang/Class;"), (0, .class_ 305), (0, u "java/lang/Comparable"), (0, .class_ 307), (0, u "java/lang/constant/Constable"), (0, .class_ 309), (0, u "java/lang/constant/ConstantDesc"), (0, u "MIN_VALUE"), (1, u "MAX_VALUE"), (3, u "SIZE"), (1, u "BYTES"), (1, u "serialVersionUID"), (0, u "J")] 131

def k9c0 : Code := { maxStack := 3, maxLocals := 1, code := jdk_33_method_22_code, exceptionTable := #[], attributes := #[] }
def k9m0 : Method := { name := "valueOf", desc := "(I)Ljava/lang/Integer;", sig := { parameters := [.int], returnType := some (.object "java/lang/Integer") }, accessFlags := 9, code := some k9c0 }
def k9c1 : Code := { maxStack := 2, maxLocals := 2, code := jdk_33_method_23_code, exceptionTable := #[], attributes := #[] }
def k9m1 : Method := { name := "<init>", desc := "(I)V", sig := { parameters := [.int], returnType := none }, accessFlags := 1, code := some k9c1 }
/-- java/lang/Integer -/
def k9 : Class := { plain "java/lang/Integer" (some 5) with
  accessFlags := 49
  interfaces := #[6, 7, 8]
  cf := some (fileOf pool9 1 #[.nestMembers #[189]] #[{ accessFlags := 9, nameIndex := 187, descriptorIndex := 188, attributes := #[] }, { accessFlags := 1, nameIndex := 67, descriptorIndex := 201, attributes := #[] }] 49 203 #[304, 306, 308] #[{ accessFlags := 25, nameIndex := 310, descriptorIndex := 194, attributes := #[] }, { accessFlags := 25, nameIndex := 312, descriptorIndex := 194, attributes := #[] }, { accessFlags := 25, nameIndex := 302, descriptorIndex := 303, attributes := #[] }, { accessFlags := 24, nameIndex := 19, descriptorIndex := 20, attributes := #[] }, { accessFlags := 24, nameIndex := 89, descriptorIndex := 86, attributes := #[] }, { accessFlags := 24, nameIndex := 85, descriptorIndex := 86, attributes := #[] }, { accessFlags := 18, nameIndex := 207, descriptorIndex := 194, attributes := #[] }, { accessFlags := 25, nameIndex := 316, descriptorIndex := 194, attributes := #[] }, { accessFlags := 25, nameIndex := 318, descriptorIndex := 194, attributes := #[] }, { accessFlags := 26, nameIndex := 320, descriptorIndex := 321, attributes := #[] }])
  fields := #[{ name := "MIN_VALUE", type := .int, accessFlags := 25, slot := 0, constantValue := 0 }, { name := "MAX_VALUE", type := .int, accessFlags := 25, slot := 1, constantValue := 0 }, { name := "TYPE", type := (.object "java/lang/Class"), accessFlags := 25, slot := 2, constantValue := 0 }, { name := "digits", type := (.array .char), accessFlags := 24, slot := 3, constantValue := 0 }, { name := "DigitTens", type := (.array .byte), accessFlags := 24, slot := 4, constantValue := 0 }, { name := "DigitOnes", type := (.array .byte), accessFlags := 24, slot := 5, constantValue := 0 }, { name := "value", type := .int, accessFlags := 18, slot := 0, constantValue := 0 }, { name := "SIZE", type := .int, accessFlags := 25, slot := 6, constantValue := 0 }, { name := "BYTES", type := .int, accessFlags := 25, slot := 7, constantValue := 0 }, { name := "serialVersionUID", type := .long, accessFlags := 26, slot := 8, constantValue := 0 }]
  methods := #[k9m0, k9m1]
  instanceTypes := #[.int]
  staticTypes := #[.int, .int, (.object "java/lang/Class"), (.array .char), (.array .byte), (.array .byte), .int, .int, .long]
  resolved := Array.replicate 453 none
  statics := none }

def pool10 : Array CpInfo := pool [(2, .class_ 4), (1, u "java/lang/Object"), (0, u "<init>"), (0, u "()V"), (0, .class_ 8), (0, u "java/lang/Integer"), (7, .class_ 18), (1, u "java/lang/Integer$IntegerCache"), (0, u "$assertionsDisabled"), (0, u "Z"), (26, u "high"), (0, u "I"), (8, u "archivedCache"), (0, u "[Ljava/lang/Integer;"), (12, u "cache"), (0, u "low")] 27

def k10m0 : Method := { name := "<init>", desc := "()V", sig := { parameters := [], returnType := none }, accessFlags := 2, code := none }
/-- java/lang/Integer$IntegerCache -/
def k10 : Class := { plain "java/lang/Integer$IntegerCache" (some 0) with
  accessFlags := 48
  interfaces := #[]
  cf := some (fileOf pool10 16 #[.nestHost 7] #[{ accessFlags := 2, nameIndex := 5, descriptorIndex := 6, attributes := #[] }] 48 2 #[] #[{ accessFlags := 24, nameIndex := 72, descriptorIndex := 48, attributes := #[] }, { accessFlags := 24, nameIndex := 47, descriptorIndex := 48, attributes := #[] }, { accessFlags := 24, nameIndex := 71, descriptorIndex := 58, attributes := #[] }, { accessFlags := 8, nameIndex := 57, descriptorIndex := 58, attributes := #[] }, { accessFlags := 4120, nameIndex := 19, descriptorIndex := 20, attributes := #[] }])
  fields := #[{ name := "low", type := .int, accessFlags := 24, slot := 0, constantValue := 0 }, { name := "high", type := .int, accessFlags := 24, slot := 1, constantValue := 0 }, { name := "cache", type := (.array (.object "java/lang/Integer")), accessFlags := 24, slot := 2, constantValue := 0 }, { name := "archivedCache", type := (.array (.object "java/lang/Integer")), accessFlags := 8, slot := 3, constantValue := 0 }, { name := "$assertionsDisabled", type := .boolean, accessFlags := 4120, slot := 4, constantValue := 0 }]
  methods := #[k10m0]
  instanceTypes := #[]
  staticTypes := #[.int, .int, (.array (.object "java/lang/Integer")), (.array (.object "java/lang/Integer")), .boolean]
  resolved := Array.replicate 100 none
  statics := some 0 }

def pool11 : Array CpInfo := pool [(2, .class_ 4), (1, u "java/lang/CharSequence"), (42, .class_ 48), (0, u "java/lang/CharSequence$1CodePointIterator"), (10, .class_ 60), (0, u "java/lang/CharSequence$1CharIterator"), (5, .class_ 67), (0, u "java/lang/Object")] 63

/-- java/lang/CharSequence -/
def k11 : Class := { plain "java/lang/CharSequence" (some 0) with
  accessFlags := 1537
  interfaces := #[]
  cf := some (fileOf pool11 2 #[.nestMembers #[47, 59]] #[] 1537 66 #[] #[])
  fields := #[]
  methods := #[]
  instanceTypes := #[]
  staticTypes := #[]
  resolved := Array.replicate 131 none
  statics := none }

def pool12 : Array CpInfo := pool [(2, .class_ 4), (1, u "java/lang/Object"), (0, u "<init>"), (0, u "()V"), (3, .class_ 12), (1, u "java/lang/String"), (0, u "value"), (0, u "[B"), (2, u "coder"), (0, u "B"), (2, u "hash"), (0, u "I"), (2, u "hashIsZero"), (0, u "Z"), (13, u "COMPACT_STRINGS"), (534, .class_ 576), (0, u "java/lang/CharSequence"), (22, u "CASE_INSENSITIVE_ORDER"), (0, u "Ljava/util/Comparator;"), (500, u "serialPersistentFields"), (0, u "[Ljava/io/ObjectStreamField;"), (0, .class_ 1104), (0, u "java/lang/String$CaseInsensitiveComparator"), (1, .class_ 1107), (0, u "java/io/Serializable"), (0, .class_ 1109), (0, u "java/lang/Comparable"), (0, .class_ 1111), (0, u "java/lang/constant/Constable"), (0, .class_ 1113), (0, u "java/lang/constant/ConstantDesc"), (2, u "serialVersionUID"), (0, u "J"), (3, u "REPL"), (0, u "C"), (2, u "LATIN1"), (1, u "UTF16")] 323

def k12m0 : Method := { name := "<init>", desc := "()V", sig := { parameters := [], returnType := none }, accessFlags := 1, code := none }
/-- java/lang/String -/
def k12 : Class := { plain "java/lang/String" (some 0) with
  accessFlags := 49
  interfaces := #[4, 6, 11, 7, 8]
  cf := some (fileOf pool12 10 #[.nestMembers #[1103]] #[{ accessFlags := 1, nameIndex := 5, descriptorIndex := 6, attributes := #[] }] 49 2 #[1106, 1108, 575, 1110, 1112] #[{ accessFlags := 18, nameIndex := 13, descriptorIndex := 14, attributes := #[] }, { accessFlags := 18, nameIndex := 17, descriptorIndex := 18, attributes := #[] }, { accessFlags := 2, nameIndex := 21, descriptorIndex := 22, attributes := #[] }, { accessFlags := 2, nameIndex := 25, descriptorIndex := 26, attributes := #[] }, { accessFlags := 26, nameIndex := 1116, descriptorIndex := 1117, attributes := #[] }, { accessFlags := 24, nameIndex := 40, descriptorIndex := 26, attributes := #[] }, { accessFlags := 26, nameIndex := 1101, descriptorIndex := 1102, attributes := #[] }, { accessFlags := 26, nameIndex := 1121, descriptorIndex := 1122, attributes := #[] }, { accessFlags := 25, nameIndex := 599, descriptorIndex := 600, attributes := #[] }, { accessFlags := 24, nameIndex := 1125, descriptorIndex := 18, attributes := #[] }, { accessFlags := 24, nameIndex := 1127, descriptorIndex := 18, attributes := #[] }])
  fields := #[{ name := "value", type := (.array .byte), accessFlags := 18, slot := 0, constantValue := 0 }, { name := "coder", type := .byte, accessFlags := 18, slot := 1, constantValue := 0 }, { name := "hash", type := .int, accessFlags := 2, slot := 2, constantValue := 0 }, { name := "hashIsZero", type := .boolean, accessFlags := 2, slot := 3, constantValue := 0 }, { name := "serialVersionUID", type := .long, accessFlags := 26, slot := 0, constantValue := 0 }, { name := "COMPACT_STRINGS", type := .boolean, accessFlags := 24, slot := 1, constantValue := 0 }, { name := "serialPersistentFields", type := (.array (.object "java/io/ObjectStreamField")), accessFlags := 26, slot := 2, constantValue := 0 }, { name := "REPL", type := .char, accessFlags := 26, slot := 3, constantValue := 0 }, { name := "CASE_INSENSITIVE_ORDER", type := (.object "java/util/Comparator"), accessFlags := 25, slot := 4, constantValue := 0 }, { name := "LATIN1", type := .byte, accessFlags := 24, slot := 5, constantValue := 0 }, { name := "UTF16", type := .byte, accessFlags := 24, slot := 6, constantValue := 0 }]
  methods := #[k12m0]
  instanceTypes := #[(.array .byte), .byte, .int, .boolean]
  staticTypes := #[.long, .boolean, (.array (.object "java/io/ObjectStreamField")), .char, (.object "java/util/Comparator"), .byte, .byte]
  resolved := Array.replicate 1451 none
  statics := none }

def pool13 : Array CpInfo := pool [(2, .class_ 4), (1, u "java/lang/Object"), (0, u "<init>"), (0, u "()V"), (35, .class_ 44), (1, u "java/util/Objects"), (0, u "requireNonNull"), (48, u "(Ljava/lang/Object;Ljava/lang/String;)Ljava/lang/Object;")] 89

def k13m0 : Method := { name := "<init>", desc := "()V", sig := { parameters := [], returnType := none }, accessFlags := 2, code := none }
def k13c1 : Code := { maxStack := 3, maxLocals := 2, code := jdk_31_method_11_code, exceptionTable := #[], attributes := #[] }
def k13m1 : Method := { name := "requireNonNull", desc := "(Ljava/lang/Object;Ljava/lang/String;)Ljava/lang/Object;", sig := { parameters := [(.object "java/lang/Object"), (.object "java/lang/String")], returnType := some (.object "java/lang/Object") }, accessFlags := 9, code := some k13c1 }
/-- java/util/Objects -/
def k13 : Class := { plain "java/util/Objects" (some 0) with
  accessFlags := 49
  interfaces := #[]
  cf := some (fileOf pool13 42 #[] #[{ accessFlags := 2, nameIndex := 5, descriptorIndex := 6, attributes := #[] }, { accessFlags := 9, nameIndex := 45, descriptorIndex := 94, attributes := #[] }] 49 2 #[] #[])
  fields := #[]
  methods := #[k13m0, k13m1]
  instanceTypes := #[]
  staticTypes := #[]
  resolved := Array.replicate 184 none
  statics := none }

def pool14 : Array CpInfo := pool [(1, .methodref 2 3), (0, .class_ 4), (0, .nameAndType 5 6), (0, u "java/lang/Record"), (0, u "<init>"), (0, u "()V"), (0, .fieldref 8 9), (0, .class_ 10), (0, .nameAndType 11 12), (0, u "com/example/tickwright/tickwright/dispatch/Pending"), (0, u "task"), (0, u "Lcom/example/tickwright/tickwright/dispatch/Dispatcher$Task;"), (0, .fieldref 8 14), (0, .nameAndType 15 16), (0, u "serial"), (0, u "J"), (0, .fieldref 8 18), (0, .nameAndType 19 16), (0, u "waitingSince"), (0, .fieldref 8 21), (0, .nameAndType 22 16), (0, u "submittedAt"), (0, .fieldref 8 24), (0, .nameAndType 25 16), (0, u "timeToLiveNanos"), (20, u "(Lcom/example/tickwright/tickwright/dispatch/Dispatcher$Task;JJJJ)V"), (5, u "hasExpired"), (0, u "(J)Z")] 35

def k14c0 : Code := { maxStack := 3, maxLocals := 10, code := prog_23_method_1_code, exceptionTable := #[], attributes := #[] }
def k14m0 : Method := { name := "<init>", desc := "(Lcom/example/tickwright/tickwright/dispatch/Dispatcher$Task;JJJJ)V", sig := { parameters := [(.object "com/example/tickwright/tickwright/dispatch/Dispatcher$Task"), .long, .long, .long, .long], returnType := none }, accessFlags := 0, code := some k14c0 }
def k14c1 : Code := { maxStack := 4, maxLocals := 3, code := prog_23_method_3_code, exceptionTable := #[], attributes := #[] }
def k14m1 : Method := { name := "hasExpired", desc := "(J)Z", sig := { parameters := [.long], returnType := some .boolean }, accessFlags := 0, code := some k14c1 }
/-- com/example/tickwright/tickwright/dispatch/Pending -/
def k14 : Class := { plain "com/example/tickwright/tickwright/dispatch/Pending" (some 2) with
  accessFlags := 48
  interfaces := #[]
  cf := some (fileOf pool14 8 #[] #[{ accessFlags := 0, nameIndex := 5, descriptorIndex := 46, attributes := #[] }, { accessFlags := 0, nameIndex := 52, descriptorIndex := 53, attributes := #[] }] 48 2 #[] #[{ accessFlags := 18, nameIndex := 11, descriptorIndex := 12, attributes := #[] }, { accessFlags := 18, nameIndex := 15, descriptorIndex := 16, attributes := #[] }, { accessFlags := 18, nameIndex := 19, descriptorIndex := 16, attributes := #[] }, { accessFlags := 18, nameIndex := 22, descriptorIndex := 16, attributes := #[] }, { accessFlags := 18, nameIndex := 25, descriptorIndex := 16, attributes := #[] }])
  fields := #[{ name := "task", type := (.object "com/example/tickwright/tickwright/dispatch/Dispatcher$Task"), accessFlags := 18, slot := 0, constantValue := 0 }, { name := "serial", type := .long, accessFlags := 18, slot := 1, constantValue := 0 }, { name := "waitingSince", type := .long, accessFlags := 18, slot := 2, constantValue := 0 }, { name := "submittedAt", type := .long, accessFlags := 18, slot := 3, constantValue := 0 }, { name := "timeToLiveNanos", type := .long, accessFlags := 18, slot := 4, constantValue := 0 }]
  methods := #[k14m0, k14m1]
  instanceTypes := #[(.object "com/example/tickwright/tickwright/dispatch/Dispatcher$Task"), .long, .long, .long, .long]
  staticTypes := #[]
  resolved := Array.replicate 89 none
  statics := none }

def pool15 : Array CpInfo := pool [(1, u "java/lang/Cloneable"), (0, .class_ 1), (0, u "java/lang/Object"), (0, .class_ 3)] 3

/-- java/lang/Cloneable -/
def k15 : Class := { plain "java/lang/Cloneable" (some 0) with
  accessFlags := 1537
  interfaces := #[]
  cf := some (fileOf pool15 2 #[] #[] 1537 4 #[] #[])
  fields := #[]
  methods := #[]
  instanceTypes := #[]
  staticTypes := #[]
  resolved := Array.replicate 8 none
  statics := none }

/-- the primitive byte -/
def k16 : Class := { plain "byte" none with kind := .primitive 'B', accessFlags := 0x411 }
/-- [B -/
def k17 : Class := { plain "[B" (some 0) with kind := .array 16 .byte, interfaces := #[15, 4], accessFlags := 1041 }

/-- the primitive int -/
def k18 : Class := { plain "int" none with kind := .primitive 'I', accessFlags := 0x411 }
/-- [I -/
def k19 : Class := { plain "[I" (some 0) with kind := .array 18 .int, interfaces := #[15, 4], accessFlags := 1041 }

/-- [Ljava/lang/Integer; -/
def k20 : Class := { plain "[Ljava/lang/Integer;" (some 0) with kind := .array 9 (.object "java/lang/Integer"), interfaces := #[15, 4], accessFlags := 1041 }

def heap : Heap := #[{ cls := 10, slots := #[.int 0, .int 127, .ref 1, .null, .int 0], vm := .statics 10 },
  { cls := 20, slots := #[.ref 2, .ref 3, .ref 4, .ref 5, .ref 6, .ref 7, .ref 8, .ref 9, .ref 10, .ref 11, .ref 12, .ref 13, .ref 14, .ref 15, .ref 16, .ref 17, .ref 18, .ref 19, .ref 20, .ref 21, .ref 22, .ref 23, .ref 24, .ref 25, .ref 26, .ref 27, .ref 28, .ref 29, .ref 30, .ref 31, .ref 32, .ref 33, .ref 34, .ref 35, .ref 36, .ref 37, .ref 38, .ref 39, .ref 40, .ref 41, .ref 42, .ref 43, .ref 44, .ref 45, .ref 46, .ref 47, .ref 48, .ref 49, .ref 50, .ref 51, .ref 52, .ref 53, .ref 54, .ref 55, .ref 56, .ref 57, .ref 58, .ref 59, .ref 60, .ref 61, .ref 62, .ref 63, .ref 64, .ref 65, .ref 66, .ref 67, .ref 68, .ref 69, .ref 70, .ref 71, .ref 72, .ref 73, .ref 74, .ref 75, .ref 76, .ref 77, .ref 78, .ref 79, .ref 80, .ref 81, .ref 82, .ref 83, .ref 84, .ref 85, .ref 86, .ref 87, .ref 88, .ref 89, .ref 90, .ref 91, .ref 92, .ref 93, .ref 94, .ref 95, .ref 96, .ref 97, .ref 98, .ref 99, .ref 100, .ref 101, .ref 102, .ref 103, .ref 104, .ref 105, .ref 106, .ref 107, .ref 108, .ref 109, .ref 110, .ref 111, .ref 112, .ref 113, .ref 114, .ref 115, .ref 116, .ref 117, .ref 118, .ref 119, .ref 120, .ref 121, .ref 122, .ref 123, .ref 124, .ref 125, .ref 126, .ref 127, .ref 128, .ref 129, .ref 130, .ref 131, .ref 132, .ref 133, .ref 134, .ref 135, .ref 136, .ref 137, .ref 138, .ref 139, .ref 140, .ref 141, .ref 142, .ref 143, .ref 144, .ref 145, .ref 146, .ref 147, .ref 148, .ref 149, .ref 150, .ref 151, .ref 152, .ref 153, .ref 154, .ref 155, .ref 156, .ref 157, .ref 158, .ref 159, .ref 160, .ref 161, .ref 162, .ref 163, .ref 164, .ref 165, .ref 166, .ref 167, .ref 168, .ref 169, .ref 170, .ref 171, .ref 172, .ref 173, .ref 174, .ref 175, .ref 176, .ref 177, .ref 178, .ref 179, .ref 180, .ref 181, .ref 182, .ref 183, .ref 184, .ref 185, .ref 186, .ref 187, .ref 188, .ref 189, .ref 190, .ref 191, .ref 192, .ref 193, .ref 194, .ref 195, .ref 196, .ref 197, .ref 198, .ref 199, .ref 200, .ref 201, .ref 202, .ref 203, .ref 204, .ref 205, .ref 206, .ref 207, .ref 208, .ref 209, .ref 210, .ref 211, .ref 212, .ref 213, .ref 214, .ref 215, .ref 216, .ref 217, .ref 218, .ref 219, .ref 220, .ref 221, .ref 222, .ref 223, .ref 224, .ref 225, .ref 226, .ref 227, .ref 228, .ref 229, .ref 230, .ref 231, .ref 232, .ref 233, .ref 234, .ref 235, .ref 236, .ref 237, .ref 238, .ref 239, .ref 240, .ref 241, .ref 242, .ref 243, .ref 244, .ref 245, .ref 246, .ref 247, .ref 248, .ref 249, .ref 250, .ref 251, .ref 252, .ref 253, .ref 254, .ref 255, .ref 256, .ref 257], vm := .none },
  { cls := 9, slots := #[.int (-128)], vm := .none },
  { cls := 9, slots := #[.int (-127)], vm := .none },
  { cls := 9, slots := #[.int (-126)], vm := .none },
  { cls := 9, slots := #[.int (-125)], vm := .none },
  { cls := 9, slots := #[.int (-124)], vm := .none },
  { cls := 9, slots := #[.int (-123)], vm := .none },
  { cls := 9, slots := #[.int (-122)], vm := .none },
  { cls := 9, slots := #[.int (-121)], vm := .none },
  { cls := 9, slots := #[.int (-120)], vm := .none },
  { cls := 9, slots := #[.int (-119)], vm := .none },
  { cls := 9, slots := #[.int (-118)], vm := .none },
  { cls := 9, slots := #[.int (-117)], vm := .none },
  { cls := 9, slots := #[.int (-116)], vm := .none },
  { cls := 9, slots := #[.int (-115)], vm := .none },
  { cls := 9, slots := #[.int (-114)], vm := .none },
  { cls := 9, slots := #[.int (-113)], vm := .none },
  { cls := 9, slots := #[.int (-112)], vm := .none },
  { cls := 9, slots := #[.int (-111)], vm := .none },
  { cls := 9, slots := #[.int (-110)], vm := .none },
  { cls := 9, slots := #[.int (-109)], vm := .none },
  { cls := 9, slots := #[.int (-108)], vm := .none },
  { cls := 9, slots := #[.int (-107)], vm := .none },
  { cls := 9, slots := #[.int (-106)], vm := .none },
  { cls := 9, slots := #[.int (-105)], vm := .none },
  { cls := 9, slots := #[.int (-104)], vm := .none },
  { cls := 9, slots := #[.int (-103)], vm := .none },
  { cls := 9, slots := #[.int (-102)], vm := .none },
  { cls := 9, slots := #[.int (-101)], vm := .none },
  { cls := 9, slots := #[.int (-100)], vm := .none },
  { cls := 9, slots := #[.int (-99)], vm := .none },
  { cls := 9, slots := #[.int (-98)], vm := .none },
  { cls := 9, slots := #[.int (-97)], vm := .none },
  { cls := 9, slots := #[.int (-96)], vm := .none },
  { cls := 9, slots := #[.int (-95)], vm := .none },
  { cls := 9, slots := #[.int (-94)], vm := .none },
  { cls := 9, slots := #[.int (-93)], vm := .none },
  { cls := 9, slots := #[.int (-92)], vm := .none },
  { cls := 9, slots := #[.int (-91)], vm := .none },
  { cls := 9, slots := #[.int (-90)], vm := .none },
  { cls := 9, slots := #[.int (-89)], vm := .none },
  { cls := 9, slots := #[.int (-88)], vm := .none },
  { cls := 9, slots := #[.int (-87)], vm := .none },
  { cls := 9, slots := #[.int (-86)], vm := .none },
  { cls := 9, slots := #[.int (-85)], vm := .none },
  { cls := 9, slots := #[.int (-84)], vm := .none },
  { cls := 9, slots := #[.int (-83)], vm := .none },
  { cls := 9, slots := #[.int (-82)], vm := .none },
  { cls := 9, slots := #[.int (-81)], vm := .none },
  { cls := 9, slots := #[.int (-80)], vm := .none },
  { cls := 9, slots := #[.int (-79)], vm := .none },
  { cls := 9, slots := #[.int (-78)], vm := .none },
  { cls := 9, slots := #[.int (-77)], vm := .none },
  { cls := 9, slots := #[.int (-76)], vm := .none },
  { cls := 9, slots := #[.int (-75)], vm := .none },
  { cls := 9, slots := #[.int (-74)], vm := .none },
  { cls := 9, slots := #[.int (-73)], vm := .none },
  { cls := 9, slots := #[.int (-72)], vm := .none },
  { cls := 9, slots := #[.int (-71)], vm := .none },
  { cls := 9, slots := #[.int (-70)], vm := .none },
  { cls := 9, slots := #[.int (-69)], vm := .none },
  { cls := 9, slots := #[.int (-68)], vm := .none },
  { cls := 9, slots := #[.int (-67)], vm := .none },
  { cls := 9, slots := #[.int (-66)], vm := .none },
  { cls := 9, slots := #[.int (-65)], vm := .none },
  { cls := 9, slots := #[.int (-64)], vm := .none },
  { cls := 9, slots := #[.int (-63)], vm := .none },
  { cls := 9, slots := #[.int (-62)], vm := .none },
  { cls := 9, slots := #[.int (-61)], vm := .none },
  { cls := 9, slots := #[.int (-60)], vm := .none },
  { cls := 9, slots := #[.int (-59)], vm := .none },
  { cls := 9, slots := #[.int (-58)], vm := .none },
  { cls := 9, slots := #[.int (-57)], vm := .none },
  { cls := 9, slots := #[.int (-56)], vm := .none },
  { cls := 9, slots := #[.int (-55)], vm := .none },
  { cls := 9, slots := #[.int (-54)], vm := .none },
  { cls := 9, slots := #[.int (-53)], vm := .none },
  { cls := 9, slots := #[.int (-52)], vm := .none },
  { cls := 9, slots := #[.int (-51)], vm := .none },
  { cls := 9, slots := #[.int (-50)], vm := .none },
  { cls := 9, slots := #[.int (-49)], vm := .none },
  { cls := 9, slots := #[.int (-48)], vm := .none },
  { cls := 9, slots := #[.int (-47)], vm := .none },
  { cls := 9, slots := #[.int (-46)], vm := .none },
  { cls := 9, slots := #[.int (-45)], vm := .none },
  { cls := 9, slots := #[.int (-44)], vm := .none },
  { cls := 9, slots := #[.int (-43)], vm := .none },
  { cls := 9, slots := #[.int (-42)], vm := .none },
  { cls := 9, slots := #[.int (-41)], vm := .none },
  { cls := 9, slots := #[.int (-40)], vm := .none },
  { cls := 9, slots := #[.int (-39)], vm := .none },
  { cls := 9, slots := #[.int (-38)], vm := .none },
  { cls := 9, slots := #[.int (-37)], vm := .none },
  { cls := 9, slots := #[.int (-36)], vm := .none },
  { cls := 9, slots := #[.int (-35)], vm := .none },
  { cls := 9, slots := #[.int (-34)], vm := .none },
  { cls := 9, slots := #[.int (-33)], vm := .none },
  { cls := 9, slots := #[.int (-32)], vm := .none },
  { cls := 9, slots := #[.int (-31)], vm := .none },
  { cls := 9, slots := #[.int (-30)], vm := .none },
  { cls := 9, slots := #[.int (-29)], vm := .none },
  { cls := 9, slots := #[.int (-28)], vm := .none },
  { cls := 9, slots := #[.int (-27)], vm := .none },
  { cls := 9, slots := #[.int (-26)], vm := .none },
  { cls := 9, slots := #[.int (-25)], vm := .none },
  { cls := 9, slots := #[.int (-24)], vm := .none },
  { cls := 9, slots := #[.int (-23)], vm := .none },
  { cls := 9, slots := #[.int (-22)], vm := .none },
  { cls := 9, slots := #[.int (-21)], vm := .none },
  { cls := 9, slots := #[.int (-20)], vm := .none },
  { cls := 9, slots := #[.int (-19)], vm := .none },
  { cls := 9, slots := #[.int (-18)], vm := .none },
  { cls := 9, slots := #[.int (-17)], vm := .none },
  { cls := 9, slots := #[.int (-16)], vm := .none },
  { cls := 9, slots := #[.int (-15)], vm := .none },
  { cls := 9, slots := #[.int (-14)], vm := .none },
  { cls := 9, slots := #[.int (-13)], vm := .none },
  { cls := 9, slots := #[.int (-12)], vm := .none },
  { cls := 9, slots := #[.int (-11)], vm := .none },
  { cls := 9, slots := #[.int (-10)], vm := .none },
  { cls := 9, slots := #[.int (-9)], vm := .none },
  { cls := 9, slots := #[.int (-8)], vm := .none },
  { cls := 9, slots := #[.int (-7)], vm := .none },
  { cls := 9, slots := #[.int (-6)], vm := .none },
  { cls := 9, slots := #[.int (-5)], vm := .none },
  { cls := 9, slots := #[.int (-4)], vm := .none },
  { cls := 9, slots := #[.int (-3)], vm := .none },
  { cls := 9, slots := #[.int (-2)], vm := .none },
  { cls := 9, slots := #[.int (-1)], vm := .none },
  { cls := 9, slots := #[.int (0)], vm := .none },
  { cls := 9, slots := #[.int (1)], vm := .none },
  { cls := 9, slots := #[.int (2)], vm := .none },
  { cls := 9, slots := #[.int (3)], vm := .none },
  { cls := 9, slots := #[.int (4)], vm := .none },
  { cls := 9, slots := #[.int (5)], vm := .none },
  { cls := 9, slots := #[.int (6)], vm := .none },
  { cls := 9, slots := #[.int (7)], vm := .none },
  { cls := 9, slots := #[.int (8)], vm := .none },
  { cls := 9, slots := #[.int (9)], vm := .none },
  { cls := 9, slots := #[.int (10)], vm := .none },
  { cls := 9, slots := #[.int (11)], vm := .none },
  { cls := 9, slots := #[.int (12)], vm := .none },
  { cls := 9, slots := #[.int (13)], vm := .none },
  { cls := 9, slots := #[.int (14)], vm := .none },
  { cls := 9, slots := #[.int (15)], vm := .none },
  { cls := 9, slots := #[.int (16)], vm := .none },
  { cls := 9, slots := #[.int (17)], vm := .none },
  { cls := 9, slots := #[.int (18)], vm := .none },
  { cls := 9, slots := #[.int (19)], vm := .none },
  { cls := 9, slots := #[.int (20)], vm := .none },
  { cls := 9, slots := #[.int (21)], vm := .none },
  { cls := 9, slots := #[.int (22)], vm := .none },
  { cls := 9, slots := #[.int (23)], vm := .none },
  { cls := 9, slots := #[.int (24)], vm := .none },
  { cls := 9, slots := #[.int (25)], vm := .none },
  { cls := 9, slots := #[.int (26)], vm := .none },
  { cls := 9, slots := #[.int (27)], vm := .none },
  { cls := 9, slots := #[.int (28)], vm := .none },
  { cls := 9, slots := #[.int (29)], vm := .none },
  { cls := 9, slots := #[.int (30)], vm := .none },
  { cls := 9, slots := #[.int (31)], vm := .none },
  { cls := 9, slots := #[.int (32)], vm := .none },
  { cls := 9, slots := #[.int (33)], vm := .none },
  { cls := 9, slots := #[.int (34)], vm := .none },
  { cls := 9, slots := #[.int (35)], vm := .none },
  { cls := 9, slots := #[.int (36)], vm := .none },
  { cls := 9, slots := #[.int (37)], vm := .none },
  { cls := 9, slots := #[.int (38)], vm := .none },
  { cls := 9, slots := #[.int (39)], vm := .none },
  { cls := 9, slots := #[.int (40)], vm := .none },
  { cls := 9, slots := #[.int (41)], vm := .none },
  { cls := 9, slots := #[.int (42)], vm := .none },
  { cls := 9, slots := #[.int (43)], vm := .none },
  { cls := 9, slots := #[.int (44)], vm := .none },
  { cls := 9, slots := #[.int (45)], vm := .none },
  { cls := 9, slots := #[.int (46)], vm := .none },
  { cls := 9, slots := #[.int (47)], vm := .none },
  { cls := 9, slots := #[.int (48)], vm := .none },
  { cls := 9, slots := #[.int (49)], vm := .none },
  { cls := 9, slots := #[.int (50)], vm := .none },
  { cls := 9, slots := #[.int (51)], vm := .none },
  { cls := 9, slots := #[.int (52)], vm := .none },
  { cls := 9, slots := #[.int (53)], vm := .none },
  { cls := 9, slots := #[.int (54)], vm := .none },
  { cls := 9, slots := #[.int (55)], vm := .none },
  { cls := 9, slots := #[.int (56)], vm := .none },
  { cls := 9, slots := #[.int (57)], vm := .none },
  { cls := 9, slots := #[.int (58)], vm := .none },
  { cls := 9, slots := #[.int (59)], vm := .none },
  { cls := 9, slots := #[.int (60)], vm := .none },
  { cls := 9, slots := #[.int (61)], vm := .none },
  { cls := 9, slots := #[.int (62)], vm := .none },
  { cls := 9, slots := #[.int (63)], vm := .none },
  { cls := 9, slots := #[.int (64)], vm := .none },
  { cls := 9, slots := #[.int (65)], vm := .none },
  { cls := 9, slots := #[.int (66)], vm := .none },
  { cls := 9, slots := #[.int (67)], vm := .none },
  { cls := 9, slots := #[.int (68)], vm := .none },
  { cls := 9, slots := #[.int (69)], vm := .none },
  { cls := 9, slots := #[.int (70)], vm := .none },
  { cls := 9, slots := #[.int (71)], vm := .none },
  { cls := 9, slots := #[.int (72)], vm := .none },
  { cls := 9, slots := #[.int (73)], vm := .none },
  { cls := 9, slots := #[.int (74)], vm := .none },
  { cls := 9, slots := #[.int (75)], vm := .none },
  { cls := 9, slots := #[.int (76)], vm := .none },
  { cls := 9, slots := #[.int (77)], vm := .none },
  { cls := 9, slots := #[.int (78)], vm := .none },
  { cls := 9, slots := #[.int (79)], vm := .none },
  { cls := 9, slots := #[.int (80)], vm := .none },
  { cls := 9, slots := #[.int (81)], vm := .none },
  { cls := 9, slots := #[.int (82)], vm := .none },
  { cls := 9, slots := #[.int (83)], vm := .none },
  { cls := 9, slots := #[.int (84)], vm := .none },
  { cls := 9, slots := #[.int (85)], vm := .none },
  { cls := 9, slots := #[.int (86)], vm := .none },
  { cls := 9, slots := #[.int (87)], vm := .none },
  { cls := 9, slots := #[.int (88)], vm := .none },
  { cls := 9, slots := #[.int (89)], vm := .none },
  { cls := 9, slots := #[.int (90)], vm := .none },
  { cls := 9, slots := #[.int (91)], vm := .none },
  { cls := 9, slots := #[.int (92)], vm := .none },
  { cls := 9, slots := #[.int (93)], vm := .none },
  { cls := 9, slots := #[.int (94)], vm := .none },
  { cls := 9, slots := #[.int (95)], vm := .none },
  { cls := 9, slots := #[.int (96)], vm := .none },
  { cls := 9, slots := #[.int (97)], vm := .none },
  { cls := 9, slots := #[.int (98)], vm := .none },
  { cls := 9, slots := #[.int (99)], vm := .none },
  { cls := 9, slots := #[.int (100)], vm := .none },
  { cls := 9, slots := #[.int (101)], vm := .none },
  { cls := 9, slots := #[.int (102)], vm := .none },
  { cls := 9, slots := #[.int (103)], vm := .none },
  { cls := 9, slots := #[.int (104)], vm := .none },
  { cls := 9, slots := #[.int (105)], vm := .none },
  { cls := 9, slots := #[.int (106)], vm := .none },
  { cls := 9, slots := #[.int (107)], vm := .none },
  { cls := 9, slots := #[.int (108)], vm := .none },
  { cls := 9, slots := #[.int (109)], vm := .none },
  { cls := 9, slots := #[.int (110)], vm := .none },
  { cls := 9, slots := #[.int (111)], vm := .none },
  { cls := 9, slots := #[.int (112)], vm := .none },
  { cls := 9, slots := #[.int (113)], vm := .none },
  { cls := 9, slots := #[.int (114)], vm := .none },
  { cls := 9, slots := #[.int (115)], vm := .none },
  { cls := 9, slots := #[.int (116)], vm := .none },
  { cls := 9, slots := #[.int (117)], vm := .none },
  { cls := 9, slots := #[.int (118)], vm := .none },
  { cls := 9, slots := #[.int (119)], vm := .none },
  { cls := 9, slots := #[.int (120)], vm := .none },
  { cls := 9, slots := #[.int (121)], vm := .none },
  { cls := 9, slots := #[.int (122)], vm := .none },
  { cls := 9, slots := #[.int (123)], vm := .none },
  { cls := 9, slots := #[.int (124)], vm := .none },
  { cls := 9, slots := #[.int (125)], vm := .none },
  { cls := 9, slots := #[.int (126)], vm := .none },
  { cls := 9, slots := #[.int (127)], vm := .none }]
def classes : Array Class := #[k0, k1, k2, k3, k4, k5, k6, k7, k8, k9, k10, k11, k12, k13, k14, k15, k16, k17, k18, k19, k20]
def interned : List (Array UInt16 × Addr) := []
def slotsUsed : Nat := 517
def theMethod : MethodId := ⟨1, 1⟩
def args0 : Array Value := #[.long 5, .long 7, .long 3, .int 4, .long 1]
def aboutOver (below : List Frame) : State where
  vm := { classes := classes, interned := interned.toArray }
  heap := heap
  slotsUsed := slotsUsed
  threads := #[{ frames := .invoking theMethod args0 :: below }]
def below0 : List Frame := [.native { method := ⟨0, 0⟩, args := #[] }]
def about1 : State := aboutOver below0
def p0 : Program := .bare "" "" ""
def e0 : Env := launch0.env 0 0 0
theorem w_frames : about1.frames = Frame.invoking theMethod args0 :: below0 := rfl
set_option maxRecDepth 65536 in
theorem w_args : argsFit about1.vm theMethod args0 = true := by decide +kernel
set_option maxRecDepth 65536 in
theorem w_heap : heapFits about1 = true := by decide +kernel
set_option maxRecDepth 65536 in
theorem w_runnable : about1.curStatus? = some .runnable := by decide +kernel
set_option maxRecDepth 65536 in
theorem w_alone : about1.alone = true := by decide +kernel
set_option maxRecDepth 65536 in
theorem w_named : about1.methodNamed? x = some theMethod := by decide +kernel
set_option maxRecDepth 65536 in
theorem w_hears : about1.hears theMethod below0 = true := by decide +kernel
set_option maxRecDepth 65536 in
theorem w_ripe : about1.ripe theMethod args0 below0 = true := by decide +kernel
theorem w_running : about1.status = .running := rfl
set_option maxRecDepth 65536 in
theorem w_room : about1.hasRoom e0.platform room_1 = true :=
  launch0.hasRoom_least _ room_1 (by decide +kernel) (by decide +kernel) (by decide +kernel) (by decide +kernel) (by decide +kernel) (by decide +kernel)
theorem allAtoms_all (ts : List Jvm.Cond) (a : Array Jvm.Value) (st : Jvm.State) : (allAtoms ts).before a st = ts.all (fun c => c.before a st) := by
  induction ts with
  | nil => rfl
  | cons c t ih =>
    show (Jvm.Cond.and c (allAtoms t)).before a st = _
    rw [Jvm.Cond.before_and, ih, List.all_cons]
def words1 : List Jvm.Cond := Jvm.Cond.code x code maxLocals ret :: tables_1
/-- a 'code' word, met by the world's own term for the bytes: nothing is compared byte by byte -/
theorem code_word {y : MethodName} {bytes : ByteArray} {mx : Nat} {rt : Option FieldType} {a : Array Value} {s : State} {m : MethodId} {meth : Method} {c : Code} (h1 : s.methodNamed? y = some m) (h2 : s.vm.method? m = some meth) (h3 : meth.code = some c) (h4 : c.code = bytes)
    (h5 : (c.maxLocals == mx && c.exceptionTable.isEmpty && decide (c.maxStack ≤ mostOperands) && decide (meth.sig.returnType = rt) && !meth.locks && decide (parseMethodDescriptor y.desc = some meth.sig)) = true) : (Jvm.Cond.code y bytes mx rt).before a s = true := by
  simp only [Bool.and_eq_true, beq_iff_eq, Bool.not_eq_true', decide_eq_true_eq] at h5
  obtain ⟨⟨⟨⟨⟨g1, g2⟩, g3⟩, g4⟩, g5⟩, g6⟩ := h5
  simp [Cond.before, Cond.holds, Cond.value, h1, h2, h3, h4, g1, g2, g3, g4, g5, g6]
def isCode : Jvm.Cond → Bool
  | .code _ _ _ _ => true
  | _ => false
theorem all_split {L : List Jvm.Cond} {P : Jvm.Cond → Bool} (h1 : L.all (fun c => isCode c || P c) = true) (h2 : ∀ c ∈ L.filter isCode, P c = true) : L.all P = true := by
  refine List.all_eq_true.mpr fun c hc => ?_
  have h := List.all_eq_true.mp h1 c hc
  rcases Bool.eq_false_or_eq_true (isCode c) with hi | hi
  · exact h2 c (List.mem_filter.mpr ⟨hc, hi⟩)
  · simpa [hi] using h
set_option maxRecDepth 65536 in
theorem w_c0 : (Jvm.Cond.code x code maxLocals ret).before args0 about1 = true := code_word (m := ⟨1, 1⟩) (meth := k1m1) (c := k1c1) (by decide +kernel) rfl rfl rfl (by decide +kernel)
set_option maxRecDepth 65536 in
theorem w_c1 : (Jvm.Cond.code ({ cls := "java/lang/Integer", name := "valueOf", desc := "(I)Ljava/lang/Integer;" } : Jvm.MethodName) jdk_33_method_22_code (1 : Nat) (Option.some (Jvm.ClassFile.FieldType.object "java/lang/Integer"))).before args0 about1 = true := code_word (m := ⟨9, 0⟩) (meth := k9m0) (c := k9c0) (by decide +kernel) rfl rfl rfl (by decide +kernel)
set_option maxRecDepth 65536 in
theorem w_c2 : (Jvm.Cond.code ({ cls := "com/example/tickwright/tickwright/dispatch/Dispatcher$Task", name := "<init>", desc := "(Ljava/lang/Object;Ljava/lang/Object;)V" } : Jvm.MethodName) prog_18_method_1_code (3 : Nat) (Option.none : Option Jvm.ClassFile.FieldType)).before args0 about1 = true := code_word (m := ⟨3, 0⟩) (meth := k3m0) (c := k3c0) (by decide +kernel) rfl rfl rfl (by decide +kernel)
set_option maxRecDepth 65536 in
theorem w_c3 : (Jvm.Cond.code ({ cls := "java/lang/Record", name := "<init>", desc := "()V" } : Jvm.MethodName) jdk_30_method_1_code (1 : Nat) (Option.none : Option Jvm.ClassFile.FieldType)).before args0 about1 = true := code_word (m := ⟨2, 0⟩) (meth := k2m0) (c := k2c0) (by decide +kernel) rfl rfl rfl (by decide +kernel)
set_option maxRecDepth 65536 in
theorem w_c4 : (Jvm.Cond.code ({ cls := "java/lang/Object", name := "<init>", desc := "()V" } : Jvm.MethodName) object_method_1_code (1 : Nat) (Option.none : Option Jvm.ClassFile.FieldType)).before args0 about1 = true := code_word (m := ⟨0, 0⟩) (meth := k0m0) (c := k0c0) (by decide +kernel) rfl rfl rfl (by decide +kernel)
set_option maxRecDepth 65536 in
theorem w_c5 : (Jvm.Cond.code ({ cls := "java/util/Objects", name := "requireNonNull", desc := "(Ljava/lang/Object;Ljava/lang/String;)Ljava/lang/Object;" } : Jvm.MethodName) jdk_31_method_11_code (2 : Nat) (Option.some (Jvm.ClassFile.FieldType.object "java/lang/Object"))).before args0 about1 = true := code_word (m := ⟨13, 1⟩) (meth := k13m1) (c := k13c1) (by decide +kernel) rfl rfl rfl (by decide +kernel)
set_option maxRecDepth 65536 in
theorem w_c6 : (Jvm.Cond.code ({ cls := "com/example/tickwright/tickwright/dispatch/Pending", name := "<init>", desc := "(Lcom/example/tickwright/tickwright/dispatch/Dispatcher$Task;JJJJ)V" } : Jvm.MethodName) prog_23_method_1_code (10 : Nat) (Option.none : Option Jvm.ClassFile.FieldType)).before args0 about1 = true := code_word (m := ⟨14, 0⟩) (meth := k14m0) (c := k14c0) (by decide +kernel) rfl rfl rfl (by decide +kernel)
set_option maxRecDepth 65536 in
theorem w_c7 : (Jvm.Cond.code ({ cls := "com/example/tickwright/tickwright/dispatch/Pending", name := "hasExpired", desc := "(J)Z" } : Jvm.MethodName) prog_23_method_3_code (3 : Nat) (Option.some Jvm.ClassFile.FieldType.boolean)).before args0 about1 = true := code_word (m := ⟨14, 1⟩) (meth := k14m1) (c := k14c1) (by decide +kernel) rfl rfl rfl (by decide +kernel)
set_option maxRecDepth 65536 in
theorem w_c8 : (Jvm.Cond.code ({ cls := "java/lang/Integer", name := "<init>", desc := "(I)V" } : Jvm.MethodName) jdk_33_method_23_code (2 : Nat) (Option.none : Option Jvm.ClassFile.FieldType)).before args0 about1 = true := code_word (m := ⟨9, 1⟩) (meth := k9m1) (c := k9c1) (by decide +kernel) rfl rfl rfl (by decide +kernel)
set_option maxRecDepth 65536 in
theorem w_c9 : (Jvm.Cond.code ({ cls := "java/lang/Number", name := "<init>", desc := "()V" } : Jvm.MethodName) jdk_18_method_1_code (1 : Nat) (Option.none : Option Jvm.ClassFile.FieldType)).before args0 about1 = true := code_word (m := ⟨5, 0⟩) (meth := k5m0) (c := k5c0) (by decide +kernel) rfl rfl rfl (by decide +kernel)
def codes1 : List Jvm.Cond := [Jvm.Cond.code x code maxLocals ret, Jvm.Cond.code ({ cls := "java/lang/Integer", name := "valueOf", desc := "(I)Ljava/lang/Integer;" } : Jvm.MethodName) jdk_33_method_22_code (1 : Nat) (Option.some (Jvm.ClassFile.FieldType.object "java/lang/Integer")), Jvm.Cond.code ({ cls := "com/example/tickwright/tickwright/dispatch/Dispatcher$Task", name := "<init>", desc := "(Ljava/lang/Object;Ljava/lang/Object;)V" } : Jvm.MethodName) prog_18_method_1_code (3 : Nat) (Option.none : Option Jvm.ClassFile.FieldType), Jvm.Cond.code ({ cls := "java/lang/Record", name := "<init>", desc := "()V" } : Jvm.MethodName) jdk_30_method_1_code (1 : Nat) (Option.none : Option Jvm.ClassFile.FieldType), Jvm.Cond.code ({ cls := "java/lang/Object", name := "<init>", desc := "()V" } : Jvm.MethodName) object_method_1_code (1 : Nat) (Option.none : Option Jvm.ClassFile.FieldType), Jvm.Cond.code ({ cls := "java/util/Objects", name := "requireNonNull", desc := "(Ljava/lang/Object;Ljava/lang/String;)Ljava/lang/Object;" } : Jvm.MethodName) jdk_31_method_11_code (2 : Nat) (Option.some (Jvm.ClassFile.FieldType.object "java/lang/Object")), Jvm.Cond.code ({ cls := "com/example/tickwright/tickwright/dispatch/Pending", name := "<init>", desc := "(Lcom/example/tickwright/tickwright/dispatch/Dispatcher$Task;JJJJ)V" } : Jvm.MethodName) prog_23_method_1_code (10 : Nat) (Option.none : Option Jvm.ClassFile.FieldType), Jvm.Cond.code ({ cls := "com/example/tickwright/tickwright/dispatch/Pending", name := "hasExpired", desc := "(J)Z" } : Jvm.MethodName) prog_23_method_3_code (3 : Nat) (Option.some Jvm.ClassFile.FieldType.boolean), Jvm.Cond.code ({ cls := "java/lang/Integer", name := "<init>", desc := "(I)V" } : Jvm.MethodName) jdk_33_method_23_code (2 : Nat) (Option.none : Option Jvm.ClassFile.FieldType), Jvm.Cond.code ({ cls := "java/lang/Number", name := "<init>", desc := "()V" } : Jvm.MethodName) jdk_18_method_1_code (1 : Nat) (Option.none : Option Jvm.ClassFile.FieldType)]
set_option maxRecDepth 65536 in
theorem codes_eq : words1.filter isCode = codes1 := rfl
theorem w_codes : ∀ c ∈ words1.filter isCode, c.before args0 about1 = true := by
  rw [codes_eq]
  intro c hc
  simp only [codes1, List.mem_cons, List.not_mem_nil, or_false] at hc
  rcases hc with rfl | rfl | rfl | rfl | rfl | rfl | rfl | rfl | rfl | rfl
  · exact w_c0
  · exact w_c1
  · exact w_c2
  · exact w_c3
  · exact w_c4
  · exact w_c5
  · exact w_c6
  · exact w_c7
  · exact w_c8
  · exact w_c9
set_option maxRecDepth 65536 in
theorem w_t1 : (words1.take 24).all (fun c => isCode c || c.before args0 about1) = true := by decide +kernel
set_option maxRecDepth 65536 in
theorem w_t2 : ((words1.drop 24).take 24).all (fun c => isCode c || c.before args0 about1) = true := by decide +kernel
set_option maxRecDepth 65536 in
theorem w_t3 : (((words1.drop 24).drop 24).take 24).all (fun c => isCode c || c.before args0 about1) = true := by decide +kernel
set_option maxRecDepth 65536 in
theorem w_t4 : (((words1.drop 24).drop 24).drop 24).all (fun c => isCode c || c.before args0 about1) = true := by decide +kernel
theorem w_tables : (allAtoms (Jvm.Cond.code x code maxLocals ret :: tables_1)).before args0 about1 = true := by
  rw [allAtoms_all]
  show words1.all (fun c => c.before args0 about1) = true
  refine all_split ?_ w_codes
  rw [← List.take_append_drop 24 words1, List.all_append, w_t1, ← List.take_append_drop 24 (words1.drop 24), List.all_append, w_t2, ← List.take_append_drop 24 ((words1.drop 24).drop 24), List.all_append, w_t3, w_t4]
  rfl
set_option maxRecDepth 65536 in
theorem w_rest : rest_1_c.before args0 about1 = true := by decide +kernel
set_option maxRecDepth 65536 in
theorem w_case : (Jvm.Cond.and given_1 narrow_1).before args0 about1 = true := by decide +kernel
theorem w_applies : (headSpec (Jvm.Cond.code x code maxLocals ret :: tables_1) room_1).applies x e0.platform about1 = true :=
  (Spec.applies_iff w_frames).mpr ⟨w_running, w_runnable, w_alone, w_named, w_hears, w_ripe, w_room, w_tables⟩
theorem atStart : AtStart classFile x code maxLocals ret World_1 tables_1 room_1 Calls_1 rest_1 Pre_1 launch0 p0 e0 about1 theMethod args0 below0 :=
  ⟨lists_1, trivial, launch0.admits_env _ _ _, launch0.least_env, fairChoices_fair.cas, fairChoices_fair.clock, w_frames, w_args, w_heap, w_applies, trivial, w_rest, w_case⟩
end start1
theorem witness_1 : WitnessClaimed_1 := ⟨start1.p0, start1.e0, start1.about1, start1.theMethod, start1.args0, start1.below0, start1.atStart⟩
end Jvm.Pilot.@@N@@
