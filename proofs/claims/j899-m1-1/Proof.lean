import JvmDerived
import JvmDerived.Pilot.@@N@@Statement
import JvmDerived.Pilot.@@N@@Code
set_option linter.unusedVariables false
set_option linter.unusedSimpArgs false

namespace Jvm.RoadKit
open Sem ClassFile Op Lib Jvm.Stand Jvm.Free Jvm.LawKit
section New
variable {p : Program} {l : Launch} {e : Env} {R : Room} {s : State} {m : MethodId} {args : Array Value} {below : List Frame} {meth : Method} {c : Code} {T : State} {locs : List Loc} {cells slots : Nat}
theorem retI (X : Stand p l e R s m args below meth c T locs cells slots) (hx : p.tables.exec = Jvm.exec) {pc : Nat} {Ls : Array Slot} {z : Int32} {rest : List Value} (hret : meth.sig.returnType = some .int) (hd : decode c.code pc = .ok (.ireturn, 1)) {fs : List Frame}
    (hl : ∀ (f : JFrame) (acts : List Action), f.method = m → f.locked = none → f.entered = [] → (doReturn e (T.setTop f) acts (some (.int z))).1 = T.setFrames fs) : Steps p.tables e below (T.setTop (mkF m pc Ls (.int z :: rest))) (T.setFrames fs) := by
  have hm' : T.vm.method? m = some meth := X.method'
  have hn : narrow .int (.int z) = .int z := rfl
  show Steps p.tables e below (T.setTop { method := m, pc := pc, locals := Ls, stack := _ :: rest, locked := none }) _
  jvm_step X.here [X.here.top, hx, hd, hm', hret, hn]
  first | (intro acts; rw [hl _ acts rfl rfl rfl]) | rw [hl _ _ rfl rfl rfl]
  exact Steps.refl _
end New
end Jvm.RoadKit
namespace Jvm.Pilot.@@N@@
open Jvm Jvm.ClassFile Sem Op Lib Jvm.Free Jvm.Stand Jvm.LawKit Jvm.RoadKit Bundle Jvm.Pilot.@@N@@.Jvm.D
abbrev own_Goes (tb : Tables) (e : Env) (below : List Frame) (A : State) (R : State → Outcome → Prop) : Prop := ∃ s₂ o, Steps tb e below A s₂ ∧ R s₂ o
theorem own_go {tb : Tables} {e : Env} {below : List Frame} {A B : State} {R : State → Outcome → Prop} (f : ∀ t, Steps tb e below B t → Steps tb e below A t) (h : own_Goes tb e below B R) : own_Goes tb e below A R := by
  obtain ⟨s₂, o, h1, h2⟩ := h
  exact ⟨s₂, o, f _ h1, h2⟩
theorem own_place {j : Int32} {c : Cell} (S : c.slots.size = (256 : Int32).toNatClampNeg) (h : ¬ j < 0 ∧ j < (256 : Int32)) : ¬ (j < 0 ∨ c.slots.size ≤ j.toNatClampNeg) := inb_of S h
theorem own_inL {q : Int64} (h1 : ¬ q < (-128 : Int64)) (h2 : ¬ (127 : Int64) < q) : ¬ (q.toInt32 + (128 : Int32)) < 0 ∧ (q.toInt32 + (128 : Int32)) < (256 : Int32) := by
  have a1 := c_l2i q
  have a2 := rng32 q.toInt32
  have a3 := c_iadd q.toInt32 (128 : Int32)
  have a4 := rng32 (q.toInt32 + (128 : Int32))
  simp only [Int64.lt_iff_toInt_lt, Int64.reduceToInt] at h1 h2
  simp only [Int32.lt_iff_toInt_lt, Int32.reduceToInt] at *
  omega
theorem d1_0 : decode prog_19_method_1_code 0 = .ok (.aload_n 0, 1) := by decide +kernel
theorem d1_1 : decode prog_19_method_1_code 1 = .ok (.invokespecial 1, 3) := by decide +kernel
theorem d1_4 : decode prog_19_method_1_code 4 = .ok (.aload_n 0, 1) := by decide +kernel
theorem d1_5 : decode prog_19_method_1_code 5 = .ok (.iload_n 1, 1) := by decide +kernel
theorem d1_6 : decode prog_19_method_1_code 6 = .ok (.putfield 7, 3) := by decide +kernel
theorem d1_9 : decode prog_19_method_1_code 9 = .ok (.aload_n 0, 1) := by decide +kernel
theorem d1_10 : decode prog_19_method_1_code 10 = .ok (.lload_n 2, 1) := by decide +kernel
theorem d1_11 : decode prog_19_method_1_code 11 = .ok (.putfield 13, 3) := by decide +kernel
theorem d1_14 : decode prog_19_method_1_code 14 = .ok (.return_, 1) := by decide +kernel
theorem pn_1 : plainName "com/example/usherd/usherd/Published" = true := by first | (simp [plainName, overriddenIn]; done) | decide +kernel
theorem ef_1 (m : MethodId) (x0 : Addr) (x1 : Int32) (x2 : Int64) : entryFrame m #[(.ref x0), (.int x1), (.long x2)] 4 = mkF m 0 #[.val (.ref x0), .val (.int x1), .val (.long x2), .second] [] := by first | (simp [entryFrame, mkF, argsToLocals, Value.category]; done) | rfl
def Q1 (Z : State) (a0 : Addr) (p1 : Int32) (q2 : Int64) (h0 : Heap) (n0 : Nat) (v : Option Value) (h : Heap) (L : List Loc) : Prop := v = none ∧ Fr n0 L ∧ Keep h0 h [a0] ∧ Fld Z h a0 "com/example/usherd/usherd/Published" "queue" "I" (.int p1) ∧ Fld Z h a0 "com/example/usherd/usherd/Published" "offset" "J" (.long q2)
set_option maxRecDepth 65536 in
set_option maxHeartbeats 40000000 in
theorem rm1 (l : Launch) (Z : State) (ta : Array Value) (hw : ∀ d ∈ tables_1, d.before ta Z = true) (ws : List Jvm.Cond) (a0 : Addr) (p1 : Int32) (q2 : Int64)  (h0 : Heap) (n0 : Nat) (Z0 : n0 ≤ h0.size) (E_a0 : Exa Z h0 a0 "com/example/usherd/usherd/Published") (F_queue : Fld Z h0 a0 "com/example/usherd/usherd/Published" "queue" "I" (.int (0 : Int32))) (F_offset : Fld Z h0 a0 "com/example/usherd/usherd/Published" "offset" "J" (.long (0 : Int64))) (g_a0 : n0 ≤ a0) :
    MetFree l (⟨"com/example/usherd/usherd/Published", "<init>", "(IJ)V"⟩ : MethodName) (head1 (Jvm.Cond.code (⟨"com/example/usherd/usherd/Published", "<init>", "(IJ)V"⟩ : MethodName) prog_19_method_1_code 4 none :: ws) ({ frames := 1, cells := 0, slots := 0, locals := 12 } : Room)) (fun a U => a = #[(.ref a0), (.int p1), (.long q2)] ∧ Z.Warmed39 U.vm ∧ U.heap = h0) (fun _ _ _ _ _ => True) (fun _ U o U' => ∃ v L, o = .returned v ∧ Q1 Z a0 p1 q2  h0 n0 v U'.heap L ∧ FrameEnd U o U' L ({ frames := 1, cells := 0, slots := 0, locals := 12 } : Room).cells ({ frames := 1, cells := 0, slots := 0, locals := 12 } : Room).slots) := by
  refine MetFree.of_bodySF (plainFor_of_name pn_1) hisR ?_
  intro p e s m args below meth c s₁ Bd hml0 hP hK
  obtain ⟨rfl, hZ, hh⟩ := hP
  have hx := Bd.exec
  have hby := Bd.bytes
  have hml : c.maxLocals = 4 := hml0
  have hown : s.vm.findClass "com/example/usherd/usherd/Published" = some m.cls := findClass_of_methodNamed Bd.named
  have hnm := (name_of_methodNamed Bd.named Bd.method).1
  have X0 : Stand p l e ({ frames := 1, cells := 0, slots := 0, locals := 12 } : Room) s m #[(.ref a0), (.int p1), (.long q2)] below meth c s₁ [] 0 0 := Stand.of_body Bd
  have e0 : s₁.heap = h0 := by rw [← hh, Bd.state]; rfl
  have N0 := Fr.nil n0
  refine own_go (B := (s₁.setTop (mkF m 0 #[.val (.ref a0), .val (.int p1), .val (.long q2), .second] []))) (fun t k => castTop (ef_1 m a0 p1 q2) k) ?_
  refine own_go (B := (s₁.setTop (mkF m 1 #[.val (.ref a0), .val (.int p1), .val (.long q2), .second] [(.ref a0)]))) (fun t k => XS.aloadN X0.here hx rfl (hb hby d1_0) rfl rfl k) ?_
  obtain ⟨T1, X1, e1, st1⟩ := initO X0 hx hZ hown (hw _ (List.mem_of_getElem? (i := 6) rfl)) (hw _ (List.mem_of_getElem? (i := 7) rfl)) (hw _ (List.mem_of_getElem? (i := 8) rfl)) e0 (g := (mkF m 1 #[.val (.ref a0), .val (.int p1), .val (.long q2), .second] [(.ref a0)])) rfl (by rw [hml]; rfl) rfl (hb hby d1_1) (by decide) (W := 0) (by show 2 * 0 + _ ≤ _; exact Nat.le_of_eq rfl) (by decide)
  refine own_go (B := (T1.setTop (mkF m 4 #[.val (.ref a0), .val (.int p1), .val (.long q2), .second] []))) (fun t k => st1 _ k) ?_
  refine own_go (B := (T1.setTop (mkF m 5 #[.val (.ref a0), .val (.int p1), .val (.long q2), .second] [(.ref a0)]))) (fun t k => XS.aloadN X1.here hx rfl (hb hby d1_4) rfl rfl k) ?_
  refine own_go (B := (T1.setTop (mkF m 6 #[.val (.ref a0), .val (.int p1), .val (.long q2), .second] [(.int p1), (.ref a0)]))) (fun t k => XS.iloadN X1.here hx rfl (hb hby d1_5) rfl k) ?_
  obtain ⟨T2, h2, X2, e2, W2, st2⟩ := putF X1 hx hZ hown (host := "") (Or.inl (hw _ (List.mem_of_getElem? (i := 9) rfl))) Via.refl e1 F_queue E_a0 (Or.inr ⟨(hw _ (List.mem_of_getElem? (i := 10) rfl)), rfl, hnm⟩) (hw _ (List.mem_of_getElem? (i := 1) rfl)) (ty := .int) (by decide) rfl rfl (g := (mkF m 6 #[.val (.ref a0), .val (.int p1), .val (.long q2), .second] [(.int p1), (.ref a0)])) rfl rfl (hb hby d1_6)
  have E_a0_2 := E_a0.wr W2
  have F_a0_queue_2 := F_queue.same W2
  have F_a0_offset_2 := F_offset.other W2 (Or.inr (slot_ne (Or.inr (hw _ (List.mem_of_getElem? (i := 12) rfl))) (Or.inr (hw _ (List.mem_of_getElem? (i := 10) rfl))) (by decide) (t := .long) (t' := .int) (by decide) (by decide)))
  have K2 : Keep h0 h2 [a0] := (Keep.refl h0 [a0]).wr W2 (Or.inl (by simp))
  have Zs2 : n0 ≤ h2.size := Nat.le_trans Z0 (Keep.of_wr W2).1
  have N2 := Fr.snoc X2 N0 g_a0
  refine own_go (B := (T2.setTop (mkF m 9 #[.val (.ref a0), .val (.int p1), .val (.long q2), .second] []))) (fun t k => st2 _ k) ?_
  refine own_go (B := (T2.setTop (mkF m 10 #[.val (.ref a0), .val (.int p1), .val (.long q2), .second] [(.ref a0)]))) (fun t k => XS.aloadN X2.here hx rfl (hb hby d1_9) rfl rfl k) ?_
  refine own_go (B := (T2.setTop (mkF m 11 #[.val (.ref a0), .val (.int p1), .val (.long q2), .second] [(.long q2), (.ref a0)]))) (fun t k => XS.lloadN X2.here hx rfl (hb hby d1_10) rfl k) ?_
  obtain ⟨T3, h3, X3, e3, W3, st3⟩ := putF X2 hx hZ hown (host := "") (Or.inl (hw _ (List.mem_of_getElem? (i := 11) rfl))) Via.refl e2 F_a0_offset_2 E_a0_2 (Or.inr ⟨(hw _ (List.mem_of_getElem? (i := 12) rfl)), rfl, hnm⟩) (hw _ (List.mem_of_getElem? (i := 1) rfl)) (ty := .long) (by decide) rfl rfl (g := (mkF m 11 #[.val (.ref a0), .val (.int p1), .val (.long q2), .second] [(.long q2), (.ref a0)])) rfl rfl (hb hby d1_11)
  have E_a0_3 := E_a0_2.wr W3
  have F_a0_queue_3 := F_a0_queue_2.other W3 (Or.inr (slot_ne (Or.inr (hw _ (List.mem_of_getElem? (i := 10) rfl))) (Or.inr (hw _ (List.mem_of_getElem? (i := 12) rfl))) (by decide) (t := .int) (t' := .long) (by decide) (by decide)))
  have F_a0_offset_3 := F_a0_offset_2.same W3
  have K3 : Keep h0 h3 [a0] := K2.wr W3 (Or.inl (by simp))
  have Zs3 : n0 ≤ h3.size := Nat.le_trans Zs2 (Keep.of_wr W3).1
  have N3 := Fr.snoc X3 N2 g_a0
  refine own_go (B := (T3.setTop (mkF m 14 #[.val (.ref a0), .val (.int p1), .val (.long q2), .second] []))) (fun t k => st3 _ k) ?_
  obtain ⟨fs, hr, hrun, hended, hW, hsame⟩ := X3.leave (v := none) (fun _ => rfl)
  exact ⟨_, _, X3.returnOut hx Bd.returns (hb hby d1_14) hr, hrun, hended, _, _, rfl, (by show Q1 Z a0 p1 q2 h0 n0 _ T3.heap _; rw [e3]; exact ⟨rfl, N3, K3, F_a0_queue_3, F_a0_offset_3⟩), ⟨_, rfl⟩, hW, hsame.mono (by decide) (by decide)⟩
theorem d6_0 : decode jdk_18_method_1_code 0 = .ok (.aload_n 0, 1) := by decide +kernel
theorem d6_1 : decode jdk_18_method_1_code 1 = .ok (.invokespecial 1, 3) := by decide +kernel
theorem d6_4 : decode jdk_18_method_1_code 4 = .ok (.return_, 1) := by decide +kernel
theorem pn_6 : plainName "java/lang/Number" = true := by first | (simp [plainName, overriddenIn]; done) | decide +kernel
theorem ef_6 (m : MethodId) (x0 : Addr) : entryFrame m #[(.ref x0)] 1 = mkF m 0 #[.val (.ref x0)] [] := by first | (simp [entryFrame, mkF, argsToLocals, Value.category]; done) | rfl
def Q6 (Z : State) (a0 : Addr)  (h0 : Heap) (n0 : Nat) (v : Option Value) (h : Heap) (L : List Loc) : Prop := v = none ∧ Fr n0 L ∧ h = h0
set_option maxRecDepth 65536 in
set_option maxHeartbeats 40000000 in
theorem rm6 (l : Launch) (Z : State) (ta : Array Value) (hw : ∀ d ∈ tables_1, d.before ta Z = true) (ws : List Jvm.Cond) (a0 : Addr)  (h0 : Heap) (n0 : Nat)  :
    MetFree l (⟨"java/lang/Number", "<init>", "()V"⟩ : MethodName) (head1 (Jvm.Cond.code (⟨"java/lang/Number", "<init>", "()V"⟩ : MethodName) jdk_18_method_1_code 1 none :: ws) ({ frames := 1, cells := 0, slots := 0, locals := 12 } : Room)) (fun a U => a = #[(.ref a0)] ∧ Z.Warmed39 U.vm ∧ U.heap = h0) (fun _ _ _ _ _ => True) (fun _ U o U' => ∃ v L, o = .returned v ∧ Q6 Z a0  h0 n0 v U'.heap L ∧ FrameEnd U o U' L ({ frames := 1, cells := 0, slots := 0, locals := 12 } : Room).cells ({ frames := 1, cells := 0, slots := 0, locals := 12 } : Room).slots) := by
  refine MetFree.of_bodySF (plainFor_of_name pn_6) hisR ?_
  intro p e s m args below meth c s₁ Bd hml0 hP hK
  obtain ⟨rfl, hZ, hh⟩ := hP
  have hx := Bd.exec
  have hby := Bd.bytes
  have hml : c.maxLocals = 1 := hml0
  have hown : s.vm.findClass "java/lang/Number" = some m.cls := findClass_of_methodNamed Bd.named
  have hnm := (name_of_methodNamed Bd.named Bd.method).1
  have X0 : Stand p l e ({ frames := 1, cells := 0, slots := 0, locals := 12 } : Room) s m #[(.ref a0)] below meth c s₁ [] 0 0 := Stand.of_body Bd
  have e0 : s₁.heap = h0 := by rw [← hh, Bd.state]; rfl
  have N0 := Fr.nil n0
  refine own_go (B := (s₁.setTop (mkF m 0 #[.val (.ref a0)] []))) (fun t k => castTop (ef_6 m a0) k) ?_
  refine own_go (B := (s₁.setTop (mkF m 1 #[.val (.ref a0)] [(.ref a0)]))) (fun t k => XS.aloadN X0.here hx rfl (hb hby d6_0) rfl rfl k) ?_
  obtain ⟨T1, X1, e1, st1⟩ := initO X0 hx hZ hown (hw _ (List.mem_of_getElem? (i := 43) rfl)) (hw _ (List.mem_of_getElem? (i := 7) rfl)) (hw _ (List.mem_of_getElem? (i := 8) rfl)) e0 (g := (mkF m 1 #[.val (.ref a0)] [(.ref a0)])) rfl (by rw [hml]; rfl) rfl (hb hby d6_1) (by decide) (W := 0) (by show 2 * 0 + _ ≤ _; exact Nat.le_of_eq rfl) (by decide)
  refine own_go (B := (T1.setTop (mkF m 4 #[.val (.ref a0)] []))) (fun t k => st1 _ k) ?_
  obtain ⟨fs, hr, hrun, hended, hW, hsame⟩ := X1.leave (v := none) (fun _ => rfl)
  exact ⟨_, _, X1.returnOut hx Bd.returns (hb hby d6_4) hr, hrun, hended, _, _, rfl, ⟨rfl, N0, e1⟩, ⟨_, rfl⟩, hW, hsame.mono (by decide) (by decide)⟩
theorem d5_0 : decode jdk_35_method_26_code 0 = .ok (.aload_n 0, 1) := by decide +kernel
theorem d5_1 : decode jdk_35_method_26_code 1 = .ok (.invokespecial 270, 3) := by decide +kernel
theorem d5_4 : decode jdk_35_method_26_code 4 = .ok (.aload_n 0, 1) := by decide +kernel
theorem d5_5 : decode jdk_35_method_26_code 5 = .ok (.lload_n 1, 1) := by decide +kernel
theorem d5_6 : decode jdk_35_method_26_code 6 = .ok (.putfield 273, 3) := by decide +kernel
theorem d5_9 : decode jdk_35_method_26_code 9 = .ok (.return_, 1) := by decide +kernel
theorem pn_5 : plainName "java/lang/Long" = true := by first | (simp [plainName, overriddenIn]; done) | decide +kernel
theorem pd_5_0 : parseMethodDescriptor "()V" = some ⟨[], none⟩ := by decide +kernel
theorem ef_5 (m : MethodId) (x0 : Addr) (x1 : Int64) : entryFrame m #[(.ref x0), (.long x1)] 3 = mkF m 0 #[.val (.ref x0), .val (.long x1), .second] [] := by first | (simp [entryFrame, mkF, argsToLocals, Value.category]; done) | rfl
def Q5 (Z : State) (a0 : Addr) (q1 : Int64) (h0 : Heap) (n0 : Nat) (v : Option Value) (h : Heap) (L : List Loc) : Prop := v = none ∧ Fr n0 L ∧ Keep h0 h [a0] ∧ Fld Z h a0 "java/lang/Long" "value" "J" (.long q1)
set_option maxRecDepth 65536 in
set_option maxHeartbeats 40000000 in
theorem rm5 (l : Launch) (Z : State) (ta : Array Value) (hw : ∀ d ∈ tables_1, d.before ta Z = true) (ws : List Jvm.Cond) (a0 : Addr) (q1 : Int64)  (h0 : Heap) (n0 : Nat) (Z0 : n0 ≤ h0.size) (E_a0 : Exa Z h0 a0 "java/lang/Long") (F_value : Fld Z h0 a0 "java/lang/Long" "value" "J" (.long (0 : Int64))) (g_a0 : n0 ≤ a0) :
    MetFree l (⟨"java/lang/Long", "<init>", "(J)V"⟩ : MethodName) (head1 (Jvm.Cond.code (⟨"java/lang/Long", "<init>", "(J)V"⟩ : MethodName) jdk_35_method_26_code 3 none :: ws) ({ frames := 2, cells := 0, slots := 0, locals := 24 } : Room)) (fun a U => a = #[(.ref a0), (.long q1)] ∧ Z.Warmed39 U.vm ∧ U.heap = h0) (fun _ _ _ _ _ => True) (fun _ U o U' => ∃ v L, o = .returned v ∧ Q5 Z a0 q1  h0 n0 v U'.heap L ∧ FrameEnd U o U' L ({ frames := 2, cells := 0, slots := 0, locals := 24 } : Room).cells ({ frames := 2, cells := 0, slots := 0, locals := 24 } : Room).slots) := by
  refine MetFree.of_bodySF (plainFor_of_name pn_5) hisR ?_
  intro p e s m args below meth c s₁ Bd hml0 hP hK
  obtain ⟨rfl, hZ, hh⟩ := hP
  have hx := Bd.exec
  have hby := Bd.bytes
  have hml : c.maxLocals = 3 := hml0
  have hown : s.vm.findClass "java/lang/Long" = some m.cls := findClass_of_methodNamed Bd.named
  have hnm := (name_of_methodNamed Bd.named Bd.method).1
  have X0 : Stand p l e ({ frames := 2, cells := 0, slots := 0, locals := 24 } : Room) s m #[(.ref a0), (.long q1)] below meth c s₁ [] 0 0 := Stand.of_body Bd
  have e0 : s₁.heap = h0 := by rw [← hh, Bd.state]; rfl
  have N0 := Fr.nil n0
  refine own_go (B := (s₁.setTop (mkF m 0 #[.val (.ref a0), .val (.long q1), .second] []))) (fun t k => castTop (ef_5 m a0 q1) k) ?_
  refine own_go (B := (s₁.setTop (mkF m 1 #[.val (.ref a0), .val (.long q1), .second] [(.ref a0)]))) (fun t k => XS.aloadN X0.here hx rfl (hb hby d5_0) rfl rfl k) ?_
  obtain ⟨_, _, ⟨T1, L1, k1, n1⟩, -, X1, ⟨Lc1, hQ1, l1, y1, z1⟩, st1⟩ := X0.specialBack hx (y := (⟨"java/lang/Number", "<init>", "()V"⟩ : MethodName)) rfl hown (mvT hZ (hw _ (List.mem_of_getElem? (i := 37) rfl))) (mvT hZ (hw _ (List.mem_of_getElem? (i := 38) rfl))) (mvT hZ (hw _ (List.mem_of_getElem? (i := 42) rfl))) (by decide) (backOf (W := 0) (rm6 l Z ta hw [] a0  h0 n0 ) hZ (hw _ (List.mem_of_getElem? (i := 42) rfl)) (hw _ (List.mem_of_getElem? (i := 41) rfl)) (by decide) (by decide)) (g := (mkF m 1 #[.val (.ref a0), .val (.long q1), .second] [(.ref a0)])) rfl (by rw [hml]; rfl) (Steps.refl _) (a := a0) (argsL := []) (rest := []) (lenOf pd_5_0 rfl) rfl (by show 2 * 0 + _ ≤ _; exact Nat.le_of_eq rfl) (hb hby d5_1) (fun _ _ => ⟨rfl, e0, (by decide : 0 + 0 ≤ _), (by decide : 0 + 0 ≤ _)⟩)
  dsimp only [Pt.U, Pt.locs, Pt.cells, Pt.slots] at X1 l1 y1 z1 st1 hQ1
  subst l1 y1 z1
  obtain ⟨rfl, N1q, e1⟩ := hQ1
  replace e1 := e1
  have N1 := Fr.app N0 N1q
  refine own_go (B := (T1.setTop (mkF m 4 #[.val (.ref a0), .val (.long q1), .second] []))) (fun t k => st1.trans k) ?_
  refine own_go (B := (T1.setTop (mkF m 5 #[.val (.ref a0), .val (.long q1), .second] [(.ref a0)]))) (fun t k => XS.aloadN X1.here hx rfl (hb hby d5_4) rfl rfl k) ?_
  refine own_go (B := (T1.setTop (mkF m 6 #[.val (.ref a0), .val (.long q1), .second] [(.long q1), (.ref a0)]))) (fun t k => XS.lloadN X1.here hx rfl (hb hby d5_5) rfl k) ?_
  obtain ⟨T2, h2, X2, e2, W2, st2⟩ := putF X1 hx hZ hown (host := "") (Or.inl (hw _ (List.mem_of_getElem? (i := 44) rfl))) Via.refl e1 F_value E_a0 (Or.inr ⟨(hw _ (List.mem_of_getElem? (i := 45) rfl)), rfl, hnm⟩) (hw _ (List.mem_of_getElem? (i := 32) rfl)) (ty := .long) (by decide) rfl rfl (g := (mkF m 6 #[.val (.ref a0), .val (.long q1), .second] [(.long q1), (.ref a0)])) rfl rfl (hb hby d5_6)
  have E_a0_2 := E_a0.wr W2
  have F_a0_value_2 := F_value.same W2
  have K2 : Keep h0 h2 [a0] := (Keep.refl h0 [a0]).wr W2 (Or.inl (by simp))
  have Zs2 : n0 ≤ h2.size := Nat.le_trans Z0 (Keep.of_wr W2).1
  have N2 := Fr.snoc X2 N1 g_a0
  refine own_go (B := (T2.setTop (mkF m 9 #[.val (.ref a0), .val (.long q1), .second] []))) (fun t k => st2 _ k) ?_
  obtain ⟨fs, hr, hrun, hended, hW, hsame⟩ := X2.leave (v := none) (fun _ => rfl)
  exact ⟨_, _, X2.returnOut hx Bd.returns (hb hby d5_9) hr, hrun, hended, _, _, rfl, (by show Q5 Z a0 q1 h0 n0 _ T2.heap _; rw [e2]; exact ⟨rfl, N2, K2, F_a0_value_2⟩), ⟨_, rfl⟩, hW, hsame.mono (by decide) (by decide)⟩
theorem d4_0 : decode jdk_35_method_24_code 0 = .ok (.sipush 128, 3) := by decide +kernel
theorem d4_3 : decode jdk_35_method_24_code 3 = .ok (.istore_n 2, 1) := by decide +kernel
theorem d4_4 : decode jdk_35_method_24_code 4 = .ok (.lload_n 0, 1) := by decide +kernel
theorem d4_5 : decode jdk_35_method_24_code 5 = .ok (.ldc2_w 230, 3) := by decide +kernel
theorem d4_8 : decode jdk_35_method_24_code 8 = .ok (.lcmp, 1) := by decide +kernel
theorem d4_9 : decode jdk_35_method_24_code 9 = .ok (.ifCond .lt 22, 3) := by decide +kernel
theorem d4_12 : decode jdk_35_method_24_code 12 = .ok (.lload_n 0, 1) := by decide +kernel
theorem d4_13 : decode jdk_35_method_24_code 13 = .ok (.ldc2_w 232, 3) := by decide +kernel
theorem d4_16 : decode jdk_35_method_24_code 16 = .ok (.lcmp, 1) := by decide +kernel
theorem d4_17 : decode jdk_35_method_24_code 17 = .ok (.ifCond .gt 14, 3) := by decide +kernel
theorem d4_20 : decode jdk_35_method_24_code 20 = .ok (.getstatic 234, 3) := by decide +kernel
theorem d4_23 : decode jdk_35_method_24_code 23 = .ok (.lload_n 0, 1) := by decide +kernel
theorem d4_24 : decode jdk_35_method_24_code 24 = .ok (.l2i, 1) := by decide +kernel
theorem d4_25 : decode jdk_35_method_24_code 25 = .ok (.sipush 128, 3) := by decide +kernel
theorem d4_28 : decode jdk_35_method_24_code 28 = .ok (.iadd, 1) := by decide +kernel
theorem d4_29 : decode jdk_35_method_24_code 29 = .ok (.aaload, 1) := by decide +kernel
theorem d4_30 : decode jdk_35_method_24_code 30 = .ok (.areturn, 1) := by decide +kernel
theorem d4_31 : decode jdk_35_method_24_code 31 = .ok (.new 1, 3) := by decide +kernel
theorem d4_34 : decode jdk_35_method_24_code 34 = .ok (.dup, 1) := by decide +kernel
theorem d4_35 : decode jdk_35_method_24_code 35 = .ok (.lload_n 0, 1) := by decide +kernel
theorem d4_36 : decode jdk_35_method_24_code 36 = .ok (.invokespecial 240, 3) := by decide +kernel
theorem d4_39 : decode jdk_35_method_24_code 39 = .ok (.areturn, 1) := by decide +kernel
theorem pn_4 : plainName "java/lang/Long" = true := by first | (simp [plainName, overriddenIn]; done) | decide +kernel
theorem pd_4_0 : parseMethodDescriptor "(J)V" = some ⟨[.long], none⟩ := by decide +kernel
theorem ef_4 (m : MethodId) (x0 : Int64) : entryFrame m #[(.long x0)] 3 = mkF m 0 #[.val (.long x0), .second, .unset] [] := by first | (simp [entryFrame, mkF, argsToLocals, Value.category]; done) | rfl
def Q4 (Z : State) (q0 : Int64) (h0 : Heap) (n0 : Nat) (v : Option Value) (h : Heap) (L : List Loc) : Prop := ∃ r : Addr, v = some (.ref r) ∧ Fr n0 L ∧ Keep h0 h [] ∧ Exa Z h r "java/lang/Long"
set_option maxRecDepth 65536 in
set_option maxHeartbeats 40000000 in
theorem rm4 (l : Launch) (Z : State) (ta : Array Value) (hw : ∀ d ∈ tables_1, d.before ta Z = true) (ws : List Jvm.Cond) (q0 : Int64) (ca : Addr) (cc : Cell) (vf : Int32 → Value) (h0 : Heap) (n0 : Nat) (Z0 : n0 ≤ h0.size) (O0 : Old Z n0 h0) (Sc : Sta Z Z.heap "java/lang/Long$LongCache" "cache" "[Ljava/lang/Long;" (.ref ca)) (Bx : Bxs Z ca cc "java/lang/Long" "J" (256 : Int32) vf) :
    MetFree l (⟨"java/lang/Long", "valueOf", "(J)Ljava/lang/Long;"⟩ : MethodName) (head1 (Jvm.Cond.code (⟨"java/lang/Long", "valueOf", "(J)Ljava/lang/Long;"⟩ : MethodName) jdk_35_method_24_code 3 (some (.object "java/lang/Long")) :: ws) ({ frames := 3, cells := 1, slots := 1, locals := 39 } : Room)) (fun a U => a = #[(.long q0)] ∧ Z.Warmed39 U.vm ∧ U.heap = h0) (fun _ _ _ _ _ => True) (fun _ U o U' => ∃ v L, o = .returned v ∧ Q4 Z q0 h0 n0 v U'.heap L ∧ FrameEnd U o U' L ({ frames := 3, cells := 1, slots := 1, locals := 39 } : Room).cells ({ frames := 3, cells := 1, slots := 1, locals := 39 } : Room).slots) := by
  refine MetFree.of_bodySF (plainFor_of_name pn_4) hisR ?_
  intro p e s m args below meth c s₁ Bd hml0 hP hK
  obtain ⟨rfl, hZ, hh⟩ := hP
  have hx := Bd.exec
  have hby := Bd.bytes
  have hml : c.maxLocals = 3 := hml0
  have hown : s.vm.findClass "java/lang/Long" = some m.cls := findClass_of_methodNamed Bd.named
  have hnm := (name_of_methodNamed Bd.named Bd.method).1
  have X0 : Stand p l e ({ frames := 3, cells := 1, slots := 1, locals := 39 } : Room) s m #[(.long q0)] below meth c s₁ [] 0 0 := Stand.of_body Bd
  have e0 : s₁.heap = h0 := by rw [← hh, Bd.state]; rfl
  have N0 := Fr.nil n0
  refine own_go (B := (s₁.setTop (mkF m 0 #[.val (.long q0), .second, .unset] []))) (fun t k => castTop (ef_4 m q0) k) ?_
  refine own_go (B := (s₁.setTop (mkF m 3 #[.val (.long q0), .second, .unset] [(.int (128 : Int32))]))) (fun t k => XS.sipush X0.here hx rfl (hb hby d4_0) k) ?_
  refine own_go (B := (s₁.setTop (mkF m 4 #[.val (.long q0), .second, .val (.int (128 : Int32))] []))) (fun t k => XS.istoreN X0.here hx rfl (hb hby d4_3) rfl (l' := #[.val (.long q0), .second, .val (.int (128 : Int32))]) rfl k) ?_
  refine own_go (B := (s₁.setTop (mkF m 5 #[.val (.long q0), .second, .val (.int (128 : Int32))] [(.long q0)]))) (fun t k => XS.lloadN X0.here hx rfl (hb hby d4_4) rfl k) ?_
  refine own_go (B := (s₁.setTop (mkF m 8 #[.val (.long q0), .second, .val (.int (128 : Int32))] [(.long (-128 : Int64)), (.long q0)]))) (fun t k => X0.ldc2Long hx hown (mvT hZ (hw _ (List.mem_of_getElem? (i := 24) rfl))) (g := (mkF m 5 #[.val (.long q0), .second, .val (.int (128 : Int32))] [(.long q0)])) rfl (hb hby d4_5) _ k) ?_
  refine own_go (B := (s₁.setTop (mkF m 9 #[.val (.long q0), .second, .val (.int (128 : Int32))] [(.int (lcmpW q0 (-128 : Int64)))]))) (fun t k => XS.lcmp X0.here hx rfl (hb hby d4_8) rfl k) ?_
  by_cases hc9 : q0 < (-128 : Int64)
  · refine own_go (B := (s₁.setTop (mkF m 31 #[.val (.long q0), .second, .val (.int (128 : Int32))] []))) (fun t k => XS.ifYes X0.here hx rfl (pc0 := 9) (pc' := 31) rfl (hb hby d4_9) rfl ((if0 _ _).trans (tlt ((lw_lt _ _).mpr hc9)).1) (by decide) (by decide) k) ?_
    obtain ⟨T1, h1, X1, e1, E1, A1, D1, -, st1⟩ := newO X0 hx hZ hown (hw _ (List.mem_of_getElem? (i := 31) rfl)) (hw _ (List.mem_of_getElem? (i := 32) rfl)) (hw _ (List.mem_of_getElem? (i := 22) rfl)) e0 (g := (mkF m 31 #[.val (.long q0), .second, .val (.int (128 : Int32))] [])) rfl (hb hby d4_31) (by decide) (by decide)
    obtain ⟨b1, g1⟩ : ∃ z, z = h0.size := ⟨_, rfl⟩
    rw [← g1] at A1 D1 st1
    have g_b1 : n0 ≤ b1 := Nat.le_trans Z0 (Nat.le_of_eq g1.symm)
    have sz_b1 : h0.size ≤ b1 := Nat.le_trans (Keep.refl h0 []).1 (Nat.le_of_eq g1.symm)
    have K1 : Keep h0 h1 [] := (Keep.refl h0 []).ext E1
    have Zs1 : n0 ≤ h1.size := Nat.le_trans Z0 E1.1
    have O1 := O0.ext E1
    have F_value_b1 : Fld Z h1 b1 "java/lang/Long" "value" "J" (.long (0 : Int64)) := D1 (Or.inr (hw _ (List.mem_of_getElem? (i := 45) rfl))) (ty := .long) (by decide)
    refine own_go (B := (T1.setTop (mkF m 34 #[.val (.long q0), .second, .val (.int (128 : Int32))] [(.ref b1)]))) (fun t k => st1 _ k) ?_
    refine own_go (B := (T1.setTop (mkF m 35 #[.val (.long q0), .second, .val (.int (128 : Int32))] [(.ref b1), (.ref b1)]))) (fun t k => XS.dup X1.here hx rfl (hb hby d4_34) rfl rfl k) ?_
    refine own_go (B := (T1.setTop (mkF m 36 #[.val (.long q0), .second, .val (.int (128 : Int32))] [(.long q0), (.ref b1), (.ref b1)]))) (fun t k => XS.lloadN X1.here hx rfl (hb hby d4_35) rfl k) ?_
    obtain ⟨_, _, ⟨T2, L2, k2, n2⟩, -, X2, ⟨Lc2, hQ2, l2, y2, z2⟩, st2⟩ := X1.specialBack hx (y := (⟨"java/lang/Long", "<init>", "(J)V"⟩ : MethodName)) rfl hown (mvT hZ (hw _ (List.mem_of_getElem? (i := 33) rfl))) (mvT hZ (hw _ (List.mem_of_getElem? (i := 34) rfl))) (mvT hZ (hw _ (List.mem_of_getElem? (i := 36) rfl))) (by decide) (backOf (W := 1) (rm5 l Z ta hw [] b1 q0  h1 n0 Zs1 A1 F_value_b1 g_b1) hZ (hw _ (List.mem_of_getElem? (i := 36) rfl)) (hw _ (List.mem_of_getElem? (i := 22) rfl)) (by decide) (by decide)) (g := (mkF m 36 #[.val (.long q0), .second, .val (.int (128 : Int32))] [(.long q0), (.ref b1), (.ref b1)])) rfl (by rw [hml]; rfl) (Steps.refl _) (a := b1) (argsL := [(.long q0)]) (rest := [(.ref b1)]) (lenOf pd_4_0 rfl) rfl (by show 2 * 0 + _ ≤ _; exact Nat.le_of_eq rfl) (hb hby d4_36) (fun _ _ => ⟨rfl, e1, (by decide : (0 + 1) + 0 ≤ _), (by decide : (0 + 1) + 0 ≤ _)⟩)
    dsimp only [Pt.U, Pt.locs, Pt.cells, Pt.slots] at X2 l2 y2 z2 st2 hQ2
    subst l2 y2 z2
    obtain ⟨rfl, N2q, K2, Fq2_0⟩ := hQ2
    have E_b1_2 := A1.keep K2
    have Zs2 : n0 ≤ T2.heap.size := Nat.le_trans Zs1 K2.1
    have O2 := O1.keep K2 (allS g_b1 all0)
    have Kk2 : Keep h0 T2.heap [] := K1.trans K2 (allS (Or.inr sz_b1) all0)
    have N2 := Fr.app N0 N2q
    refine own_go (B := (T2.setTop (mkF m 39 #[.val (.long q0), .second, .val (.int (128 : Int32))] [(.ref b1)]))) (fun t k => st2.trans k) ?_
    obtain ⟨fs, hr, hrun, hended, hW, hsame⟩ := X2.leave (v := some (.ref b1)) (fun h => by rw [Bd.returns] at h; cases h)
    exact ⟨_, _, X2.areturnOut hx rfl Bd.returns rfl (hb hby d4_39) hr, hrun, hended, _, _, rfl, (by show Q4 Z q0 h0 n0 _ T2.heap _; exact ⟨b1, rfl, N2, Kk2, E_b1_2⟩), ⟨_, rfl⟩, hW, hsame.mono (by decide) (by decide)⟩
  · refine own_go (B := (s₁.setTop (mkF m 12 #[.val (.long q0), .second, .val (.int (128 : Int32))] []))) (fun t k => XS.ifNo X0.here hx rfl (hb hby d4_9) rfl ((if0 _ _).trans (flt (fun z => hc9 ((lw_lt _ _).mp z))).1) k) ?_
    refine own_go (B := (s₁.setTop (mkF m 13 #[.val (.long q0), .second, .val (.int (128 : Int32))] [(.long q0)]))) (fun t k => XS.lloadN X0.here hx rfl (hb hby d4_12) rfl k) ?_
    refine own_go (B := (s₁.setTop (mkF m 16 #[.val (.long q0), .second, .val (.int (128 : Int32))] [(.long (127 : Int64)), (.long q0)]))) (fun t k => X0.ldc2Long hx hown (mvT hZ (hw _ (List.mem_of_getElem? (i := 25) rfl))) (g := (mkF m 13 #[.val (.long q0), .second, .val (.int (128 : Int32))] [(.long q0)])) rfl (hb hby d4_13) _ k) ?_
    refine own_go (B := (s₁.setTop (mkF m 17 #[.val (.long q0), .second, .val (.int (128 : Int32))] [(.int (lcmpW q0 (127 : Int64)))]))) (fun t k => XS.lcmp X0.here hx rfl (hb hby d4_16) rfl k) ?_
    by_cases hc17 : (127 : Int64) < q0
    · refine own_go (B := (s₁.setTop (mkF m 31 #[.val (.long q0), .second, .val (.int (128 : Int32))] []))) (fun t k => XS.ifYes X0.here hx rfl (pc0 := 17) (pc' := 31) rfl (hb hby d4_17) rfl ((if0 _ _).trans (tlt ((lw_gt _ _).mpr hc17)).2.2.1) (by decide) (by decide) k) ?_
      obtain ⟨T3, h3, X3, e3, E3, A3, D3, -, st3⟩ := newO X0 hx hZ hown (hw _ (List.mem_of_getElem? (i := 31) rfl)) (hw _ (List.mem_of_getElem? (i := 32) rfl)) (hw _ (List.mem_of_getElem? (i := 22) rfl)) e0 (g := (mkF m 31 #[.val (.long q0), .second, .val (.int (128 : Int32))] [])) rfl (hb hby d4_31) (by decide) (by decide)
      obtain ⟨b3, g3⟩ : ∃ z, z = h0.size := ⟨_, rfl⟩
      rw [← g3] at A3 D3 st3
      have g_b3 : n0 ≤ b3 := Nat.le_trans Z0 (Nat.le_of_eq g3.symm)
      have sz_b3 : h0.size ≤ b3 := Nat.le_trans (Keep.refl h0 []).1 (Nat.le_of_eq g3.symm)
      have K3 : Keep h0 h3 [] := (Keep.refl h0 []).ext E3
      have Zs3 : n0 ≤ h3.size := Nat.le_trans Z0 E3.1
      have O3 := O0.ext E3
      have F_value_b3 : Fld Z h3 b3 "java/lang/Long" "value" "J" (.long (0 : Int64)) := D3 (Or.inr (hw _ (List.mem_of_getElem? (i := 45) rfl))) (ty := .long) (by decide)
      refine own_go (B := (T3.setTop (mkF m 34 #[.val (.long q0), .second, .val (.int (128 : Int32))] [(.ref b3)]))) (fun t k => st3 _ k) ?_
      refine own_go (B := (T3.setTop (mkF m 35 #[.val (.long q0), .second, .val (.int (128 : Int32))] [(.ref b3), (.ref b3)]))) (fun t k => XS.dup X3.here hx rfl (hb hby d4_34) rfl rfl k) ?_
      refine own_go (B := (T3.setTop (mkF m 36 #[.val (.long q0), .second, .val (.int (128 : Int32))] [(.long q0), (.ref b3), (.ref b3)]))) (fun t k => XS.lloadN X3.here hx rfl (hb hby d4_35) rfl k) ?_
      obtain ⟨_, _, ⟨T4, L4, k4, n4⟩, -, X4, ⟨Lc4, hQ4, l4, y4, z4⟩, st4⟩ := X3.specialBack hx (y := (⟨"java/lang/Long", "<init>", "(J)V"⟩ : MethodName)) rfl hown (mvT hZ (hw _ (List.mem_of_getElem? (i := 33) rfl))) (mvT hZ (hw _ (List.mem_of_getElem? (i := 34) rfl))) (mvT hZ (hw _ (List.mem_of_getElem? (i := 36) rfl))) (by decide) (backOf (W := 1) (rm5 l Z ta hw [] b3 q0  h3 n0 Zs3 A3 F_value_b3 g_b3) hZ (hw _ (List.mem_of_getElem? (i := 36) rfl)) (hw _ (List.mem_of_getElem? (i := 22) rfl)) (by decide) (by decide)) (g := (mkF m 36 #[.val (.long q0), .second, .val (.int (128 : Int32))] [(.long q0), (.ref b3), (.ref b3)])) rfl (by rw [hml]; rfl) (Steps.refl _) (a := b3) (argsL := [(.long q0)]) (rest := [(.ref b3)]) (lenOf pd_4_0 rfl) rfl (by show 2 * 0 + _ ≤ _; exact Nat.le_of_eq rfl) (hb hby d4_36) (fun _ _ => ⟨rfl, e3, (by decide : (0 + 1) + 0 ≤ _), (by decide : (0 + 1) + 0 ≤ _)⟩)
      dsimp only [Pt.U, Pt.locs, Pt.cells, Pt.slots] at X4 l4 y4 z4 st4 hQ4
      subst l4 y4 z4
      obtain ⟨rfl, N4q, K4, Fq4_0⟩ := hQ4
      have E_b3_4 := A3.keep K4
      have Zs4 : n0 ≤ T4.heap.size := Nat.le_trans Zs3 K4.1
      have O4 := O3.keep K4 (allS g_b3 all0)
      have Kk4 : Keep h0 T4.heap [] := K3.trans K4 (allS (Or.inr sz_b3) all0)
      have N4 := Fr.app N0 N4q
      refine own_go (B := (T4.setTop (mkF m 39 #[.val (.long q0), .second, .val (.int (128 : Int32))] [(.ref b3)]))) (fun t k => st4.trans k) ?_
      obtain ⟨fs, hr, hrun, hended, hW, hsame⟩ := X4.leave (v := some (.ref b3)) (fun h => by rw [Bd.returns] at h; cases h)
      exact ⟨_, _, X4.areturnOut hx rfl Bd.returns rfl (hb hby d4_39) hr, hrun, hended, _, _, rfl, (by show Q4 Z q0 h0 n0 _ T4.heap _; exact ⟨b3, rfl, N4, Kk4, E_b3_4⟩), ⟨_, rfl⟩, hW, hsame.mono (by decide) (by decide)⟩
    · refine own_go (B := (s₁.setTop (mkF m 20 #[.val (.long q0), .second, .val (.int (128 : Int32))] []))) (fun t k => XS.ifNo X0.here hx rfl (hb hby d4_17) rfl ((if0 _ _).trans (flt (fun z => hc17 ((lw_gt _ _).mp z))).2.2.1) k) ?_
      obtain ⟨T5, X5, e5, st5⟩ := getS2 X0 hx hZ hown (host := "") (Or.inl (hw _ (List.mem_of_getElem? (i := 26) rfl))) Via.refl e0 (Sc.ext O0.2) (g := (mkF m 20 #[.val (.long q0), .second, .val (.int (128 : Int32))] [])) rfl (hb hby d4_20)
      refine own_go (B := (T5.setTop (mkF m 23 #[.val (.long q0), .second, .val (.int (128 : Int32))] [(.ref ca)]))) (fun t k => st5 _ k) ?_
      refine own_go (B := (T5.setTop (mkF m 24 #[.val (.long q0), .second, .val (.int (128 : Int32))] [(.long q0), (.ref ca)]))) (fun t k => XS.lloadN X5.here hx rfl (hb hby d4_23) rfl k) ?_
      refine own_go (B := (T5.setTop (mkF m 25 #[.val (.long q0), .second, .val (.int (128 : Int32))] [(.int (q0.toInt32)), (.ref ca)]))) (fun t k => XS.l2i X5.here hx rfl (hb hby d4_24) rfl k) ?_
      refine own_go (B := (T5.setTop (mkF m 28 #[.val (.long q0), .second, .val (.int (128 : Int32))] [(.int (128 : Int32)), (.int (q0.toInt32)), (.ref ca)]))) (fun t k => XS.sipush X5.here hx rfl (hb hby d4_25) k) ?_
      refine own_go (B := (T5.setTop (mkF m 29 #[.val (.long q0), .second, .val (.int (128 : Int32))] [(.int ((q0.toInt32) + (128 : Int32))), (.ref ca)]))) (fun t k => XS.iadd X5.here hx rfl (hb hby d4_28) rfl k) ?_
      have hin : ¬ (((q0.toInt32) + (128 : Int32)) < 0 ∨ cc.slots.size ≤ (((q0.toInt32) + (128 : Int32))).toNatClampNeg) := own_place Bx.2.1 (own_inL hc9 hc17)
      obtain ⟨bx, hat, Ebx, Fbx⟩ := Bx.2.2.2 ((q0.toInt32) + (128 : Int32)) hin
      have Abx := Bx.1.ext O0.2
      refine own_go (B := (T5.setTop (mkF m 30 #[.val (.long q0), .second, .val (.int (128 : Int32))] [(.ref bx)]))) (fun t k => X5.aaload hx (j := ((q0.toInt32) + (128 : Int32))) (v := .ref bx) (by rw [e5]; exact Abx.1) (State.isArrayOf_alike hZ.alike Abx.2.1) rfl Abx.2.2 hin hat (g := (mkF m 29 #[.val (.long q0), .second, .val (.int (128 : Int32))] [(.int ((q0.toInt32) + (128 : Int32))), (.ref ca)])) rfl rfl (hb hby d4_29) _ k) ?_
      obtain ⟨fs, hr, hrun, hended, hW, hsame⟩ := X5.leave (v := some (.ref bx)) (fun h => by rw [Bd.returns] at h; cases h)
      exact ⟨_, _, X5.areturnOut hx rfl Bd.returns rfl (hb hby d4_30) hr, hrun, hended, _, _, rfl, (by show Q4 Z q0 h0 n0 _ T5.heap _; rw [e5]; exact ⟨bx, rfl, N0, (Keep.refl h0 []), (Ebx.ext O0.2)⟩), ⟨_, rfl⟩, hW, hsame.mono (by decide) (by decide)⟩
theorem own_no {Z : State} {a0 : Array Value} (hw : ∀ d ∈ tables_1, d.before a0 Z = true) : ∃ c t, Z.vm.findClass "java/lang/Long" = some c ∧ Z.vm.findClass "com/example/usherd/usherd/Published" = some t ∧ Z.vm.assignable c t = false := by
  obtain ⟨t, kt, g0, g2, g5, g7, -, -⟩ := Cond.instantiable_spec (hw _ (List.mem_of_getElem? (i := 1) rfl))
  obtain ⟨c3, k3, h1, h2, h3, -, -⟩ := Cond.noSuperclass_spec (hw _ (List.mem_of_getElem? (i := 30) rfl))
  have n1 : NS Z "java/lang/Object" "com/example/usherd/usherd/Published" := ⟨c3, t, h1, g0, fun fuel => by
    have ne := ids_ne h1 g0 (by decide)
    cases fuel with
    | zero => rfl
    | succ f => simp [Vm.isSubclassAux, ne, h2, h3]⟩
  have n2 := NS.step (hw _ (List.mem_of_getElem? (i := 29) rfl)) n1 (by decide)
  have n3 := NS.step (hw _ (List.mem_of_getElem? (i := 28) rfl)) n2 (by decide)
  obtain ⟨c, t', h0, g0', n⟩ := n3
  cases g0.symm.trans g0'
  obtain ⟨p, k, kp, q1, q2, q3, q4, q5, -, q7⟩ := Cond.superclass_spec h0 (hw _ (List.mem_of_getElem? (i := 28) rfl))
  have ne := ids_ne h0 g0 (by decide)
  have g8 : kt.isInterface = false := by simp only [Bool.or_eq_false_iff] at g7; exact g7.1
  refine ⟨c, t, h0, g0, ?_⟩
  show Z.vm.assignableAux (255 + 1) c t = false
  simp [Vm.assignableAux, ne, q2, g2, q5, g5, g8, Vm.isSubclass, n]
theorem d3_0 : decode prog_19_method_4_code 0 = .ok (.aload_n 1, 1) := by decide +kernel
theorem d3_1 : decode prog_19_method_4_code 1 = .ok (.instanceof 8, 3) := by decide +kernel
theorem d3_4 : decode prog_19_method_4_code 4 = .ok (.ifCond .ne 5, 3) := by decide +kernel
theorem d3_9 : decode prog_19_method_4_code 9 = .ok (.aload_n 1, 1) := by decide +kernel
theorem d3_10 : decode prog_19_method_4_code 10 = .ok (.checkcast 8, 3) := by decide +kernel
theorem d3_13 : decode prog_19_method_4_code 13 = .ok (.astore_n 2, 1) := by decide +kernel
theorem d3_14 : decode prog_19_method_4_code 14 = .ok (.aload_n 0, 1) := by decide +kernel
theorem d3_15 : decode prog_19_method_4_code 15 = .ok (.getfield 7, 3) := by decide +kernel
theorem d3_18 : decode prog_19_method_4_code 18 = .ok (.aload_n 2, 1) := by decide +kernel
theorem d3_19 : decode prog_19_method_4_code 19 = .ok (.getfield 7, 3) := by decide +kernel
theorem d3_22 : decode prog_19_method_4_code 22 = .ok (.if_icmp .ne 19, 3) := by decide +kernel
theorem d3_25 : decode prog_19_method_4_code 25 = .ok (.aload_n 0, 1) := by decide +kernel
theorem d3_26 : decode prog_19_method_4_code 26 = .ok (.getfield 13, 3) := by decide +kernel
theorem d3_29 : decode prog_19_method_4_code 29 = .ok (.aload_n 2, 1) := by decide +kernel
theorem d3_30 : decode prog_19_method_4_code 30 = .ok (.getfield 13, 3) := by decide +kernel
theorem d3_33 : decode prog_19_method_4_code 33 = .ok (.lcmp, 1) := by decide +kernel
theorem d3_34 : decode prog_19_method_4_code 34 = .ok (.ifCond .ne 7, 3) := by decide +kernel
theorem d3_37 : decode prog_19_method_4_code 37 = .ok (.iconst 1, 1) := by decide +kernel
theorem d3_38 : decode prog_19_method_4_code 38 = .ok (.goto 4, 3) := by decide +kernel
theorem d3_41 : decode prog_19_method_4_code 41 = .ok (.iconst 0, 1) := by decide +kernel
theorem d3_42 : decode prog_19_method_4_code 42 = .ok (.ireturn, 1) := by decide +kernel
theorem pn_3 : plainName "com/example/usherd/usherd/Published" = true := by first | (simp [plainName, overriddenIn]; done) | decide +kernel
theorem ef_3 (m : MethodId) (x0 : Addr) (x1 : Addr) : entryFrame m #[(.ref x0), (.ref x1)] 3 = mkF m 0 #[.val (.ref x0), .val (.ref x1), .unset] [] := by first | (simp [entryFrame, mkF, argsToLocals, Value.category]; done) | rfl
def F3 (a0 : Addr) (a1 : Addr) (pa : Int32) (qa : Int64) (pb : Int32) (qb : Int64) : Int32 := if pa = pb then (if qa = qb then (1 : Int32) else (0 : Int32)) else (0 : Int32)
def Q3 (Z : State) (a0 : Addr) (a1 : Addr) (pa : Int32) (qa : Int64) (pb : Int32) (qb : Int64) (h0 : Heap) (n0 : Nat) (v : Option Value) (h : Heap) (L : List Loc) : Prop := v = some (.int (F3 a0 a1 pa qa pb qb)) ∧ Fr n0 L ∧ h = h0
set_option maxRecDepth 65536 in
set_option maxHeartbeats 40000000 in
theorem rm3 (l : Launch) (Z : State) (ta : Array Value) (hw : ∀ d ∈ tables_1, d.before ta Z = true) (ws : List Jvm.Cond) (a0 : Addr) (a1 : Addr) (pa : Int32) (qa : Int64) (pb : Int32) (qb : Int64) (h0 : Heap) (n0 : Nat) (Fq_a0 : Fld Z h0 a0 "com/example/usherd/usherd/Published" "queue" "I" (.int pa)) (Fo_a0 : Fld Z h0 a0 "com/example/usherd/usherd/Published" "offset" "J" (.long qa)) (Fq_a1 : Fld Z h0 a1 "com/example/usherd/usherd/Published" "queue" "I" (.int pb)) (Fo_a1 : Fld Z h0 a1 "com/example/usherd/usherd/Published" "offset" "J" (.long qb)) (E_a1 : Exa Z h0 a1 "com/example/usherd/usherd/Published") :
    MetFree l (⟨"com/example/usherd/usherd/Published", "equals", "(Ljava/lang/Object;)Z"⟩ : MethodName) (head1 (Jvm.Cond.code (⟨"com/example/usherd/usherd/Published", "equals", "(Ljava/lang/Object;)Z"⟩ : MethodName) prog_19_method_4_code 3 (some .boolean) :: ws) ({ frames := 0, cells := 0, slots := 0, locals := 0 } : Room)) (fun a U => a = #[(.ref a0), (.ref a1)] ∧ Z.Warmed39 U.vm ∧ U.heap = h0) (fun _ _ _ _ _ => True) (fun _ U o U' => ∃ v L, o = .returned v ∧ Q3 Z a0 a1 pa qa pb qb h0 n0 v U'.heap L ∧ FrameEnd U o U' L ({ frames := 0, cells := 0, slots := 0, locals := 0 } : Room).cells ({ frames := 0, cells := 0, slots := 0, locals := 0 } : Room).slots) := by
  refine MetFree.of_bodySF (plainFor_of_name pn_3) hisR ?_
  intro p e s m args below meth c s₁ Bd hml0 hP hK
  obtain ⟨rfl, hZ, hh⟩ := hP
  have hx := Bd.exec
  have hby := Bd.bytes
  have hml : c.maxLocals = 3 := hml0
  have hown : s.vm.findClass "com/example/usherd/usherd/Published" = some m.cls := findClass_of_methodNamed Bd.named
  have hnm := (name_of_methodNamed Bd.named Bd.method).1
  have X0 : Stand p l e ({ frames := 0, cells := 0, slots := 0, locals := 0 } : Room) s m #[(.ref a0), (.ref a1)] below meth c s₁ [] 0 0 := Stand.of_body Bd
  have e0 : s₁.heap = h0 := by rw [← hh, Bd.state]; rfl
  have N0 := Fr.nil n0
  refine own_go (B := (s₁.setTop (mkF m 0 #[.val (.ref a0), .val (.ref a1), .unset] []))) (fun t k => castTop (ef_3 m a0 a1) k) ?_
  refine own_go (B := (s₁.setTop (mkF m 1 #[.val (.ref a0), .val (.ref a1), .unset] [(.ref a1)]))) (fun t k => XS.aloadN X0.here hx rfl (hb hby d3_0) rfl rfl k) ?_
  obtain ⟨T1, X1, e1, st1⟩ := instY X0 hx hZ hown (hw _ (List.mem_of_getElem? (i := 18) rfl)) e0 (Ins.self E_a1) (g := (mkF m 1 #[.val (.ref a0), .val (.ref a1), .unset] [(.ref a1)])) rfl rfl (hb hby d3_1)
  refine own_go (B := (T1.setTop (mkF m 4 #[.val (.ref a0), .val (.ref a1), .unset] [(.int (1 : Int32))]))) (fun t k => st1 _ k) ?_
  refine own_go (B := (T1.setTop (mkF m 9 #[.val (.ref a0), .val (.ref a1), .unset] []))) (fun t k => XS.ifYes X1.here hx rfl (pc0 := 4) (pc' := 9) rfl (hb hby d3_4) rfl ((if0 _ _).trans (feq (by decide)).2) (by decide) (by decide) k) ?_
  refine own_go (B := (T1.setTop (mkF m 10 #[.val (.ref a0), .val (.ref a1), .unset] [(.ref a1)]))) (fun t k => XS.aloadN X1.here hx rfl (hb hby d3_9) rfl rfl k) ?_
  obtain ⟨T2, X2, e2, st2⟩ := castY X1 hx hZ hown (hw _ (List.mem_of_getElem? (i := 18) rfl)) e1 (Ins.self E_a1) (g := (mkF m 10 #[.val (.ref a0), .val (.ref a1), .unset] [(.ref a1)])) rfl rfl (hb hby d3_10)
  refine own_go (B := (T2.setTop (mkF m 13 #[.val (.ref a0), .val (.ref a1), .unset] [(.ref a1)]))) (fun t k => st2 _ k) ?_
  refine own_go (B := (T2.setTop (mkF m 14 #[.val (.ref a0), .val (.ref a1), .val (.ref a1)] []))) (fun t k => XS.astoreN X2.here hx rfl (hb hby d3_13) rfl rfl (l' := #[.val (.ref a0), .val (.ref a1), .val (.ref a1)]) rfl k) ?_
  refine own_go (B := (T2.setTop (mkF m 15 #[.val (.ref a0), .val (.ref a1), .val (.ref a1)] [(.ref a0)]))) (fun t k => XS.aloadN X2.here hx rfl (hb hby d3_14) rfl rfl k) ?_
  obtain ⟨T3, X3, e3, st3⟩ := getF X2 hx hZ hown (host := "") (Or.inl (hw _ (List.mem_of_getElem? (i := 9) rfl))) Via.refl e2 Fq_a0 (g := (mkF m 15 #[.val (.ref a0), .val (.ref a1), .val (.ref a1)] [(.ref a0)])) rfl rfl (hb hby d3_15)
  refine own_go (B := (T3.setTop (mkF m 18 #[.val (.ref a0), .val (.ref a1), .val (.ref a1)] [(.int pa)]))) (fun t k => st3 _ k) ?_
  refine own_go (B := (T3.setTop (mkF m 19 #[.val (.ref a0), .val (.ref a1), .val (.ref a1)] [(.ref a1), (.int pa)]))) (fun t k => XS.aloadN X3.here hx rfl (hb hby d3_18) rfl rfl k) ?_
  obtain ⟨T4, X4, e4, st4⟩ := getF X3 hx hZ hown (host := "") (Or.inl (hw _ (List.mem_of_getElem? (i := 9) rfl))) Via.refl e3 Fq_a1 (g := (mkF m 19 #[.val (.ref a0), .val (.ref a1), .val (.ref a1)] [(.ref a1), (.int pa)])) rfl rfl (hb hby d3_19)
  refine own_go (B := (T4.setTop (mkF m 22 #[.val (.ref a0), .val (.ref a1), .val (.ref a1)] [(.int pb), (.int pa)]))) (fun t k => st4 _ k) ?_
  by_cases hc22 : pa = pb
  · refine own_go (B := (T4.setTop (mkF m 25 #[.val (.ref a0), .val (.ref a1), .val (.ref a1)] []))) (fun t k => XS.icmpNo X4.here hx rfl (hb hby d3_22) rfl (teq hc22).2 k) ?_
    refine own_go (B := (T4.setTop (mkF m 26 #[.val (.ref a0), .val (.ref a1), .val (.ref a1)] [(.ref a0)]))) (fun t k => XS.aloadN X4.here hx rfl (hb hby d3_25) rfl rfl k) ?_
    obtain ⟨T5, X5, e5, st5⟩ := getF X4 hx hZ hown (host := "") (Or.inl (hw _ (List.mem_of_getElem? (i := 11) rfl))) Via.refl e4 Fo_a0 (g := (mkF m 26 #[.val (.ref a0), .val (.ref a1), .val (.ref a1)] [(.ref a0)])) rfl rfl (hb hby d3_26)
    refine own_go (B := (T5.setTop (mkF m 29 #[.val (.ref a0), .val (.ref a1), .val (.ref a1)] [(.long qa)]))) (fun t k => st5 _ k) ?_
    refine own_go (B := (T5.setTop (mkF m 30 #[.val (.ref a0), .val (.ref a1), .val (.ref a1)] [(.ref a1), (.long qa)]))) (fun t k => XS.aloadN X5.here hx rfl (hb hby d3_29) rfl rfl k) ?_
    obtain ⟨T6, X6, e6, st6⟩ := getF X5 hx hZ hown (host := "") (Or.inl (hw _ (List.mem_of_getElem? (i := 11) rfl))) Via.refl e5 Fo_a1 (g := (mkF m 30 #[.val (.ref a0), .val (.ref a1), .val (.ref a1)] [(.ref a1), (.long qa)])) rfl rfl (hb hby d3_30)
    refine own_go (B := (T6.setTop (mkF m 33 #[.val (.ref a0), .val (.ref a1), .val (.ref a1)] [(.long qb), (.long qa)]))) (fun t k => st6 _ k) ?_
    refine own_go (B := (T6.setTop (mkF m 34 #[.val (.ref a0), .val (.ref a1), .val (.ref a1)] [(.int (lcmpW qa qb))]))) (fun t k => XS.lcmp X6.here hx rfl (hb hby d3_33) rfl k) ?_
    by_cases hc34 : qa = qb
    · refine own_go (B := (T6.setTop (mkF m 37 #[.val (.ref a0), .val (.ref a1), .val (.ref a1)] []))) (fun t k => XS.ifNo X6.here hx rfl (hb hby d3_34) rfl ((if0 _ _).trans (teq ((lw_eq _ _).mpr hc34)).2) k) ?_
      refine own_go (B := (T6.setTop (mkF m 38 #[.val (.ref a0), .val (.ref a1), .val (.ref a1)] [(.int (1 : Int32))]))) (fun t k => XS.iconst X6.here hx rfl (hb hby d3_37) k) ?_
      refine own_go (B := (T6.setTop (mkF m 42 #[.val (.ref a0), .val (.ref a1), .val (.ref a1)] [(.int (1 : Int32))]))) (fun t k => XS.goto X6.here hx rfl (pc0 := 38) (pc' := 42) rfl (hb hby d3_38) (by decide) (by decide) k) ?_
      obtain ⟨fs, hr, hrun, hended, hW, hsame⟩ := X6.leave (v := some (.int (1 : Int32))) (fun h => by rw [Bd.returns] at h; cases h)
      exact ⟨_, _, retN X6 hx (t := .boolean) Bd.returns (by simp) (hb hby d3_42) hr, hrun, hended, _, _, rfl, ⟨congrArg (fun z => some (Value.int z)) (by simp only [F3, if_pos hc22, if_pos hc34]), N0, e6⟩, ⟨_, rfl⟩, hW, hsame.mono (by decide) (by decide)⟩
    · refine own_go (B := (T6.setTop (mkF m 41 #[.val (.ref a0), .val (.ref a1), .val (.ref a1)] []))) (fun t k => XS.ifYes X6.here hx rfl (pc0 := 34) (pc' := 41) rfl (hb hby d3_34) rfl ((if0 _ _).trans (feq (fun z => hc34 ((lw_eq _ _).mp z))).2) (by decide) (by decide) k) ?_
      refine own_go (B := (T6.setTop (mkF m 42 #[.val (.ref a0), .val (.ref a1), .val (.ref a1)] [(.int (0 : Int32))]))) (fun t k => XS.iconst X6.here hx rfl (hb hby d3_41) k) ?_
      obtain ⟨fs, hr, hrun, hended, hW, hsame⟩ := X6.leave (v := some (.int (0 : Int32))) (fun h => by rw [Bd.returns] at h; cases h)
      exact ⟨_, _, retN X6 hx (t := .boolean) Bd.returns (by simp) (hb hby d3_42) hr, hrun, hended, _, _, rfl, ⟨congrArg (fun z => some (Value.int z)) (by simp only [F3, if_pos hc22, if_neg hc34]), N0, e6⟩, ⟨_, rfl⟩, hW, hsame.mono (by decide) (by decide)⟩
  · refine own_go (B := (T4.setTop (mkF m 41 #[.val (.ref a0), .val (.ref a1), .val (.ref a1)] []))) (fun t k => XS.icmpYes X4.here hx rfl (pc0 := 22) (pc' := 41) rfl (hb hby d3_22) rfl (feq hc22).2 (by decide) (by decide) k) ?_
    refine own_go (B := (T4.setTop (mkF m 42 #[.val (.ref a0), .val (.ref a1), .val (.ref a1)] [(.int (0 : Int32))]))) (fun t k => XS.iconst X4.here hx rfl (hb hby d3_41) k) ?_
    obtain ⟨fs, hr, hrun, hended, hW, hsame⟩ := X4.leave (v := some (.int (0 : Int32))) (fun h => by rw [Bd.returns] at h; cases h)
    exact ⟨_, _, retN X4 hx (t := .boolean) Bd.returns (by simp) (hb hby d3_42) hr, hrun, hended, _, _, rfl, ⟨congrArg (fun z => some (Value.int z)) (by simp only [F3, if_neg hc22]), N0, e4⟩, ⟨_, rfl⟩, hW, hsame.mono (by decide) (by decide)⟩
theorem d3n_0 : decode prog_19_method_4_code 0 = .ok (.aload_n 1, 1) := by decide +kernel
theorem d3n_1 : decode prog_19_method_4_code 1 = .ok (.instanceof 8, 3) := by decide +kernel
theorem d3n_4 : decode prog_19_method_4_code 4 = .ok (.ifCond .ne 5, 3) := by decide +kernel
theorem d3n_7 : decode prog_19_method_4_code 7 = .ok (.iconst 0, 1) := by decide +kernel
theorem d3n_8 : decode prog_19_method_4_code 8 = .ok (.ireturn, 1) := by decide +kernel
theorem pn_3n : plainName "com/example/usherd/usherd/Published" = true := by first | (simp [plainName, overriddenIn]; done) | decide +kernel
theorem ef_3n (m : MethodId) (x0 : Addr) : entryFrame m #[(.ref x0), .null] 3 = mkF m 0 #[.val (.ref x0), .val .null, .unset] [] := by first | (simp [entryFrame, mkF, argsToLocals, Value.category]; done) | rfl
def Q3n (Z : State) (a0 : Addr)  (h0 : Heap) (n0 : Nat) (v : Option Value) (h : Heap) (L : List Loc) : Prop := v = some (.int (0 : Int32)) ∧ Fr n0 L ∧ h = h0
set_option maxRecDepth 65536 in
set_option maxHeartbeats 40000000 in
theorem rm3n (l : Launch) (Z : State) (ta : Array Value) (hw : ∀ d ∈ tables_1, d.before ta Z = true) (ws : List Jvm.Cond) (a0 : Addr)  (h0 : Heap) (n0 : Nat)  :
    MetFree l (⟨"com/example/usherd/usherd/Published", "equals", "(Ljava/lang/Object;)Z"⟩ : MethodName) (head1 (Jvm.Cond.code (⟨"com/example/usherd/usherd/Published", "equals", "(Ljava/lang/Object;)Z"⟩ : MethodName) prog_19_method_4_code 3 (some .boolean) :: ws) ({ frames := 0, cells := 0, slots := 0, locals := 0 } : Room)) (fun a U => a = #[(.ref a0), .null] ∧ Z.Warmed39 U.vm ∧ U.heap = h0) (fun _ _ _ _ _ => True) (fun _ U o U' => ∃ v L, o = .returned v ∧ Q3n Z a0  h0 n0 v U'.heap L ∧ FrameEnd U o U' L ({ frames := 0, cells := 0, slots := 0, locals := 0 } : Room).cells ({ frames := 0, cells := 0, slots := 0, locals := 0 } : Room).slots) := by
  refine MetFree.of_bodySF (plainFor_of_name pn_3n) hisR ?_
  intro p e s m args below meth c s₁ Bd hml0 hP hK
  obtain ⟨rfl, hZ, hh⟩ := hP
  have hx := Bd.exec
  have hby := Bd.bytes
  have hml : c.maxLocals = 3 := hml0
  have hown : s.vm.findClass "com/example/usherd/usherd/Published" = some m.cls := findClass_of_methodNamed Bd.named
  have hnm := (name_of_methodNamed Bd.named Bd.method).1
  have X0 : Stand p l e ({ frames := 0, cells := 0, slots := 0, locals := 0 } : Room) s m #[(.ref a0), .null] below meth c s₁ [] 0 0 := Stand.of_body Bd
  have e0 : s₁.heap = h0 := by rw [← hh, Bd.state]; rfl
  have N0 := Fr.nil n0
  refine own_go (B := (s₁.setTop (mkF m 0 #[.val (.ref a0), .val .null, .unset] []))) (fun t k => castTop (ef_3n m a0) k) ?_
  refine own_go (B := (s₁.setTop (mkF m 1 #[.val (.ref a0), .val .null, .unset] [.null]))) (fun t k => XS.aloadN X0.here hx rfl (hb hby d3n_0) rfl rfl k) ?_
  refine own_go (B := (s₁.setTop (mkF m 4 #[.val (.ref a0), .val .null, .unset] [(.int (0 : Int32))]))) (fun t k => X0.instanceofNull hx (g := (mkF m 1 #[.val (.ref a0), .val .null, .unset] [.null])) rfl rfl (hb hby d3n_1) _ k) ?_
  refine own_go (B := (s₁.setTop (mkF m 7 #[.val (.ref a0), .val .null, .unset] []))) (fun t k => XS.ifNo X0.here hx rfl (hb hby d3n_4) rfl ((if0 _ _).trans (teq (by decide)).2) k) ?_
  refine own_go (B := (s₁.setTop (mkF m 8 #[.val (.ref a0), .val .null, .unset] [(.int (0 : Int32))]))) (fun t k => XS.iconst X0.here hx rfl (hb hby d3n_7) k) ?_
  obtain ⟨fs, hr, hrun, hended, hW, hsame⟩ := X0.leave (v := some (.int (0 : Int32))) (fun h => by rw [Bd.returns] at h; cases h)
  exact ⟨_, _, retN X0 hx (t := .boolean) Bd.returns (by simp) (hb hby d3n_8) hr, hrun, hended, _, _, rfl, ⟨rfl, N0, e0⟩, ⟨_, rfl⟩, hW, hsame.mono (by decide) (by decide)⟩
theorem d3l_0 : decode prog_19_method_4_code 0 = .ok (.aload_n 1, 1) := by decide +kernel
theorem d3l_1 : decode prog_19_method_4_code 1 = .ok (.instanceof 8, 3) := by decide +kernel
theorem d3l_4 : decode prog_19_method_4_code 4 = .ok (.ifCond .ne 5, 3) := by decide +kernel
theorem d3l_7 : decode prog_19_method_4_code 7 = .ok (.iconst 0, 1) := by decide +kernel
theorem d3l_8 : decode prog_19_method_4_code 8 = .ok (.ireturn, 1) := by decide +kernel
theorem pn_3l : plainName "com/example/usherd/usherd/Published" = true := by first | (simp [plainName, overriddenIn]; done) | decide +kernel
theorem ef_3l (m : MethodId) (x0 : Addr) (x1 : Addr) : entryFrame m #[(.ref x0), (.ref x1)] 3 = mkF m 0 #[.val (.ref x0), .val (.ref x1), .unset] [] := by first | (simp [entryFrame, mkF, argsToLocals, Value.category]; done) | rfl
def Q3l (Z : State) (a0 : Addr) (a1 : Addr)  (h0 : Heap) (n0 : Nat) (v : Option Value) (h : Heap) (L : List Loc) : Prop := v = some (.int (0 : Int32)) ∧ Fr n0 L ∧ h = h0
set_option maxRecDepth 65536 in
set_option maxHeartbeats 40000000 in
theorem rm3l (l : Launch) (Z : State) (ta : Array Value) (hw : ∀ d ∈ tables_1, d.before ta Z = true) (ws : List Jvm.Cond) (a0 : Addr) (a1 : Addr)  (h0 : Heap) (n0 : Nat) (E_a1 : Exa Z h0 a1 "java/lang/Long") :
    MetFree l (⟨"com/example/usherd/usherd/Published", "equals", "(Ljava/lang/Object;)Z"⟩ : MethodName) (head1 (Jvm.Cond.code (⟨"com/example/usherd/usherd/Published", "equals", "(Ljava/lang/Object;)Z"⟩ : MethodName) prog_19_method_4_code 3 (some .boolean) :: ws) ({ frames := 0, cells := 0, slots := 0, locals := 0 } : Room)) (fun a U => a = #[(.ref a0), (.ref a1)] ∧ Z.Warmed39 U.vm ∧ U.heap = h0) (fun _ _ _ _ _ => True) (fun _ U o U' => ∃ v L, o = .returned v ∧ Q3l Z a0 a1  h0 n0 v U'.heap L ∧ FrameEnd U o U' L ({ frames := 0, cells := 0, slots := 0, locals := 0 } : Room).cells ({ frames := 0, cells := 0, slots := 0, locals := 0 } : Room).slots) := by
  refine MetFree.of_bodySF (plainFor_of_name pn_3l) hisR ?_
  intro p e s m args below meth c s₁ Bd hml0 hP hK
  obtain ⟨rfl, hZ, hh⟩ := hP
  have hx := Bd.exec
  have hby := Bd.bytes
  have hml : c.maxLocals = 3 := hml0
  have hown : s.vm.findClass "com/example/usherd/usherd/Published" = some m.cls := findClass_of_methodNamed Bd.named
  have hnm := (name_of_methodNamed Bd.named Bd.method).1
  have X0 : Stand p l e ({ frames := 0, cells := 0, slots := 0, locals := 0 } : Room) s m #[(.ref a0), (.ref a1)] below meth c s₁ [] 0 0 := Stand.of_body Bd
  have e0 : s₁.heap = h0 := by rw [← hh, Bd.state]; rfl
  have N0 := Fr.nil n0
  refine own_go (B := (s₁.setTop (mkF m 0 #[.val (.ref a0), .val (.ref a1), .unset] []))) (fun t k => castTop (ef_3l m a0 a1) k) ?_
  refine own_go (B := (s₁.setTop (mkF m 1 #[.val (.ref a0), .val (.ref a1), .unset] [(.ref a1)]))) (fun t k => XS.aloadN X0.here hx rfl (hb hby d3l_0) rfl rfl k) ?_
  obtain ⟨T1, X1, e1, st1⟩ := instNo X0 hx hZ hown (hw _ (List.mem_of_getElem? (i := 18) rfl)) e0 E_a1 (own_no hw) (g := (mkF m 1 #[.val (.ref a0), .val (.ref a1), .unset] [(.ref a1)])) rfl rfl (hb hby d3l_1)
  refine own_go (B := (T1.setTop (mkF m 4 #[.val (.ref a0), .val (.ref a1), .unset] [(.int (0 : Int32))]))) (fun t k => st1 _ k) ?_
  refine own_go (B := (T1.setTop (mkF m 7 #[.val (.ref a0), .val (.ref a1), .unset] []))) (fun t k => XS.ifNo X1.here hx rfl (hb hby d3l_4) rfl ((if0 _ _).trans (teq (by decide)).2) k) ?_
  refine own_go (B := (T1.setTop (mkF m 8 #[.val (.ref a0), .val (.ref a1), .unset] [(.int (0 : Int32))]))) (fun t k => XS.iconst X1.here hx rfl (hb hby d3l_7) k) ?_
  obtain ⟨fs, hr, hrun, hended, hW, hsame⟩ := X1.leave (v := some (.int (0 : Int32))) (fun h => by rw [Bd.returns] at h; cases h)
  exact ⟨_, _, retN X1 hx (t := .boolean) Bd.returns (by simp) (hb hby d3l_8) hr, hrun, hended, _, _, rfl, ⟨rfl, N0, e1⟩, ⟨_, rfl⟩, hW, hsame.mono (by decide) (by decide)⟩
theorem pn_0 : plainName "com/example/usherd/usherd/PublishedEqualsPinLaw" = true := by first | (simp [plainName, overriddenIn]; done) | decide +kernel
theorem pd_0_0 : parseMethodDescriptor "(IJ)V" = some ⟨[.int, .long], none⟩ := by decide +kernel
theorem pd_0_1 : parseMethodDescriptor "(Ljava/lang/Object;)Z" = some ⟨[(.object "java/lang/Object")], some .boolean⟩ := by decide +kernel
theorem pd_0_2 : parseMethodDescriptor "(J)Ljava/lang/Long;" = some ⟨[.long], some (.object "java/lang/Long")⟩ := by decide +kernel
theorem ef_0 (m : MethodId) (x0 : Int32) (x1 : Int64) (x2 : Int32) (x3 : Int64) (x4 : Int32) : entryFrame m #[(.int x0), (.long x1), (.int x2), (.long x3), (.int x4)] maxLocals = mkF m 0 #[.val (.int x0), .val (.long x1), .second, .val (.int x2), .val (.long x3), .second, .val (.int x4), .unset, .unset, .unset, .unset, .unset, .unset, .unset, .unset, .unset, .unset, .unset, .unset, .unset] [] := by first | (simp [entryFrame, mkF, argsToLocals, Value.category, maxLocals]; done) | rfl
def Q0 (Z : State) (p0 : Int32) (q1 : Int64) (p2 : Int32) (q3 : Int64) (p4 : Int32) (ca : Addr) (cc : Cell) (vf : Int32 → Value) (h0 : Heap) (n0 : Nat) (v : Option Value) (h : Heap) (L : List Loc) : Prop := v = some (.int (1 : Int32)) ∧ Fr n0 L
set_option maxRecDepth 65536 in
set_option maxHeartbeats 40000000 in
theorem rm0 (l : Launch) (Z : State) (ta : Array Value) (hw : ∀ d ∈ tables_1, d.before ta Z = true) (ws : List Jvm.Cond) (p0 : Int32) (q1 : Int64) (p2 : Int32) (q3 : Int64) (p4 : Int32) (ca : Addr) (cc : Cell) (vf : Int32 → Value) (h0 : Heap) (n0 : Nat) (Z0 : n0 ≤ h0.size) (O0 : Old Z n0 h0) (Sc : Sta Z Z.heap "java/lang/Long$LongCache" "cache" "[Ljava/lang/Long;" (.ref ca)) (Bx : Bxs Z ca cc "java/lang/Long" "J" (256 : Int32) vf) :
    MetFree l x (head1 (Jvm.Cond.code x code maxLocals ret :: ws) room_1) (fun a U => a = #[(.int p0), (.long q1), (.int p2), (.long q3), (.int p4)] ∧ Z.Warmed39 U.vm ∧ U.heap = h0) (fun _ _ _ _ _ => True) (fun _ U o U' => ∃ v L, o = .returned v ∧ Q0 Z p0 q1 p2 q3 p4 ca cc vf h0 n0 v U'.heap L ∧ FrameEnd U o U' L room_1.cells room_1.slots) := by
  refine MetFree.of_bodySF (plainFor_of_name pn_0) hisR ?_
  intro p e s m args below meth c s₁ Bd hml0 hP hK
  obtain ⟨rfl, hZ, hh⟩ := hP
  have hx := Bd.exec
  have hby := Bd.bytes
  have hml : c.maxLocals = 20 := hml0
  have hown : s.vm.findClass "com/example/usherd/usherd/PublishedEqualsPinLaw" = some m.cls := findClass_of_methodNamed Bd.named
  have hnm := (name_of_methodNamed Bd.named Bd.method).1
  have X0 : Stand p l e room_1 s m #[(.int p0), (.long q1), (.int p2), (.long q3), (.int p4)] below meth c s₁ [] 0 0 := Stand.of_body Bd
  have e0 : s₁.heap = h0 := by rw [← hh, Bd.state]; rfl
  have N0 := Fr.nil n0
  refine own_go (B := (s₁.setTop (mkF m 0 #[.val (.int p0), .val (.long q1), .second, .val (.int p2), .val (.long q3), .second, .val (.int p4), .unset, .unset, .unset, .unset, .unset, .unset, .unset, .unset, .unset, .unset, .unset, .unset, .unset] []))) (fun t k => castTop (ef_0 m p0 q1 p2 q3 p4) k) ?_
  refine own_go (B := (s₁.setTop (mkF m 2 #[.val (.int p0), .val (.long q1), .second, .val (.int p2), .val (.long q3), .second, .val (.int p4), .unset, .unset, .unset, .unset, .unset, .unset, .unset, .unset, .unset, .unset, .unset, .unset, .unset] [(.int p4)]))) (fun t k => XS.iload X0.here hx rfl (hb hby at_0) rfl k) ?_
  refine own_go (B := (s₁.setTop (mkF m 3 #[.val (.int p0), .val (.long q1), .second, .val (.int p2), .val (.long q3), .second, .val (.int p4), .unset, .unset, .unset, .unset, .unset, .unset, .unset, .unset, .unset, .unset, .unset, .unset, .unset] [(.int (1 : Int32)), (.int p4)]))) (fun t k => XS.iconst X0.here hx rfl (hb hby at_2) k) ?_
  refine own_go (B := (s₁.setTop (mkF m 4 #[.val (.int p0), .val (.long q1), .second, .val (.int p2), .val (.long q3), .second, .val (.int p4), .unset, .unset, .unset, .unset, .unset, .unset, .unset, .unset, .unset, .unset, .unset, .unset, .unset] [(.int (p4 &&& (1 : Int32)))]))) (fun t k => XS.iand X0.here hx rfl (hb hby at_3) rfl k) ?_
  have hj1 : ∀ t, Steps p.tables e below (s₁.setTop (mkF m 12 #[.val (.int p0), .val (.long q1), .second, .val (.int p2), .val (.long q3), .second, .val (.int p4), .unset, .unset, .unset, .unset, .unset, .unset, .unset, .unset, .unset, .unset, .unset, .unset, .unset] [(.int (if (p4 &&& (1 : Int32)) = (0 : Int32) then (0 : Int32) else (1 : Int32)))])) t → Steps p.tables e below (s₁.setTop (mkF m 4 #[.val (.int p0), .val (.long q1), .second, .val (.int p2), .val (.long q3), .second, .val (.int p4), .unset, .unset, .unset, .unset, .unset, .unset, .unset, .unset, .unset, .unset, .unset, .unset, .unset] [(.int (p4 &&& (1 : Int32)))])) t := by
    intro t k
    by_cases hc4 : (p4 &&& (1 : Int32)) = (0 : Int32)
    · simp only [if_pos hc4] at k
      refine XS.ifYes X0.here hx rfl (pc0 := 4) (pc' := 11) rfl (hb hby at_4) rfl ((if0 _ _).trans (teq hc4).1) (by decide) (by decide) (?_ : Steps p.tables e below (s₁.setTop (mkF m 11 #[.val (.int p0), .val (.long q1), .second, .val (.int p2), .val (.long q3), .second, .val (.int p4), .unset, .unset, .unset, .unset, .unset, .unset, .unset, .unset, .unset, .unset, .unset, .unset, .unset] [])) _)
      refine XS.iconst X0.here hx rfl (hb hby at_11) (?_ : Steps p.tables e below (s₁.setTop (mkF m 12 #[.val (.int p0), .val (.long q1), .second, .val (.int p2), .val (.long q3), .second, .val (.int p4), .unset, .unset, .unset, .unset, .unset, .unset, .unset, .unset, .unset, .unset, .unset, .unset, .unset] [(.int (0 : Int32))])) _)
      exact k
    · simp only [if_neg hc4] at k
      refine XS.ifNo X0.here hx rfl (hb hby at_4) rfl ((if0 _ _).trans (feq hc4).1) (?_ : Steps p.tables e below (s₁.setTop (mkF m 7 #[.val (.int p0), .val (.long q1), .second, .val (.int p2), .val (.long q3), .second, .val (.int p4), .unset, .unset, .unset, .unset, .unset, .unset, .unset, .unset, .unset, .unset, .unset, .unset, .unset] [])) _)
      refine XS.iconst X0.here hx rfl (hb hby at_7) (?_ : Steps p.tables e below (s₁.setTop (mkF m 8 #[.val (.int p0), .val (.long q1), .second, .val (.int p2), .val (.long q3), .second, .val (.int p4), .unset, .unset, .unset, .unset, .unset, .unset, .unset, .unset, .unset, .unset, .unset, .unset, .unset] [(.int (1 : Int32))])) _)
      refine XS.goto X0.here hx rfl (pc0 := 8) (pc' := 12) rfl (hb hby at_8) (by decide) (by decide) (?_ : Steps p.tables e below (s₁.setTop (mkF m 12 #[.val (.int p0), .val (.long q1), .second, .val (.int p2), .val (.long q3), .second, .val (.int p4), .unset, .unset, .unset, .unset, .unset, .unset, .unset, .unset, .unset, .unset, .unset, .unset, .unset] [(.int (1 : Int32))])) _)
      exact k
  refine own_go (B := (s₁.setTop (mkF m 12 #[.val (.int p0), .val (.long q1), .second, .val (.int p2), .val (.long q3), .second, .val (.int p4), .unset, .unset, .unset, .unset, .unset, .unset, .unset, .unset, .unset, .unset, .unset, .unset, .unset] [(.int (if (p4 &&& (1 : Int32)) = (0 : Int32) then (0 : Int32) else (1 : Int32)))]))) (fun t k => hj1 t k) ?_
  generalize hg_sq : (if (p4 &&& (1 : Int32)) = (0 : Int32) then (0 : Int32) else (1 : Int32)) = sq
  refine own_go (B := (s₁.setTop (mkF m 14 #[.val (.int p0), .val (.long q1), .second, .val (.int p2), .val (.long q3), .second, .val (.int p4), .val (.int sq), .unset, .unset, .unset, .unset, .unset, .unset, .unset, .unset, .unset, .unset, .unset, .unset] []))) (fun t k => XS.istore X0.here hx rfl (hb hby at_12) rfl (l' := #[.val (.int p0), .val (.long q1), .second, .val (.int p2), .val (.long q3), .second, .val (.int p4), .val (.int sq), .unset, .unset, .unset, .unset, .unset, .unset, .unset, .unset, .unset, .unset, .unset, .unset]) rfl k) ?_
  refine own_go (B := (s₁.setTop (mkF m 16 #[.val (.int p0), .val (.long q1), .second, .val (.int p2), .val (.long q3), .second, .val (.int p4), .val (.int sq), .unset, .unset, .unset, .unset, .unset, .unset, .unset, .unset, .unset, .unset, .unset, .unset] [(.int p4)]))) (fun t k => XS.iload X0.here hx rfl (hb hby at_14) rfl k) ?_
  refine own_go (B := (s₁.setTop (mkF m 17 #[.val (.int p0), .val (.long q1), .second, .val (.int p2), .val (.long q3), .second, .val (.int p4), .val (.int sq), .unset, .unset, .unset, .unset, .unset, .unset, .unset, .unset, .unset, .unset, .unset, .unset] [(.int (2 : Int32)), (.int p4)]))) (fun t k => XS.iconst X0.here hx rfl (hb hby at_16) k) ?_
  refine own_go (B := (s₁.setTop (mkF m 18 #[.val (.int p0), .val (.long q1), .second, .val (.int p2), .val (.long q3), .second, .val (.int p4), .val (.int sq), .unset, .unset, .unset, .unset, .unset, .unset, .unset, .unset, .unset, .unset, .unset, .unset] [(.int (p4 &&& (2 : Int32)))]))) (fun t k => XS.iand X0.here hx rfl (hb hby at_17) rfl k) ?_
  have hj2 : ∀ t, Steps p.tables e below (s₁.setTop (mkF m 26 #[.val (.int p0), .val (.long q1), .second, .val (.int p2), .val (.long q3), .second, .val (.int p4), .val (.int sq), .unset, .unset, .unset, .unset, .unset, .unset, .unset, .unset, .unset, .unset, .unset, .unset] [(.int (if (p4 &&& (2 : Int32)) = (0 : Int32) then (0 : Int32) else (1 : Int32)))])) t → Steps p.tables e below (s₁.setTop (mkF m 18 #[.val (.int p0), .val (.long q1), .second, .val (.int p2), .val (.long q3), .second, .val (.int p4), .val (.int sq), .unset, .unset, .unset, .unset, .unset, .unset, .unset, .unset, .unset, .unset, .unset, .unset] [(.int (p4 &&& (2 : Int32)))])) t := by
    intro t k
    by_cases hc18 : (p4 &&& (2 : Int32)) = (0 : Int32)
    · simp only [if_pos hc18] at k
      refine XS.ifYes X0.here hx rfl (pc0 := 18) (pc' := 25) rfl (hb hby at_18) rfl ((if0 _ _).trans (teq hc18).1) (by decide) (by decide) (?_ : Steps p.tables e below (s₁.setTop (mkF m 25 #[.val (.int p0), .val (.long q1), .second, .val (.int p2), .val (.long q3), .second, .val (.int p4), .val (.int sq), .unset, .unset, .unset, .unset, .unset, .unset, .unset, .unset, .unset, .unset, .unset, .unset] [])) _)
      refine XS.iconst X0.here hx rfl (hb hby at_25) (?_ : Steps p.tables e below (s₁.setTop (mkF m 26 #[.val (.int p0), .val (.long q1), .second, .val (.int p2), .val (.long q3), .second, .val (.int p4), .val (.int sq), .unset, .unset, .unset, .unset, .unset, .unset, .unset, .unset, .unset, .unset, .unset, .unset] [(.int (0 : Int32))])) _)
      exact k
    · simp only [if_neg hc18] at k
      refine XS.ifNo X0.here hx rfl (hb hby at_18) rfl ((if0 _ _).trans (feq hc18).1) (?_ : Steps p.tables e below (s₁.setTop (mkF m 21 #[.val (.int p0), .val (.long q1), .second, .val (.int p2), .val (.long q3), .second, .val (.int p4), .val (.int sq), .unset, .unset, .unset, .unset, .unset, .unset, .unset, .unset, .unset, .unset, .unset, .unset] [])) _)
      refine XS.iconst X0.here hx rfl (hb hby at_21) (?_ : Steps p.tables e below (s₁.setTop (mkF m 22 #[.val (.int p0), .val (.long q1), .second, .val (.int p2), .val (.long q3), .second, .val (.int p4), .val (.int sq), .unset, .unset, .unset, .unset, .unset, .unset, .unset, .unset, .unset, .unset, .unset, .unset] [(.int (1 : Int32))])) _)
      refine XS.goto X0.here hx rfl (pc0 := 22) (pc' := 26) rfl (hb hby at_22) (by decide) (by decide) (?_ : Steps p.tables e below (s₁.setTop (mkF m 26 #[.val (.int p0), .val (.long q1), .second, .val (.int p2), .val (.long q3), .second, .val (.int p4), .val (.int sq), .unset, .unset, .unset, .unset, .unset, .unset, .unset, .unset, .unset, .unset, .unset, .unset] [(.int (1 : Int32))])) _)
      exact k
  refine own_go (B := (s₁.setTop (mkF m 26 #[.val (.int p0), .val (.long q1), .second, .val (.int p2), .val (.long q3), .second, .val (.int p4), .val (.int sq), .unset, .unset, .unset, .unset, .unset, .unset, .unset, .unset, .unset, .unset, .unset, .unset] [(.int (if (p4 &&& (2 : Int32)) = (0 : Int32) then (0 : Int32) else (1 : Int32)))]))) (fun t k => hj2 t k) ?_
  generalize hg_so : (if (p4 &&& (2 : Int32)) = (0 : Int32) then (0 : Int32) else (1 : Int32)) = so
  refine own_go (B := (s₁.setTop (mkF m 28 #[.val (.int p0), .val (.long q1), .second, .val (.int p2), .val (.long q3), .second, .val (.int p4), .val (.int sq), .val (.int so), .unset, .unset, .unset, .unset, .unset, .unset, .unset, .unset, .unset, .unset, .unset] []))) (fun t k => XS.istore X0.here hx rfl (hb hby at_26) rfl (l' := #[.val (.int p0), .val (.long q1), .second, .val (.int p2), .val (.long q3), .second, .val (.int p4), .val (.int sq), .val (.int so), .unset, .unset, .unset, .unset, .unset, .unset, .unset, .unset, .unset, .unset, .unset]) rfl k) ?_
  refine own_go (B := (s₁.setTop (mkF m 30 #[.val (.int p0), .val (.long q1), .second, .val (.int p2), .val (.long q3), .second, .val (.int p4), .val (.int sq), .val (.int so), .unset, .unset, .unset, .unset, .unset, .unset, .unset, .unset, .unset, .unset, .unset] [(.int sq)]))) (fun t k => XS.iload X0.here hx rfl (hb hby at_28) rfl k) ?_
  have hj3 : ∀ t, Steps p.tables e below (s₁.setTop (mkF m 38 #[.val (.int p0), .val (.long q1), .second, .val (.int p2), .val (.long q3), .second, .val (.int p4), .val (.int sq), .val (.int so), .unset, .unset, .unset, .unset, .unset, .unset, .unset, .unset, .unset, .unset, .unset] [(.int (if sq = (0 : Int32) then p2 else p0))])) t → Steps p.tables e below (s₁.setTop (mkF m 30 #[.val (.int p0), .val (.long q1), .second, .val (.int p2), .val (.long q3), .second, .val (.int p4), .val (.int sq), .val (.int so), .unset, .unset, .unset, .unset, .unset, .unset, .unset, .unset, .unset, .unset, .unset] [(.int sq)])) t := by
    intro t k
    by_cases hc30 : sq = (0 : Int32)
    · simp only [if_pos hc30] at k
      refine XS.ifYes X0.here hx rfl (pc0 := 30) (pc' := 37) rfl (hb hby at_30) rfl ((if0 _ _).trans (teq hc30).1) (by decide) (by decide) (?_ : Steps p.tables e below (s₁.setTop (mkF m 37 #[.val (.int p0), .val (.long q1), .second, .val (.int p2), .val (.long q3), .second, .val (.int p4), .val (.int sq), .val (.int so), .unset, .unset, .unset, .unset, .unset, .unset, .unset, .unset, .unset, .unset, .unset] [])) _)
      refine XS.iloadN X0.here hx rfl (hb hby at_37) rfl (?_ : Steps p.tables e below (s₁.setTop (mkF m 38 #[.val (.int p0), .val (.long q1), .second, .val (.int p2), .val (.long q3), .second, .val (.int p4), .val (.int sq), .val (.int so), .unset, .unset, .unset, .unset, .unset, .unset, .unset, .unset, .unset, .unset, .unset] [(.int p2)])) _)
      exact k
    · simp only [if_neg hc30] at k
      refine XS.ifNo X0.here hx rfl (hb hby at_30) rfl ((if0 _ _).trans (feq hc30).1) (?_ : Steps p.tables e below (s₁.setTop (mkF m 33 #[.val (.int p0), .val (.long q1), .second, .val (.int p2), .val (.long q3), .second, .val (.int p4), .val (.int sq), .val (.int so), .unset, .unset, .unset, .unset, .unset, .unset, .unset, .unset, .unset, .unset, .unset] [])) _)
      refine XS.iloadN X0.here hx rfl (hb hby at_33) rfl (?_ : Steps p.tables e below (s₁.setTop (mkF m 34 #[.val (.int p0), .val (.long q1), .second, .val (.int p2), .val (.long q3), .second, .val (.int p4), .val (.int sq), .val (.int so), .unset, .unset, .unset, .unset, .unset, .unset, .unset, .unset, .unset, .unset, .unset] [(.int p0)])) _)
      refine XS.goto X0.here hx rfl (pc0 := 34) (pc' := 38) rfl (hb hby at_34) (by decide) (by decide) (?_ : Steps p.tables e below (s₁.setTop (mkF m 38 #[.val (.int p0), .val (.long q1), .second, .val (.int p2), .val (.long q3), .second, .val (.int p4), .val (.int sq), .val (.int so), .unset, .unset, .unset, .unset, .unset, .unset, .unset, .unset, .unset, .unset, .unset] [(.int p0)])) _)
      exact k
  refine own_go (B := (s₁.setTop (mkF m 38 #[.val (.int p0), .val (.long q1), .second, .val (.int p2), .val (.long q3), .second, .val (.int p4), .val (.int sq), .val (.int so), .unset, .unset, .unset, .unset, .unset, .unset, .unset, .unset, .unset, .unset, .unset] [(.int (if sq = (0 : Int32) then p2 else p0))]))) (fun t k => hj3 t k) ?_
  generalize hg_qq : (if sq = (0 : Int32) then p2 else p0) = qq
  refine own_go (B := (s₁.setTop (mkF m 40 #[.val (.int p0), .val (.long q1), .second, .val (.int p2), .val (.long q3), .second, .val (.int p4), .val (.int sq), .val (.int so), .val (.int qq), .unset, .unset, .unset, .unset, .unset, .unset, .unset, .unset, .unset, .unset] []))) (fun t k => XS.istore X0.here hx rfl (hb hby at_38) rfl (l' := #[.val (.int p0), .val (.long q1), .second, .val (.int p2), .val (.long q3), .second, .val (.int p4), .val (.int sq), .val (.int so), .val (.int qq), .unset, .unset, .unset, .unset, .unset, .unset, .unset, .unset, .unset, .unset]) rfl k) ?_
  refine own_go (B := (s₁.setTop (mkF m 42 #[.val (.int p0), .val (.long q1), .second, .val (.int p2), .val (.long q3), .second, .val (.int p4), .val (.int sq), .val (.int so), .val (.int qq), .unset, .unset, .unset, .unset, .unset, .unset, .unset, .unset, .unset, .unset] [(.int so)]))) (fun t k => XS.iload X0.here hx rfl (hb hby at_40) rfl k) ?_
  have hj4 : ∀ t, Steps p.tables e below (s₁.setTop (mkF m 51 #[.val (.int p0), .val (.long q1), .second, .val (.int p2), .val (.long q3), .second, .val (.int p4), .val (.int sq), .val (.int so), .val (.int qq), .unset, .unset, .unset, .unset, .unset, .unset, .unset, .unset, .unset, .unset] [(.long (if so = (0 : Int32) then q3 else q1))])) t → Steps p.tables e below (s₁.setTop (mkF m 42 #[.val (.int p0), .val (.long q1), .second, .val (.int p2), .val (.long q3), .second, .val (.int p4), .val (.int sq), .val (.int so), .val (.int qq), .unset, .unset, .unset, .unset, .unset, .unset, .unset, .unset, .unset, .unset] [(.int so)])) t := by
    intro t k
    by_cases hc42 : so = (0 : Int32)
    · simp only [if_pos hc42] at k
      refine XS.ifYes X0.here hx rfl (pc0 := 42) (pc' := 49) rfl (hb hby at_42) rfl ((if0 _ _).trans (teq hc42).1) (by decide) (by decide) (?_ : Steps p.tables e below (s₁.setTop (mkF m 49 #[.val (.int p0), .val (.long q1), .second, .val (.int p2), .val (.long q3), .second, .val (.int p4), .val (.int sq), .val (.int so), .val (.int qq), .unset, .unset, .unset, .unset, .unset, .unset, .unset, .unset, .unset, .unset] [])) _)
      refine XS.lload X0.here hx rfl (hb hby at_49) rfl (?_ : Steps p.tables e below (s₁.setTop (mkF m 51 #[.val (.int p0), .val (.long q1), .second, .val (.int p2), .val (.long q3), .second, .val (.int p4), .val (.int sq), .val (.int so), .val (.int qq), .unset, .unset, .unset, .unset, .unset, .unset, .unset, .unset, .unset, .unset] [(.long q3)])) _)
      exact k
    · simp only [if_neg hc42] at k
      refine XS.ifNo X0.here hx rfl (hb hby at_42) rfl ((if0 _ _).trans (feq hc42).1) (?_ : Steps p.tables e below (s₁.setTop (mkF m 45 #[.val (.int p0), .val (.long q1), .second, .val (.int p2), .val (.long q3), .second, .val (.int p4), .val (.int sq), .val (.int so), .val (.int qq), .unset, .unset, .unset, .unset, .unset, .unset, .unset, .unset, .unset, .unset] [])) _)
      refine XS.lloadN X0.here hx rfl (hb hby at_45) rfl (?_ : Steps p.tables e below (s₁.setTop (mkF m 46 #[.val (.int p0), .val (.long q1), .second, .val (.int p2), .val (.long q3), .second, .val (.int p4), .val (.int sq), .val (.int so), .val (.int qq), .unset, .unset, .unset, .unset, .unset, .unset, .unset, .unset, .unset, .unset] [(.long q1)])) _)
      refine XS.goto X0.here hx rfl (pc0 := 46) (pc' := 51) rfl (hb hby at_46) (by decide) (by decide) (?_ : Steps p.tables e below (s₁.setTop (mkF m 51 #[.val (.int p0), .val (.long q1), .second, .val (.int p2), .val (.long q3), .second, .val (.int p4), .val (.int sq), .val (.int so), .val (.int qq), .unset, .unset, .unset, .unset, .unset, .unset, .unset, .unset, .unset, .unset] [(.long q1)])) _)
      exact k
  refine own_go (B := (s₁.setTop (mkF m 51 #[.val (.int p0), .val (.long q1), .second, .val (.int p2), .val (.long q3), .second, .val (.int p4), .val (.int sq), .val (.int so), .val (.int qq), .unset, .unset, .unset, .unset, .unset, .unset, .unset, .unset, .unset, .unset] [(.long (if so = (0 : Int32) then q3 else q1))]))) (fun t k => hj4 t k) ?_
  generalize hg_oo : (if so = (0 : Int32) then q3 else q1) = oo
  refine own_go (B := (s₁.setTop (mkF m 53 #[.val (.int p0), .val (.long q1), .second, .val (.int p2), .val (.long q3), .second, .val (.int p4), .val (.int sq), .val (.int so), .val (.int qq), .val (.long oo), .second, .unset, .unset, .unset, .unset, .unset, .unset, .unset, .unset] []))) (fun t k => XS.lstore X0.here hx rfl (hb hby at_51) rfl (l' := #[.val (.int p0), .val (.long q1), .second, .val (.int p2), .val (.long q3), .second, .val (.int p4), .val (.int sq), .val (.int so), .val (.int qq), .val (.long oo), .second, .unset, .unset, .unset, .unset, .unset, .unset, .unset, .unset]) rfl k) ?_
  obtain ⟨T5, h5, X5, e5, E5, A5, D5, -, st5⟩ := newO X0 hx hZ hown (hw _ (List.mem_of_getElem? (i := 0) rfl)) (hw _ (List.mem_of_getElem? (i := 1) rfl)) (hw _ (List.mem_of_getElem? (i := 2) rfl)) e0 (g := (mkF m 53 #[.val (.int p0), .val (.long q1), .second, .val (.int p2), .val (.long q3), .second, .val (.int p4), .val (.int sq), .val (.int so), .val (.int qq), .val (.long oo), .second, .unset, .unset, .unset, .unset, .unset, .unset, .unset, .unset] [])) rfl (hb hby at_53) (by decide) (by decide)
  obtain ⟨b5, g5⟩ : ∃ z, z = h0.size := ⟨_, rfl⟩
  rw [← g5] at A5 D5 st5
  have g_b5 : n0 ≤ b5 := Nat.le_trans Z0 (Nat.le_of_eq g5.symm)
  have Zs5 : n0 ≤ h5.size := Nat.le_trans Z0 E5.1
  have O5 := O0.ext E5
  have F_queue_b5 : Fld Z h5 b5 "com/example/usherd/usherd/Published" "queue" "I" (.int (0 : Int32)) := D5 (Or.inr (hw _ (List.mem_of_getElem? (i := 10) rfl))) (ty := .int) (by decide)
  have F_offset_b5 : Fld Z h5 b5 "com/example/usherd/usherd/Published" "offset" "J" (.long (0 : Int64)) := D5 (Or.inr (hw _ (List.mem_of_getElem? (i := 12) rfl))) (ty := .long) (by decide)
  refine own_go (B := (T5.setTop (mkF m 56 #[.val (.int p0), .val (.long q1), .second, .val (.int p2), .val (.long q3), .second, .val (.int p4), .val (.int sq), .val (.int so), .val (.int qq), .val (.long oo), .second, .unset, .unset, .unset, .unset, .unset, .unset, .unset, .unset] [(.ref b5)]))) (fun t k => st5 _ k) ?_
  refine own_go (B := (T5.setTop (mkF m 57 #[.val (.int p0), .val (.long q1), .second, .val (.int p2), .val (.long q3), .second, .val (.int p4), .val (.int sq), .val (.int so), .val (.int qq), .val (.long oo), .second, .unset, .unset, .unset, .unset, .unset, .unset, .unset, .unset] [(.ref b5), (.ref b5)]))) (fun t k => XS.dup X5.here hx rfl (hb hby at_56) rfl rfl k) ?_
  refine own_go (B := (T5.setTop (mkF m 58 #[.val (.int p0), .val (.long q1), .second, .val (.int p2), .val (.long q3), .second, .val (.int p4), .val (.int sq), .val (.int so), .val (.int qq), .val (.long oo), .second, .unset, .unset, .unset, .unset, .unset, .unset, .unset, .unset] [(.int p0), (.ref b5), (.ref b5)]))) (fun t k => XS.iloadN X5.here hx rfl (hb hby at_57) rfl k) ?_
  refine own_go (B := (T5.setTop (mkF m 59 #[.val (.int p0), .val (.long q1), .second, .val (.int p2), .val (.long q3), .second, .val (.int p4), .val (.int sq), .val (.int so), .val (.int qq), .val (.long oo), .second, .unset, .unset, .unset, .unset, .unset, .unset, .unset, .unset] [(.long q1), (.int p0), (.ref b5), (.ref b5)]))) (fun t k => XS.lloadN X5.here hx rfl (hb hby at_58) rfl k) ?_
  obtain ⟨_, _, ⟨T6, L6, k6, n6⟩, -, X6, ⟨Lc6, hQ6, l6, y6, z6⟩, st6⟩ := X5.specialBack hx (y := (⟨"com/example/usherd/usherd/Published", "<init>", "(IJ)V"⟩ : MethodName)) rfl hown (mvT hZ (hw _ (List.mem_of_getElem? (i := 3) rfl))) (mvT hZ (hw _ (List.mem_of_getElem? (i := 4) rfl))) (mvT hZ (hw _ (List.mem_of_getElem? (i := 5) rfl))) (by decide) (backOf (W := 1) (rm1 l Z ta hw [] b5 p0 q1  h5 n0 Zs5 A5 F_queue_b5 F_offset_b5 g_b5) hZ (hw _ (List.mem_of_getElem? (i := 5) rfl)) (hw _ (List.mem_of_getElem? (i := 2) rfl)) (by decide) (by decide)) (g := (mkF m 59 #[.val (.int p0), .val (.long q1), .second, .val (.int p2), .val (.long q3), .second, .val (.int p4), .val (.int sq), .val (.int so), .val (.int qq), .val (.long oo), .second, .unset, .unset, .unset, .unset, .unset, .unset, .unset, .unset] [(.long q1), (.int p0), (.ref b5), (.ref b5)])) rfl (by rw [hml]; rfl) (Steps.refl _) (a := b5) (argsL := [(.int p0), (.long q1)]) (rest := [(.ref b5)]) (lenOf pd_0_0 rfl) rfl (by show 2 * 0 + _ ≤ _; exact Nat.le_of_eq rfl) (hb hby at_59) (fun _ _ => ⟨rfl, e5, (by decide : (0 + 1) + 0 ≤ _), (by decide : (0 + 2) + 0 ≤ _)⟩)
  dsimp only [Pt.U, Pt.locs, Pt.cells, Pt.slots] at X6 l6 y6 z6 st6 hQ6
  subst l6 y6 z6
  obtain ⟨rfl, N6q, K6, Fq6_0, Fq6_1⟩ := hQ6
  have E_b5_6 := A5.keep K6
  have Zs6 : n0 ≤ T6.heap.size := Nat.le_trans Zs5 K6.1
  have O6 := O5.keep K6 (allS g_b5 all0)
  have N6 := Fr.app N0 N6q
  refine own_go (B := (T6.setTop (mkF m 62 #[.val (.int p0), .val (.long q1), .second, .val (.int p2), .val (.long q3), .second, .val (.int p4), .val (.int sq), .val (.int so), .val (.int qq), .val (.long oo), .second, .unset, .unset, .unset, .unset, .unset, .unset, .unset, .unset] [(.ref b5)]))) (fun t k => st6.trans k) ?_
  refine own_go (B := (T6.setTop (mkF m 64 #[.val (.int p0), .val (.long q1), .second, .val (.int p2), .val (.long q3), .second, .val (.int p4), .val (.int sq), .val (.int so), .val (.int qq), .val (.long oo), .second, .val (.ref b5), .unset, .unset, .unset, .unset, .unset, .unset, .unset] []))) (fun t k => XS.astore X6.here hx rfl (hb hby at_62) rfl rfl (l' := #[.val (.int p0), .val (.long q1), .second, .val (.int p2), .val (.long q3), .second, .val (.int p4), .val (.int sq), .val (.int so), .val (.int qq), .val (.long oo), .second, .val (.ref b5), .unset, .unset, .unset, .unset, .unset, .unset, .unset]) rfl k) ?_
  obtain ⟨T7, h7, X7, e7, E7, A7, D7, -, st7⟩ := newO X6 hx hZ hown (hw _ (List.mem_of_getElem? (i := 0) rfl)) (hw _ (List.mem_of_getElem? (i := 1) rfl)) (hw _ (List.mem_of_getElem? (i := 2) rfl)) rfl (g := (mkF m 64 #[.val (.int p0), .val (.long q1), .second, .val (.int p2), .val (.long q3), .second, .val (.int p4), .val (.int sq), .val (.int so), .val (.int qq), .val (.long oo), .second, .val (.ref b5), .unset, .unset, .unset, .unset, .unset, .unset, .unset] [])) rfl (hb hby at_64) (by decide) (by decide)
  obtain ⟨b7, g7⟩ : ∃ z, z = T6.heap.size := ⟨_, rfl⟩
  rw [← g7] at A7 D7 st7
  have ne_b5_b7 : b5 ≠ b7 := Nat.ne_of_lt (Nat.lt_of_lt_of_le E_b5_6.lt (Nat.le_of_eq g7.symm))
  have g_b7 : n0 ≤ b7 := Nat.le_trans Zs6 (Nat.le_of_eq g7.symm)
  have Zs7 : n0 ≤ h7.size := Nat.le_trans Zs6 E7.1
  have O7 := O6.ext E7
  have E_b5_7 := E_b5_6.ext E7
  have F_b5_queue_7 := Fq6_0.ext E7
  have F_b5_offset_7 := Fq6_1.ext E7
  have F_queue_b7 : Fld Z h7 b7 "com/example/usherd/usherd/Published" "queue" "I" (.int (0 : Int32)) := D7 (Or.inr (hw _ (List.mem_of_getElem? (i := 10) rfl))) (ty := .int) (by decide)
  have F_offset_b7 : Fld Z h7 b7 "com/example/usherd/usherd/Published" "offset" "J" (.long (0 : Int64)) := D7 (Or.inr (hw _ (List.mem_of_getElem? (i := 12) rfl))) (ty := .long) (by decide)
  refine own_go (B := (T7.setTop (mkF m 67 #[.val (.int p0), .val (.long q1), .second, .val (.int p2), .val (.long q3), .second, .val (.int p4), .val (.int sq), .val (.int so), .val (.int qq), .val (.long oo), .second, .val (.ref b5), .unset, .unset, .unset, .unset, .unset, .unset, .unset] [(.ref b7)]))) (fun t k => st7 _ k) ?_
  refine own_go (B := (T7.setTop (mkF m 68 #[.val (.int p0), .val (.long q1), .second, .val (.int p2), .val (.long q3), .second, .val (.int p4), .val (.int sq), .val (.int so), .val (.int qq), .val (.long oo), .second, .val (.ref b5), .unset, .unset, .unset, .unset, .unset, .unset, .unset] [(.ref b7), (.ref b7)]))) (fun t k => XS.dup X7.here hx rfl (hb hby at_67) rfl rfl k) ?_
  refine own_go (B := (T7.setTop (mkF m 70 #[.val (.int p0), .val (.long q1), .second, .val (.int p2), .val (.long q3), .second, .val (.int p4), .val (.int sq), .val (.int so), .val (.int qq), .val (.long oo), .second, .val (.ref b5), .unset, .unset, .unset, .unset, .unset, .unset, .unset] [(.int qq), (.ref b7), (.ref b7)]))) (fun t k => XS.iload X7.here hx rfl (hb hby at_68) rfl k) ?_
  refine own_go (B := (T7.setTop (mkF m 72 #[.val (.int p0), .val (.long q1), .second, .val (.int p2), .val (.long q3), .second, .val (.int p4), .val (.int sq), .val (.int so), .val (.int qq), .val (.long oo), .second, .val (.ref b5), .unset, .unset, .unset, .unset, .unset, .unset, .unset] [(.long oo), (.int qq), (.ref b7), (.ref b7)]))) (fun t k => XS.lload X7.here hx rfl (hb hby at_70) rfl k) ?_
  obtain ⟨_, _, ⟨T8, L8, k8, n8⟩, -, X8, ⟨Lc8, hQ8, l8, y8, z8⟩, st8⟩ := X7.specialBack hx (y := (⟨"com/example/usherd/usherd/Published", "<init>", "(IJ)V"⟩ : MethodName)) rfl hown (mvT hZ (hw _ (List.mem_of_getElem? (i := 3) rfl))) (mvT hZ (hw _ (List.mem_of_getElem? (i := 4) rfl))) (mvT hZ (hw _ (List.mem_of_getElem? (i := 5) rfl))) (by decide) (backOf (W := 1) (rm1 l Z ta hw [] b7 qq oo  h7 n0 Zs7 A7 F_queue_b7 F_offset_b7 g_b7) hZ (hw _ (List.mem_of_getElem? (i := 5) rfl)) (hw _ (List.mem_of_getElem? (i := 2) rfl)) (by decide) (by decide)) (g := (mkF m 72 #[.val (.int p0), .val (.long q1), .second, .val (.int p2), .val (.long q3), .second, .val (.int p4), .val (.int sq), .val (.int so), .val (.int qq), .val (.long oo), .second, .val (.ref b5), .unset, .unset, .unset, .unset, .unset, .unset, .unset] [(.long oo), (.int qq), (.ref b7), (.ref b7)])) rfl (by rw [hml]; rfl) (Steps.refl _) (a := b7) (argsL := [(.int qq), (.long oo)]) (rest := [(.ref b7)]) (lenOf pd_0_0 rfl) rfl (by show 2 * 0 + _ ≤ _; exact Nat.le_of_eq rfl) (hb hby at_72) (fun _ _ => ⟨rfl, e7, (by decide : (((0 + 1) + 0) + 1) + 0 ≤ _), (by decide : (((0 + 2) + 0) + 2) + 0 ≤ _)⟩)
  dsimp only [Pt.U, Pt.locs, Pt.cells, Pt.slots] at X8 l8 y8 z8 st8 hQ8
  subst l8 y8 z8
  obtain ⟨rfl, N8q, K8, Fq8_0, Fq8_1⟩ := hQ8
  have E_b5_8 := E_b5_7.keep K8
  have F_b5_queue_8 := F_b5_queue_7.keep K8 (ninS ne_b5_b7 nin0)
  have F_b5_offset_8 := F_b5_offset_7.keep K8 (ninS ne_b5_b7 nin0)
  have E_b7_8 := A7.keep K8
  have Zs8 : n0 ≤ T8.heap.size := Nat.le_trans Zs7 K8.1
  have O8 := O7.keep K8 (allS g_b7 all0)
  have N8 := Fr.app N6 N8q
  refine own_go (B := (T8.setTop (mkF m 75 #[.val (.int p0), .val (.long q1), .second, .val (.int p2), .val (.long q3), .second, .val (.int p4), .val (.int sq), .val (.int so), .val (.int qq), .val (.long oo), .second, .val (.ref b5), .unset, .unset, .unset, .unset, .unset, .unset, .unset] [(.ref b7)]))) (fun t k => st8.trans k) ?_
  refine own_go (B := (T8.setTop (mkF m 77 #[.val (.int p0), .val (.long q1), .second, .val (.int p2), .val (.long q3), .second, .val (.int p4), .val (.int sq), .val (.int so), .val (.int qq), .val (.long oo), .second, .val (.ref b5), .val (.ref b7), .unset, .unset, .unset, .unset, .unset, .unset] []))) (fun t k => XS.astore X8.here hx rfl (hb hby at_75) rfl rfl (l' := #[.val (.int p0), .val (.long q1), .second, .val (.int p2), .val (.long q3), .second, .val (.int p4), .val (.int sq), .val (.int so), .val (.int qq), .val (.long oo), .second, .val (.ref b5), .val (.ref b7), .unset, .unset, .unset, .unset, .unset, .unset]) rfl k) ?_
  refine own_go (B := (T8.setTop (mkF m 79 #[.val (.int p0), .val (.long q1), .second, .val (.int p2), .val (.long q3), .second, .val (.int p4), .val (.int sq), .val (.int so), .val (.int qq), .val (.long oo), .second, .val (.ref b5), .val (.ref b7), .unset, .unset, .unset, .unset, .unset, .unset] [(.int qq)]))) (fun t k => XS.iload X8.here hx rfl (hb hby at_77) rfl k) ?_
  refine own_go (B := (T8.setTop (mkF m 80 #[.val (.int p0), .val (.long q1), .second, .val (.int p2), .val (.long q3), .second, .val (.int p4), .val (.int sq), .val (.int so), .val (.int qq), .val (.long oo), .second, .val (.ref b5), .val (.ref b7), .unset, .unset, .unset, .unset, .unset, .unset] [(.int p0), (.int qq)]))) (fun t k => XS.iloadN X8.here hx rfl (hb hby at_79) rfl k) ?_
  by_cases hc80 : qq = p0
  · refine own_go (B := (T8.setTop (mkF m 83 #[.val (.int p0), .val (.long q1), .second, .val (.int p2), .val (.long q3), .second, .val (.int p4), .val (.int sq), .val (.int so), .val (.int qq), .val (.long oo), .second, .val (.ref b5), .val (.ref b7), .unset, .unset, .unset, .unset, .unset, .unset] []))) (fun t k => XS.icmpNo X8.here hx rfl (hb hby at_80) rfl (teq hc80).2 k) ?_
    refine own_go (B := (T8.setTop (mkF m 85 #[.val (.int p0), .val (.long q1), .second, .val (.int p2), .val (.long q3), .second, .val (.int p4), .val (.int sq), .val (.int so), .val (.int qq), .val (.long oo), .second, .val (.ref b5), .val (.ref b7), .unset, .unset, .unset, .unset, .unset, .unset] [(.long oo)]))) (fun t k => XS.lload X8.here hx rfl (hb hby at_83) rfl k) ?_
    refine own_go (B := (T8.setTop (mkF m 86 #[.val (.int p0), .val (.long q1), .second, .val (.int p2), .val (.long q3), .second, .val (.int p4), .val (.int sq), .val (.int so), .val (.int qq), .val (.long oo), .second, .val (.ref b5), .val (.ref b7), .unset, .unset, .unset, .unset, .unset, .unset] [(.long q1), (.long oo)]))) (fun t k => XS.lloadN X8.here hx rfl (hb hby at_85) rfl k) ?_
    refine own_go (B := (T8.setTop (mkF m 87 #[.val (.int p0), .val (.long q1), .second, .val (.int p2), .val (.long q3), .second, .val (.int p4), .val (.int sq), .val (.int so), .val (.int qq), .val (.long oo), .second, .val (.ref b5), .val (.ref b7), .unset, .unset, .unset, .unset, .unset, .unset] [(.int (lcmpW oo q1))]))) (fun t k => XS.lcmp X8.here hx rfl (hb hby at_86) rfl k) ?_
    by_cases hc87 : oo = q1
    · refine own_go (B := (T8.setTop (mkF m 90 #[.val (.int p0), .val (.long q1), .second, .val (.int p2), .val (.long q3), .second, .val (.int p4), .val (.int sq), .val (.int so), .val (.int qq), .val (.long oo), .second, .val (.ref b5), .val (.ref b7), .unset, .unset, .unset, .unset, .unset, .unset] []))) (fun t k => XS.ifNo X8.here hx rfl (hb hby at_87) rfl ((if0 _ _).trans (teq ((lw_eq _ _).mpr hc87)).2) k) ?_
      refine own_go (B := (T8.setTop (mkF m 91 #[.val (.int p0), .val (.long q1), .second, .val (.int p2), .val (.long q3), .second, .val (.int p4), .val (.int sq), .val (.int so), .val (.int qq), .val (.long oo), .second, .val (.ref b5), .val (.ref b7), .unset, .unset, .unset, .unset, .unset, .unset] [(.int (1 : Int32))]))) (fun t k => XS.iconst X8.here hx rfl (hb hby at_90) k) ?_
      refine own_go (B := (T8.setTop (mkF m 95 #[.val (.int p0), .val (.long q1), .second, .val (.int p2), .val (.long q3), .second, .val (.int p4), .val (.int sq), .val (.int so), .val (.int qq), .val (.long oo), .second, .val (.ref b5), .val (.ref b7), .unset, .unset, .unset, .unset, .unset, .unset] [(.int (1 : Int32))]))) (fun t k => XS.goto X8.here hx rfl (pc0 := 91) (pc' := 95) rfl (hb hby at_91) (by decide) (by decide) k) ?_
      refine own_go (B := (T8.setTop (mkF m 97 #[.val (.int p0), .val (.long q1), .second, .val (.int p2), .val (.long q3), .second, .val (.int p4), .val (.int sq), .val (.int so), .val (.int qq), .val (.long oo), .second, .val (.ref b5), .val (.ref b7), .val (.int (1 : Int32)), .unset, .unset, .unset, .unset, .unset] []))) (fun t k => XS.istore X8.here hx rfl (hb hby at_95) rfl (l' := #[.val (.int p0), .val (.long q1), .second, .val (.int p2), .val (.long q3), .second, .val (.int p4), .val (.int sq), .val (.int so), .val (.int qq), .val (.long oo), .second, .val (.ref b5), .val (.ref b7), .val (.int (1 : Int32)), .unset, .unset, .unset, .unset, .unset]) rfl k) ?_
      refine own_go (B := (T8.setTop (mkF m 99 #[.val (.int p0), .val (.long q1), .second, .val (.int p2), .val (.long q3), .second, .val (.int p4), .val (.int sq), .val (.int so), .val (.int qq), .val (.long oo), .second, .val (.ref b5), .val (.ref b7), .val (.int (1 : Int32)), .unset, .unset, .unset, .unset, .unset] [(.ref b5)]))) (fun t k => XS.aload X8.here hx rfl (hb hby at_97) rfl rfl k) ?_
      refine own_go (B := (T8.setTop (mkF m 101 #[.val (.int p0), .val (.long q1), .second, .val (.int p2), .val (.long q3), .second, .val (.int p4), .val (.int sq), .val (.int so), .val (.int qq), .val (.long oo), .second, .val (.ref b5), .val (.ref b7), .val (.int (1 : Int32)), .unset, .unset, .unset, .unset, .unset] [(.ref b7), (.ref b5)]))) (fun t k => XS.aload X8.here hx rfl (hb hby at_99) rfl rfl k) ?_
      obtain ⟨cq9, kq9, q9a, q9b, q9c⟩ := isOf hZ rfl E_b5_8
      obtain ⟨_, _, ⟨T9, L9, k9, n9⟩, -, X9, ⟨Lc9, hQ9, l9, y9, z9⟩, st9⟩ := X8.virtualBack hx (y := (⟨"com/example/usherd/usherd/Published", "equals", "(Ljava/lang/Object;)Z"⟩ : MethodName)) (z := (⟨"com/example/usherd/usherd/Published", "equals", "(Ljava/lang/Object;)Z"⟩ : MethodName)) hown (mvT hZ (hw _ (List.mem_of_getElem? (i := 13) rfl))) (mvT hZ (hw _ (List.mem_of_getElem? (i := 14) rfl))) (notFace_of_selects (args := #[]) (mvT hZ (hw _ (List.mem_of_getElem? (i := 16) rfl)))) (mvT hZ (hw _ (List.mem_of_getElem? (i := 16) rfl))) (mvT hZ (hw _ (List.mem_of_getElem? (i := 15) rfl))) (by decide) (backOf (W := 0) (rm3 l Z ta hw [] b5 b7 p0 q1 qq oo T8.heap n0 F_b5_queue_8 F_b5_offset_8 Fq8_0 Fq8_1 E_b7_8) hZ (hw _ (List.mem_of_getElem? (i := 17) rfl)) (hw _ (List.mem_of_getElem? (i := 2) rfl)) (by decide) (by decide)) q9a q9c (g := (mkF m 101 #[.val (.int p0), .val (.long q1), .second, .val (.int p2), .val (.long q3), .second, .val (.int p4), .val (.int sq), .val (.int so), .val (.int qq), .val (.long oo), .second, .val (.ref b5), .val (.ref b7), .val (.int (1 : Int32)), .unset, .unset, .unset, .unset, .unset] [(.ref b7), (.ref b5)])) rfl (by rw [hml]; rfl) (Steps.refl _) (argsL := [(.ref b7)]) (rest := []) (lenOf pd_0_1 rfl) rfl (by show 2 * 0 + _ ≤ _; exact Nat.le_of_eq rfl) (hb hby at_101) (fun _ _ => ⟨rfl, rfl, (by decide : ((((0 + 1) + 0) + 1) + 0) + 0 ≤ _), (by decide : ((((0 + 2) + 0) + 2) + 0) + 0 ≤ _)⟩)
      dsimp only [Pt.U, Pt.locs, Pt.cells, Pt.slots] at X9 l9 y9 z9 st9 hQ9
      subst l9 y9 z9
      obtain ⟨rfl, N9q, e9⟩ := hQ9
      replace e9 := e9
      have N9 := Fr.app N8 N9q
      refine own_go (B := (T9.setTop (mkF m 104 #[.val (.int p0), .val (.long q1), .second, .val (.int p2), .val (.long q3), .second, .val (.int p4), .val (.int sq), .val (.int so), .val (.int qq), .val (.long oo), .second, .val (.ref b5), .val (.ref b7), .val (.int (1 : Int32)), .unset, .unset, .unset, .unset, .unset] [(.int (F3 b5 b7 p0 q1 qq oo))]))) (fun t k => st9.trans k) ?_
      refine own_go (B := (T9.setTop (mkF m 106 #[.val (.int p0), .val (.long q1), .second, .val (.int p2), .val (.long q3), .second, .val (.int p4), .val (.int sq), .val (.int so), .val (.int qq), .val (.long oo), .second, .val (.ref b5), .val (.ref b7), .val (.int (1 : Int32)), .val (.int (F3 b5 b7 p0 q1 qq oo)), .unset, .unset, .unset, .unset] []))) (fun t k => XS.istore X9.here hx rfl (hb hby at_104) rfl (l' := #[.val (.int p0), .val (.long q1), .second, .val (.int p2), .val (.long q3), .second, .val (.int p4), .val (.int sq), .val (.int so), .val (.int qq), .val (.long oo), .second, .val (.ref b5), .val (.ref b7), .val (.int (1 : Int32)), .val (.int (F3 b5 b7 p0 q1 qq oo)), .unset, .unset, .unset, .unset]) rfl k) ?_
      refine own_go (B := (T9.setTop (mkF m 108 #[.val (.int p0), .val (.long q1), .second, .val (.int p2), .val (.long q3), .second, .val (.int p4), .val (.int sq), .val (.int so), .val (.int qq), .val (.long oo), .second, .val (.ref b5), .val (.ref b7), .val (.int (1 : Int32)), .val (.int (F3 b5 b7 p0 q1 qq oo)), .unset, .unset, .unset, .unset] [(.ref b7)]))) (fun t k => XS.aload X9.here hx rfl (hb hby at_106) rfl rfl k) ?_
      refine own_go (B := (T9.setTop (mkF m 110 #[.val (.int p0), .val (.long q1), .second, .val (.int p2), .val (.long q3), .second, .val (.int p4), .val (.int sq), .val (.int so), .val (.int qq), .val (.long oo), .second, .val (.ref b5), .val (.ref b7), .val (.int (1 : Int32)), .val (.int (F3 b5 b7 p0 q1 qq oo)), .unset, .unset, .unset, .unset] [(.ref b5), (.ref b7)]))) (fun t k => XS.aload X9.here hx rfl (hb hby at_108) rfl rfl k) ?_
      obtain ⟨cq10, kq10, q10a, q10b, q10c⟩ := isOf hZ e9 E_b7_8
      obtain ⟨_, _, ⟨T10, L10, k10, n10⟩, -, X10, ⟨Lc10, hQ10, l10, y10, z10⟩, st10⟩ := X9.virtualBack hx (y := (⟨"com/example/usherd/usherd/Published", "equals", "(Ljava/lang/Object;)Z"⟩ : MethodName)) (z := (⟨"com/example/usherd/usherd/Published", "equals", "(Ljava/lang/Object;)Z"⟩ : MethodName)) hown (mvT hZ (hw _ (List.mem_of_getElem? (i := 13) rfl))) (mvT hZ (hw _ (List.mem_of_getElem? (i := 14) rfl))) (notFace_of_selects (args := #[]) (mvT hZ (hw _ (List.mem_of_getElem? (i := 16) rfl)))) (mvT hZ (hw _ (List.mem_of_getElem? (i := 16) rfl))) (mvT hZ (hw _ (List.mem_of_getElem? (i := 15) rfl))) (by decide) (backOf (W := 0) (rm3 l Z ta hw [] b7 b5 qq oo p0 q1 T8.heap n0 Fq8_0 Fq8_1 F_b5_queue_8 F_b5_offset_8 E_b5_8) hZ (hw _ (List.mem_of_getElem? (i := 17) rfl)) (hw _ (List.mem_of_getElem? (i := 2) rfl)) (by decide) (by decide)) q10a q10c (g := (mkF m 110 #[.val (.int p0), .val (.long q1), .second, .val (.int p2), .val (.long q3), .second, .val (.int p4), .val (.int sq), .val (.int so), .val (.int qq), .val (.long oo), .second, .val (.ref b5), .val (.ref b7), .val (.int (1 : Int32)), .val (.int (F3 b5 b7 p0 q1 qq oo)), .unset, .unset, .unset, .unset] [(.ref b5), (.ref b7)])) rfl (by rw [hml]; rfl) (Steps.refl _) (argsL := [(.ref b5)]) (rest := []) (lenOf pd_0_1 rfl) rfl (by show 2 * 0 + _ ≤ _; exact Nat.le_of_eq rfl) (hb hby at_110) (fun _ _ => ⟨rfl, e9, (by decide : (((((0 + 1) + 0) + 1) + 0) + 0) + 0 ≤ _), (by decide : (((((0 + 2) + 0) + 2) + 0) + 0) + 0 ≤ _)⟩)
      dsimp only [Pt.U, Pt.locs, Pt.cells, Pt.slots] at X10 l10 y10 z10 st10 hQ10
      subst l10 y10 z10
      obtain ⟨rfl, N10q, e10⟩ := hQ10
      replace e10 := e10
      have N10 := Fr.app N9 N10q
      refine own_go (B := (T10.setTop (mkF m 113 #[.val (.int p0), .val (.long q1), .second, .val (.int p2), .val (.long q3), .second, .val (.int p4), .val (.int sq), .val (.int so), .val (.int qq), .val (.long oo), .second, .val (.ref b5), .val (.ref b7), .val (.int (1 : Int32)), .val (.int (F3 b5 b7 p0 q1 qq oo)), .unset, .unset, .unset, .unset] [(.int (F3 b7 b5 qq oo p0 q1))]))) (fun t k => st10.trans k) ?_
      refine own_go (B := (T10.setTop (mkF m 115 #[.val (.int p0), .val (.long q1), .second, .val (.int p2), .val (.long q3), .second, .val (.int p4), .val (.int sq), .val (.int so), .val (.int qq), .val (.long oo), .second, .val (.ref b5), .val (.ref b7), .val (.int (1 : Int32)), .val (.int (F3 b5 b7 p0 q1 qq oo)), .val (.int (F3 b7 b5 qq oo p0 q1)), .unset, .unset, .unset] []))) (fun t k => XS.istore X10.here hx rfl (hb hby at_113) rfl (l' := #[.val (.int p0), .val (.long q1), .second, .val (.int p2), .val (.long q3), .second, .val (.int p4), .val (.int sq), .val (.int so), .val (.int qq), .val (.long oo), .second, .val (.ref b5), .val (.ref b7), .val (.int (1 : Int32)), .val (.int (F3 b5 b7 p0 q1 qq oo)), .val (.int (F3 b7 b5 qq oo p0 q1)), .unset, .unset, .unset]) rfl k) ?_
      refine own_go (B := (T10.setTop (mkF m 117 #[.val (.int p0), .val (.long q1), .second, .val (.int p2), .val (.long q3), .second, .val (.int p4), .val (.int sq), .val (.int so), .val (.int qq), .val (.long oo), .second, .val (.ref b5), .val (.ref b7), .val (.int (1 : Int32)), .val (.int (F3 b5 b7 p0 q1 qq oo)), .val (.int (F3 b7 b5 qq oo p0 q1)), .unset, .unset, .unset] [(.ref b5)]))) (fun t k => XS.aload X10.here hx rfl (hb hby at_115) rfl rfl k) ?_
      refine own_go (B := (T10.setTop (mkF m 119 #[.val (.int p0), .val (.long q1), .second, .val (.int p2), .val (.long q3), .second, .val (.int p4), .val (.int sq), .val (.int so), .val (.int qq), .val (.long oo), .second, .val (.ref b5), .val (.ref b7), .val (.int (1 : Int32)), .val (.int (F3 b5 b7 p0 q1 qq oo)), .val (.int (F3 b7 b5 qq oo p0 q1)), .unset, .unset, .unset] [(.ref b5), (.ref b5)]))) (fun t k => XS.aload X10.here hx rfl (hb hby at_117) rfl rfl k) ?_
      obtain ⟨cq11, kq11, q11a, q11b, q11c⟩ := isOf hZ e10 E_b5_8
      obtain ⟨_, _, ⟨T11, L11, k11, n11⟩, -, X11, ⟨Lc11, hQ11, l11, y11, z11⟩, st11⟩ := X10.virtualBack hx (y := (⟨"com/example/usherd/usherd/Published", "equals", "(Ljava/lang/Object;)Z"⟩ : MethodName)) (z := (⟨"com/example/usherd/usherd/Published", "equals", "(Ljava/lang/Object;)Z"⟩ : MethodName)) hown (mvT hZ (hw _ (List.mem_of_getElem? (i := 13) rfl))) (mvT hZ (hw _ (List.mem_of_getElem? (i := 14) rfl))) (notFace_of_selects (args := #[]) (mvT hZ (hw _ (List.mem_of_getElem? (i := 16) rfl)))) (mvT hZ (hw _ (List.mem_of_getElem? (i := 16) rfl))) (mvT hZ (hw _ (List.mem_of_getElem? (i := 15) rfl))) (by decide) (backOf (W := 0) (rm3 l Z ta hw [] b5 b5 p0 q1 p0 q1 T8.heap n0 F_b5_queue_8 F_b5_offset_8 F_b5_queue_8 F_b5_offset_8 E_b5_8) hZ (hw _ (List.mem_of_getElem? (i := 17) rfl)) (hw _ (List.mem_of_getElem? (i := 2) rfl)) (by decide) (by decide)) q11a q11c (g := (mkF m 119 #[.val (.int p0), .val (.long q1), .second, .val (.int p2), .val (.long q3), .second, .val (.int p4), .val (.int sq), .val (.int so), .val (.int qq), .val (.long oo), .second, .val (.ref b5), .val (.ref b7), .val (.int (1 : Int32)), .val (.int (F3 b5 b7 p0 q1 qq oo)), .val (.int (F3 b7 b5 qq oo p0 q1)), .unset, .unset, .unset] [(.ref b5), (.ref b5)])) rfl (by rw [hml]; rfl) (Steps.refl _) (argsL := [(.ref b5)]) (rest := []) (lenOf pd_0_1 rfl) rfl (by show 2 * 0 + _ ≤ _; exact Nat.le_of_eq rfl) (hb hby at_119) (fun _ _ => ⟨rfl, e10, (by decide : ((((((0 + 1) + 0) + 1) + 0) + 0) + 0) + 0 ≤ _), (by decide : ((((((0 + 2) + 0) + 2) + 0) + 0) + 0) + 0 ≤ _)⟩)
      dsimp only [Pt.U, Pt.locs, Pt.cells, Pt.slots] at X11 l11 y11 z11 st11 hQ11
      subst l11 y11 z11
      obtain ⟨rfl, N11q, e11⟩ := hQ11
      replace e11 := e11
      have N11 := Fr.app N10 N11q
      refine own_go (B := (T11.setTop (mkF m 122 #[.val (.int p0), .val (.long q1), .second, .val (.int p2), .val (.long q3), .second, .val (.int p4), .val (.int sq), .val (.int so), .val (.int qq), .val (.long oo), .second, .val (.ref b5), .val (.ref b7), .val (.int (1 : Int32)), .val (.int (F3 b5 b7 p0 q1 qq oo)), .val (.int (F3 b7 b5 qq oo p0 q1)), .unset, .unset, .unset] [(.int (F3 b5 b5 p0 q1 p0 q1))]))) (fun t k => st11.trans k) ?_
      refine own_go (B := (T11.setTop (mkF m 124 #[.val (.int p0), .val (.long q1), .second, .val (.int p2), .val (.long q3), .second, .val (.int p4), .val (.int sq), .val (.int so), .val (.int qq), .val (.long oo), .second, .val (.ref b5), .val (.ref b7), .val (.int (1 : Int32)), .val (.int (F3 b5 b7 p0 q1 qq oo)), .val (.int (F3 b7 b5 qq oo p0 q1)), .val (.int (F3 b5 b5 p0 q1 p0 q1)), .unset, .unset] []))) (fun t k => XS.istore X11.here hx rfl (hb hby at_122) rfl (l' := #[.val (.int p0), .val (.long q1), .second, .val (.int p2), .val (.long q3), .second, .val (.int p4), .val (.int sq), .val (.int so), .val (.int qq), .val (.long oo), .second, .val (.ref b5), .val (.ref b7), .val (.int (1 : Int32)), .val (.int (F3 b5 b7 p0 q1 qq oo)), .val (.int (F3 b7 b5 qq oo p0 q1)), .val (.int (F3 b5 b5 p0 q1 p0 q1)), .unset, .unset]) rfl k) ?_
      refine own_go (B := (T11.setTop (mkF m 126 #[.val (.int p0), .val (.long q1), .second, .val (.int p2), .val (.long q3), .second, .val (.int p4), .val (.int sq), .val (.int so), .val (.int qq), .val (.long oo), .second, .val (.ref b5), .val (.ref b7), .val (.int (1 : Int32)), .val (.int (F3 b5 b7 p0 q1 qq oo)), .val (.int (F3 b7 b5 qq oo p0 q1)), .val (.int (F3 b5 b5 p0 q1 p0 q1)), .unset, .unset] [(.ref b5)]))) (fun t k => XS.aload X11.here hx rfl (hb hby at_124) rfl rfl k) ?_
      refine own_go (B := (T11.setTop (mkF m 127 #[.val (.int p0), .val (.long q1), .second, .val (.int p2), .val (.long q3), .second, .val (.int p4), .val (.int sq), .val (.int so), .val (.int qq), .val (.long oo), .second, .val (.ref b5), .val (.ref b7), .val (.int (1 : Int32)), .val (.int (F3 b5 b7 p0 q1 qq oo)), .val (.int (F3 b7 b5 qq oo p0 q1)), .val (.int (F3 b5 b5 p0 q1 p0 q1)), .unset, .unset] [.null, (.ref b5)]))) (fun t k => XS.aconstNull X11.here hx rfl (hb hby at_126) k) ?_
      obtain ⟨cq12, kq12, q12a, q12b, q12c⟩ := isOf hZ e11 E_b5_8
      obtain ⟨_, _, ⟨T12, L12, k12, n12⟩, -, X12, ⟨Lc12, hQ12, l12, y12, z12⟩, st12⟩ := X11.virtualBack hx (y := (⟨"com/example/usherd/usherd/Published", "equals", "(Ljava/lang/Object;)Z"⟩ : MethodName)) (z := (⟨"com/example/usherd/usherd/Published", "equals", "(Ljava/lang/Object;)Z"⟩ : MethodName)) hown (mvT hZ (hw _ (List.mem_of_getElem? (i := 13) rfl))) (mvT hZ (hw _ (List.mem_of_getElem? (i := 14) rfl))) (notFace_of_selects (args := #[]) (mvT hZ (hw _ (List.mem_of_getElem? (i := 16) rfl)))) (mvT hZ (hw _ (List.mem_of_getElem? (i := 16) rfl))) (mvT hZ (hw _ (List.mem_of_getElem? (i := 15) rfl))) (by decide) (backOf (W := 0) (rm3n l Z ta hw [] b5  T8.heap n0 ) hZ (hw _ (List.mem_of_getElem? (i := 17) rfl)) (hw _ (List.mem_of_getElem? (i := 2) rfl)) (by decide) (by decide)) q12a q12c (g := (mkF m 127 #[.val (.int p0), .val (.long q1), .second, .val (.int p2), .val (.long q3), .second, .val (.int p4), .val (.int sq), .val (.int so), .val (.int qq), .val (.long oo), .second, .val (.ref b5), .val (.ref b7), .val (.int (1 : Int32)), .val (.int (F3 b5 b7 p0 q1 qq oo)), .val (.int (F3 b7 b5 qq oo p0 q1)), .val (.int (F3 b5 b5 p0 q1 p0 q1)), .unset, .unset] [.null, (.ref b5)])) rfl (by rw [hml]; rfl) (Steps.refl _) (argsL := [.null]) (rest := []) (lenOf pd_0_1 rfl) rfl (by show 2 * 0 + _ ≤ _; exact Nat.le_of_eq rfl) (hb hby at_127) (fun _ _ => ⟨rfl, e11, (by decide : (((((((0 + 1) + 0) + 1) + 0) + 0) + 0) + 0) + 0 ≤ _), (by decide : (((((((0 + 2) + 0) + 2) + 0) + 0) + 0) + 0) + 0 ≤ _)⟩)
      dsimp only [Pt.U, Pt.locs, Pt.cells, Pt.slots] at X12 l12 y12 z12 st12 hQ12
      subst l12 y12 z12
      obtain ⟨rfl, N12q, e12⟩ := hQ12
      replace e12 := e12
      have N12 := Fr.app N11 N12q
      refine own_go (B := (T12.setTop (mkF m 130 #[.val (.int p0), .val (.long q1), .second, .val (.int p2), .val (.long q3), .second, .val (.int p4), .val (.int sq), .val (.int so), .val (.int qq), .val (.long oo), .second, .val (.ref b5), .val (.ref b7), .val (.int (1 : Int32)), .val (.int (F3 b5 b7 p0 q1 qq oo)), .val (.int (F3 b7 b5 qq oo p0 q1)), .val (.int (F3 b5 b5 p0 q1 p0 q1)), .unset, .unset] [(.int (0 : Int32))]))) (fun t k => st12.trans k) ?_
      refine own_go (B := (T12.setTop (mkF m 132 #[.val (.int p0), .val (.long q1), .second, .val (.int p2), .val (.long q3), .second, .val (.int p4), .val (.int sq), .val (.int so), .val (.int qq), .val (.long oo), .second, .val (.ref b5), .val (.ref b7), .val (.int (1 : Int32)), .val (.int (F3 b5 b7 p0 q1 qq oo)), .val (.int (F3 b7 b5 qq oo p0 q1)), .val (.int (F3 b5 b5 p0 q1 p0 q1)), .val (.int (0 : Int32)), .unset] []))) (fun t k => XS.istore X12.here hx rfl (hb hby at_130) rfl (l' := #[.val (.int p0), .val (.long q1), .second, .val (.int p2), .val (.long q3), .second, .val (.int p4), .val (.int sq), .val (.int so), .val (.int qq), .val (.long oo), .second, .val (.ref b5), .val (.ref b7), .val (.int (1 : Int32)), .val (.int (F3 b5 b7 p0 q1 qq oo)), .val (.int (F3 b7 b5 qq oo p0 q1)), .val (.int (F3 b5 b5 p0 q1 p0 q1)), .val (.int (0 : Int32)), .unset]) rfl k) ?_
      refine own_go (B := (T12.setTop (mkF m 134 #[.val (.int p0), .val (.long q1), .second, .val (.int p2), .val (.long q3), .second, .val (.int p4), .val (.int sq), .val (.int so), .val (.int qq), .val (.long oo), .second, .val (.ref b5), .val (.ref b7), .val (.int (1 : Int32)), .val (.int (F3 b5 b7 p0 q1 qq oo)), .val (.int (F3 b7 b5 qq oo p0 q1)), .val (.int (F3 b5 b5 p0 q1 p0 q1)), .val (.int (0 : Int32)), .unset] [(.ref b5)]))) (fun t k => XS.aload X12.here hx rfl (hb hby at_132) rfl rfl k) ?_
      refine own_go (B := (T12.setTop (mkF m 135 #[.val (.int p0), .val (.long q1), .second, .val (.int p2), .val (.long q3), .second, .val (.int p4), .val (.int sq), .val (.int so), .val (.int qq), .val (.long oo), .second, .val (.ref b5), .val (.ref b7), .val (.int (1 : Int32)), .val (.int (F3 b5 b7 p0 q1 qq oo)), .val (.int (F3 b7 b5 qq oo p0 q1)), .val (.int (F3 b5 b5 p0 q1 p0 q1)), .val (.int (0 : Int32)), .unset] [(.long q1), (.ref b5)]))) (fun t k => XS.lloadN X12.here hx rfl (hb hby at_134) rfl k) ?_
      obtain ⟨_, _, ⟨T13, L13, k13, n13⟩, -, X13, ⟨Lc13, hQ13, l13, y13, z13⟩, st13⟩ := Jvm.LawKit.callS X12 hx (y := (⟨"java/lang/Long", "valueOf", "(J)Ljava/lang/Long;"⟩ : MethodName)) hown (mvT hZ (hw _ (List.mem_of_getElem? (i := 20) rfl))) (mvT hZ (hw _ (List.mem_of_getElem? (i := 21) rfl))) (mvT hZ (hw _ (List.mem_of_getElem? (i := 22) rfl))) (mvT hZ (hw _ (List.mem_of_getElem? (i := 23) rfl))) (by decide) (backOf (W := 1) (rm4 l Z ta hw [] q1 ca cc vf T8.heap n0 Zs8 O8 Sc Bx) hZ (hw _ (List.mem_of_getElem? (i := 23) rfl)) (hw _ (List.mem_of_getElem? (i := 22) rfl)) (by decide) (by decide)) (g := (mkF m 135 #[.val (.int p0), .val (.long q1), .second, .val (.int p2), .val (.long q3), .second, .val (.int p4), .val (.int sq), .val (.int so), .val (.int qq), .val (.long oo), .second, .val (.ref b5), .val (.ref b7), .val (.int (1 : Int32)), .val (.int (F3 b5 b7 p0 q1 qq oo)), .val (.int (F3 b7 b5 qq oo p0 q1)), .val (.int (F3 b5 b5 p0 q1 p0 q1)), .val (.int (0 : Int32)), .unset] [(.long q1), (.ref b5)])) rfl (by rw [hml]; rfl) (argsL := [(.long q1)]) (rest := [(.ref b5)]) (lenOf pd_0_2 rfl) rfl (by show 2 * 0 + _ ≤ _; exact Nat.le_of_eq rfl) (hb hby at_135) (fun _ _ => ⟨rfl, e12, (by decide : ((((((((0 + 1) + 0) + 1) + 0) + 0) + 0) + 0) + 0) + 1 ≤ _), (by decide : ((((((((0 + 2) + 0) + 2) + 0) + 0) + 0) + 0) + 0) + 1 ≤ _)⟩)
      dsimp only [Pt.U, Pt.locs, Pt.cells, Pt.slots] at X13 l13 y13 z13 st13 hQ13
      subst l13 y13 z13
      obtain ⟨r13, rfl, N13q, K13, Er13⟩ := hQ13
      have E_b5_13 := E_b5_8.keep K13
      have F_b5_queue_13 := F_b5_queue_8.keep K13 nin0
      have F_b5_offset_13 := F_b5_offset_8.keep K13 nin0
      have E_b7_13 := E_b7_8.keep K13
      have F_b7_queue_13 := Fq8_0.keep K13 nin0
      have F_b7_offset_13 := Fq8_1.keep K13 nin0
      have Zs13 : n0 ≤ T13.heap.size := Nat.le_trans Zs8 K13.1
      have O13 := O8.keep K13 all0
      have N13 := Fr.app N12 N13q
      refine own_go (B := (T13.setTop (mkF m 138 #[.val (.int p0), .val (.long q1), .second, .val (.int p2), .val (.long q3), .second, .val (.int p4), .val (.int sq), .val (.int so), .val (.int qq), .val (.long oo), .second, .val (.ref b5), .val (.ref b7), .val (.int (1 : Int32)), .val (.int (F3 b5 b7 p0 q1 qq oo)), .val (.int (F3 b7 b5 qq oo p0 q1)), .val (.int (F3 b5 b5 p0 q1 p0 q1)), .val (.int (0 : Int32)), .unset] [(.ref r13), (.ref b5)]))) (fun t k => st13 _ k) ?_
      obtain ⟨cq14, kq14, q14a, q14b, q14c⟩ := isOf hZ rfl E_b5_13
      obtain ⟨_, _, ⟨T14, L14, k14, n14⟩, -, X14, ⟨Lc14, hQ14, l14, y14, z14⟩, st14⟩ := X13.virtualBack hx (y := (⟨"com/example/usherd/usherd/Published", "equals", "(Ljava/lang/Object;)Z"⟩ : MethodName)) (z := (⟨"com/example/usherd/usherd/Published", "equals", "(Ljava/lang/Object;)Z"⟩ : MethodName)) hown (mvT hZ (hw _ (List.mem_of_getElem? (i := 13) rfl))) (mvT hZ (hw _ (List.mem_of_getElem? (i := 14) rfl))) (notFace_of_selects (args := #[]) (mvT hZ (hw _ (List.mem_of_getElem? (i := 16) rfl)))) (mvT hZ (hw _ (List.mem_of_getElem? (i := 16) rfl))) (mvT hZ (hw _ (List.mem_of_getElem? (i := 15) rfl))) (by decide) (backOf (W := 0) (rm3l l Z ta hw [] b5 r13  T13.heap n0 Er13) hZ (hw _ (List.mem_of_getElem? (i := 17) rfl)) (hw _ (List.mem_of_getElem? (i := 2) rfl)) (by decide) (by decide)) q14a q14c (g := (mkF m 138 #[.val (.int p0), .val (.long q1), .second, .val (.int p2), .val (.long q3), .second, .val (.int p4), .val (.int sq), .val (.int so), .val (.int qq), .val (.long oo), .second, .val (.ref b5), .val (.ref b7), .val (.int (1 : Int32)), .val (.int (F3 b5 b7 p0 q1 qq oo)), .val (.int (F3 b7 b5 qq oo p0 q1)), .val (.int (F3 b5 b5 p0 q1 p0 q1)), .val (.int (0 : Int32)), .unset] [(.ref r13), (.ref b5)])) rfl (by rw [hml]; rfl) (Steps.refl _) (argsL := [(.ref r13)]) (rest := []) (lenOf pd_0_1 rfl) rfl (by show 2 * 0 + _ ≤ _; exact Nat.le_of_eq rfl) (hb hby at_138) (fun _ _ => ⟨rfl, rfl, (by decide : (((((((((0 + 1) + 0) + 1) + 0) + 0) + 0) + 0) + 0) + 1) + 0 ≤ _), (by decide : (((((((((0 + 2) + 0) + 2) + 0) + 0) + 0) + 0) + 0) + 1) + 0 ≤ _)⟩)
      dsimp only [Pt.U, Pt.locs, Pt.cells, Pt.slots] at X14 l14 y14 z14 st14 hQ14
      subst l14 y14 z14
      obtain ⟨rfl, N14q, e14⟩ := hQ14
      replace e14 := e14
      have N14 := Fr.app N13 N14q
      refine own_go (B := (T14.setTop (mkF m 141 #[.val (.int p0), .val (.long q1), .second, .val (.int p2), .val (.long q3), .second, .val (.int p4), .val (.int sq), .val (.int so), .val (.int qq), .val (.long oo), .second, .val (.ref b5), .val (.ref b7), .val (.int (1 : Int32)), .val (.int (F3 b5 b7 p0 q1 qq oo)), .val (.int (F3 b7 b5 qq oo p0 q1)), .val (.int (F3 b5 b5 p0 q1 p0 q1)), .val (.int (0 : Int32)), .unset] [(.int (0 : Int32))]))) (fun t k => st14.trans k) ?_
      refine own_go (B := (T14.setTop (mkF m 143 #[.val (.int p0), .val (.long q1), .second, .val (.int p2), .val (.long q3), .second, .val (.int p4), .val (.int sq), .val (.int so), .val (.int qq), .val (.long oo), .second, .val (.ref b5), .val (.ref b7), .val (.int (1 : Int32)), .val (.int (F3 b5 b7 p0 q1 qq oo)), .val (.int (F3 b7 b5 qq oo p0 q1)), .val (.int (F3 b5 b5 p0 q1 p0 q1)), .val (.int (0 : Int32)), .val (.int (0 : Int32))] []))) (fun t k => XS.istore X14.here hx rfl (hb hby at_141) rfl (l' := #[.val (.int p0), .val (.long q1), .second, .val (.int p2), .val (.long q3), .second, .val (.int p4), .val (.int sq), .val (.int so), .val (.int qq), .val (.long oo), .second, .val (.ref b5), .val (.ref b7), .val (.int (1 : Int32)), .val (.int (F3 b5 b7 p0 q1 qq oo)), .val (.int (F3 b7 b5 qq oo p0 q1)), .val (.int (F3 b5 b5 p0 q1 p0 q1)), .val (.int (0 : Int32)), .val (.int (0 : Int32))]) rfl k) ?_
      refine own_go (B := (T14.setTop (mkF m 145 #[.val (.int p0), .val (.long q1), .second, .val (.int p2), .val (.long q3), .second, .val (.int p4), .val (.int sq), .val (.int so), .val (.int qq), .val (.long oo), .second, .val (.ref b5), .val (.ref b7), .val (.int (1 : Int32)), .val (.int (F3 b5 b7 p0 q1 qq oo)), .val (.int (F3 b7 b5 qq oo p0 q1)), .val (.int (F3 b5 b5 p0 q1 p0 q1)), .val (.int (0 : Int32)), .val (.int (0 : Int32))] [(.int (F3 b5 b7 p0 q1 qq oo))]))) (fun t k => XS.iload X14.here hx rfl (hb hby at_143) rfl k) ?_
      refine own_go (B := (T14.setTop (mkF m 147 #[.val (.int p0), .val (.long q1), .second, .val (.int p2), .val (.long q3), .second, .val (.int p4), .val (.int sq), .val (.int so), .val (.int qq), .val (.long oo), .second, .val (.ref b5), .val (.ref b7), .val (.int (1 : Int32)), .val (.int (F3 b5 b7 p0 q1 qq oo)), .val (.int (F3 b7 b5 qq oo p0 q1)), .val (.int (F3 b5 b5 p0 q1 p0 q1)), .val (.int (0 : Int32)), .val (.int (0 : Int32))] [(.int (1 : Int32)), (.int (F3 b5 b7 p0 q1 qq oo))]))) (fun t k => XS.iload X14.here hx rfl (hb hby at_145) rfl k) ?_
      refine own_go (B := (T14.setTop (mkF m 150 #[.val (.int p0), .val (.long q1), .second, .val (.int p2), .val (.long q3), .second, .val (.int p4), .val (.int sq), .val (.int so), .val (.int qq), .val (.long oo), .second, .val (.ref b5), .val (.ref b7), .val (.int (1 : Int32)), .val (.int (F3 b5 b7 p0 q1 qq oo)), .val (.int (F3 b7 b5 qq oo p0 q1)), .val (.int (F3 b5 b5 p0 q1 p0 q1)), .val (.int (0 : Int32)), .val (.int (0 : Int32))] []))) (fun t k => XS.icmpNo X14.here hx rfl (hb hby at_147) rfl (teq (by simp [F3, hc80, hc87])).2 k) ?_
      refine own_go (B := (T14.setTop (mkF m 152 #[.val (.int p0), .val (.long q1), .second, .val (.int p2), .val (.long q3), .second, .val (.int p4), .val (.int sq), .val (.int so), .val (.int qq), .val (.long oo), .second, .val (.ref b5), .val (.ref b7), .val (.int (1 : Int32)), .val (.int (F3 b5 b7 p0 q1 qq oo)), .val (.int (F3 b7 b5 qq oo p0 q1)), .val (.int (F3 b5 b5 p0 q1 p0 q1)), .val (.int (0 : Int32)), .val (.int (0 : Int32))] [(.int (F3 b7 b5 qq oo p0 q1))]))) (fun t k => XS.iload X14.here hx rfl (hb hby at_150) rfl k) ?_
      refine own_go (B := (T14.setTop (mkF m 154 #[.val (.int p0), .val (.long q1), .second, .val (.int p2), .val (.long q3), .second, .val (.int p4), .val (.int sq), .val (.int so), .val (.int qq), .val (.long oo), .second, .val (.ref b5), .val (.ref b7), .val (.int (1 : Int32)), .val (.int (F3 b5 b7 p0 q1 qq oo)), .val (.int (F3 b7 b5 qq oo p0 q1)), .val (.int (F3 b5 b5 p0 q1 p0 q1)), .val (.int (0 : Int32)), .val (.int (0 : Int32))] [(.int (1 : Int32)), (.int (F3 b7 b5 qq oo p0 q1))]))) (fun t k => XS.iload X14.here hx rfl (hb hby at_152) rfl k) ?_
      refine own_go (B := (T14.setTop (mkF m 157 #[.val (.int p0), .val (.long q1), .second, .val (.int p2), .val (.long q3), .second, .val (.int p4), .val (.int sq), .val (.int so), .val (.int qq), .val (.long oo), .second, .val (.ref b5), .val (.ref b7), .val (.int (1 : Int32)), .val (.int (F3 b5 b7 p0 q1 qq oo)), .val (.int (F3 b7 b5 qq oo p0 q1)), .val (.int (F3 b5 b5 p0 q1 p0 q1)), .val (.int (0 : Int32)), .val (.int (0 : Int32))] []))) (fun t k => XS.icmpNo X14.here hx rfl (hb hby at_154) rfl (teq (by simp [F3, hc80, hc87])).2 k) ?_
      refine own_go (B := (T14.setTop (mkF m 159 #[.val (.int p0), .val (.long q1), .second, .val (.int p2), .val (.long q3), .second, .val (.int p4), .val (.int sq), .val (.int so), .val (.int qq), .val (.long oo), .second, .val (.ref b5), .val (.ref b7), .val (.int (1 : Int32)), .val (.int (F3 b5 b7 p0 q1 qq oo)), .val (.int (F3 b7 b5 qq oo p0 q1)), .val (.int (F3 b5 b5 p0 q1 p0 q1)), .val (.int (0 : Int32)), .val (.int (0 : Int32))] [(.int (F3 b5 b5 p0 q1 p0 q1))]))) (fun t k => XS.iload X14.here hx rfl (hb hby at_157) rfl k) ?_
      refine own_go (B := (T14.setTop (mkF m 162 #[.val (.int p0), .val (.long q1), .second, .val (.int p2), .val (.long q3), .second, .val (.int p4), .val (.int sq), .val (.int so), .val (.int qq), .val (.long oo), .second, .val (.ref b5), .val (.ref b7), .val (.int (1 : Int32)), .val (.int (F3 b5 b7 p0 q1 qq oo)), .val (.int (F3 b7 b5 qq oo p0 q1)), .val (.int (F3 b5 b5 p0 q1 p0 q1)), .val (.int (0 : Int32)), .val (.int (0 : Int32))] []))) (fun t k => XS.ifNo X14.here hx rfl (hb hby at_159) rfl ((if0 _ _).trans (feq (by simp [F3])).1) k) ?_
      refine own_go (B := (T14.setTop (mkF m 164 #[.val (.int p0), .val (.long q1), .second, .val (.int p2), .val (.long q3), .second, .val (.int p4), .val (.int sq), .val (.int so), .val (.int qq), .val (.long oo), .second, .val (.ref b5), .val (.ref b7), .val (.int (1 : Int32)), .val (.int (F3 b5 b7 p0 q1 qq oo)), .val (.int (F3 b7 b5 qq oo p0 q1)), .val (.int (F3 b5 b5 p0 q1 p0 q1)), .val (.int (0 : Int32)), .val (.int (0 : Int32))] [(.int (0 : Int32))]))) (fun t k => XS.iload X14.here hx rfl (hb hby at_162) rfl k) ?_
      refine own_go (B := (T14.setTop (mkF m 167 #[.val (.int p0), .val (.long q1), .second, .val (.int p2), .val (.long q3), .second, .val (.int p4), .val (.int sq), .val (.int so), .val (.int qq), .val (.long oo), .second, .val (.ref b5), .val (.ref b7), .val (.int (1 : Int32)), .val (.int (F3 b5 b7 p0 q1 qq oo)), .val (.int (F3 b7 b5 qq oo p0 q1)), .val (.int (F3 b5 b5 p0 q1 p0 q1)), .val (.int (0 : Int32)), .val (.int (0 : Int32))] []))) (fun t k => XS.ifNo X14.here hx rfl (hb hby at_164) rfl ((if0 _ _).trans (teq (by decide)).2) k) ?_
      refine own_go (B := (T14.setTop (mkF m 169 #[.val (.int p0), .val (.long q1), .second, .val (.int p2), .val (.long q3), .second, .val (.int p4), .val (.int sq), .val (.int so), .val (.int qq), .val (.long oo), .second, .val (.ref b5), .val (.ref b7), .val (.int (1 : Int32)), .val (.int (F3 b5 b7 p0 q1 qq oo)), .val (.int (F3 b7 b5 qq oo p0 q1)), .val (.int (F3 b5 b5 p0 q1 p0 q1)), .val (.int (0 : Int32)), .val (.int (0 : Int32))] [(.int (0 : Int32))]))) (fun t k => XS.iload X14.here hx rfl (hb hby at_167) rfl k) ?_
      refine own_go (B := (T14.setTop (mkF m 172 #[.val (.int p0), .val (.long q1), .second, .val (.int p2), .val (.long q3), .second, .val (.int p4), .val (.int sq), .val (.int so), .val (.int qq), .val (.long oo), .second, .val (.ref b5), .val (.ref b7), .val (.int (1 : Int32)), .val (.int (F3 b5 b7 p0 q1 qq oo)), .val (.int (F3 b7 b5 qq oo p0 q1)), .val (.int (F3 b5 b5 p0 q1 p0 q1)), .val (.int (0 : Int32)), .val (.int (0 : Int32))] []))) (fun t k => XS.ifNo X14.here hx rfl (hb hby at_169) rfl ((if0 _ _).trans (teq (by decide)).2) k) ?_
      refine own_go (B := (T14.setTop (mkF m 173 #[.val (.int p0), .val (.long q1), .second, .val (.int p2), .val (.long q3), .second, .val (.int p4), .val (.int sq), .val (.int so), .val (.int qq), .val (.long oo), .second, .val (.ref b5), .val (.ref b7), .val (.int (1 : Int32)), .val (.int (F3 b5 b7 p0 q1 qq oo)), .val (.int (F3 b7 b5 qq oo p0 q1)), .val (.int (F3 b5 b5 p0 q1 p0 q1)), .val (.int (0 : Int32)), .val (.int (0 : Int32))] [(.int (1 : Int32))]))) (fun t k => XS.iconst X14.here hx rfl (hb hby at_172) k) ?_
      refine own_go (B := (T14.setTop (mkF m 177 #[.val (.int p0), .val (.long q1), .second, .val (.int p2), .val (.long q3), .second, .val (.int p4), .val (.int sq), .val (.int so), .val (.int qq), .val (.long oo), .second, .val (.ref b5), .val (.ref b7), .val (.int (1 : Int32)), .val (.int (F3 b5 b7 p0 q1 qq oo)), .val (.int (F3 b7 b5 qq oo p0 q1)), .val (.int (F3 b5 b5 p0 q1 p0 q1)), .val (.int (0 : Int32)), .val (.int (0 : Int32))] [(.int (1 : Int32))]))) (fun t k => XS.goto X14.here hx rfl (pc0 := 173) (pc' := 177) rfl (hb hby at_173) (by decide) (by decide) k) ?_
      obtain ⟨fs, hr, hrun, hended, hW, hsame⟩ := X14.leave (v := some (.int (1 : Int32))) (fun h => by rw [Bd.returns] at h; cases h)
      exact ⟨_, _, retN X14 hx (t := .boolean) Bd.returns (by simp) (hb hby at_177) hr, hrun, hended, _, _, rfl, ⟨rfl, N14⟩, ⟨_, rfl⟩, hW, hsame.mono (by decide) (by decide)⟩
    · refine own_go (B := (T8.setTop (mkF m 94 #[.val (.int p0), .val (.long q1), .second, .val (.int p2), .val (.long q3), .second, .val (.int p4), .val (.int sq), .val (.int so), .val (.int qq), .val (.long oo), .second, .val (.ref b5), .val (.ref b7), .unset, .unset, .unset, .unset, .unset, .unset] []))) (fun t k => XS.ifYes X8.here hx rfl (pc0 := 87) (pc' := 94) rfl (hb hby at_87) rfl ((if0 _ _).trans (feq (fun z => hc87 ((lw_eq _ _).mp z))).2) (by decide) (by decide) k) ?_
      refine own_go (B := (T8.setTop (mkF m 95 #[.val (.int p0), .val (.long q1), .second, .val (.int p2), .val (.long q3), .second, .val (.int p4), .val (.int sq), .val (.int so), .val (.int qq), .val (.long oo), .second, .val (.ref b5), .val (.ref b7), .unset, .unset, .unset, .unset, .unset, .unset] [(.int (0 : Int32))]))) (fun t k => XS.iconst X8.here hx rfl (hb hby at_94) k) ?_
      refine own_go (B := (T8.setTop (mkF m 97 #[.val (.int p0), .val (.long q1), .second, .val (.int p2), .val (.long q3), .second, .val (.int p4), .val (.int sq), .val (.int so), .val (.int qq), .val (.long oo), .second, .val (.ref b5), .val (.ref b7), .val (.int (0 : Int32)), .unset, .unset, .unset, .unset, .unset] []))) (fun t k => XS.istore X8.here hx rfl (hb hby at_95) rfl (l' := #[.val (.int p0), .val (.long q1), .second, .val (.int p2), .val (.long q3), .second, .val (.int p4), .val (.int sq), .val (.int so), .val (.int qq), .val (.long oo), .second, .val (.ref b5), .val (.ref b7), .val (.int (0 : Int32)), .unset, .unset, .unset, .unset, .unset]) rfl k) ?_
      refine own_go (B := (T8.setTop (mkF m 99 #[.val (.int p0), .val (.long q1), .second, .val (.int p2), .val (.long q3), .second, .val (.int p4), .val (.int sq), .val (.int so), .val (.int qq), .val (.long oo), .second, .val (.ref b5), .val (.ref b7), .val (.int (0 : Int32)), .unset, .unset, .unset, .unset, .unset] [(.ref b5)]))) (fun t k => XS.aload X8.here hx rfl (hb hby at_97) rfl rfl k) ?_
      refine own_go (B := (T8.setTop (mkF m 101 #[.val (.int p0), .val (.long q1), .second, .val (.int p2), .val (.long q3), .second, .val (.int p4), .val (.int sq), .val (.int so), .val (.int qq), .val (.long oo), .second, .val (.ref b5), .val (.ref b7), .val (.int (0 : Int32)), .unset, .unset, .unset, .unset, .unset] [(.ref b7), (.ref b5)]))) (fun t k => XS.aload X8.here hx rfl (hb hby at_99) rfl rfl k) ?_
      obtain ⟨cq15, kq15, q15a, q15b, q15c⟩ := isOf hZ rfl E_b5_8
      obtain ⟨_, _, ⟨T15, L15, k15, n15⟩, -, X15, ⟨Lc15, hQ15, l15, y15, z15⟩, st15⟩ := X8.virtualBack hx (y := (⟨"com/example/usherd/usherd/Published", "equals", "(Ljava/lang/Object;)Z"⟩ : MethodName)) (z := (⟨"com/example/usherd/usherd/Published", "equals", "(Ljava/lang/Object;)Z"⟩ : MethodName)) hown (mvT hZ (hw _ (List.mem_of_getElem? (i := 13) rfl))) (mvT hZ (hw _ (List.mem_of_getElem? (i := 14) rfl))) (notFace_of_selects (args := #[]) (mvT hZ (hw _ (List.mem_of_getElem? (i := 16) rfl)))) (mvT hZ (hw _ (List.mem_of_getElem? (i := 16) rfl))) (mvT hZ (hw _ (List.mem_of_getElem? (i := 15) rfl))) (by decide) (backOf (W := 0) (rm3 l Z ta hw [] b5 b7 p0 q1 qq oo T8.heap n0 F_b5_queue_8 F_b5_offset_8 Fq8_0 Fq8_1 E_b7_8) hZ (hw _ (List.mem_of_getElem? (i := 17) rfl)) (hw _ (List.mem_of_getElem? (i := 2) rfl)) (by decide) (by decide)) q15a q15c (g := (mkF m 101 #[.val (.int p0), .val (.long q1), .second, .val (.int p2), .val (.long q3), .second, .val (.int p4), .val (.int sq), .val (.int so), .val (.int qq), .val (.long oo), .second, .val (.ref b5), .val (.ref b7), .val (.int (0 : Int32)), .unset, .unset, .unset, .unset, .unset] [(.ref b7), (.ref b5)])) rfl (by rw [hml]; rfl) (Steps.refl _) (argsL := [(.ref b7)]) (rest := []) (lenOf pd_0_1 rfl) rfl (by show 2 * 0 + _ ≤ _; exact Nat.le_of_eq rfl) (hb hby at_101) (fun _ _ => ⟨rfl, rfl, (by decide : ((((0 + 1) + 0) + 1) + 0) + 0 ≤ _), (by decide : ((((0 + 2) + 0) + 2) + 0) + 0 ≤ _)⟩)
      dsimp only [Pt.U, Pt.locs, Pt.cells, Pt.slots] at X15 l15 y15 z15 st15 hQ15
      subst l15 y15 z15
      obtain ⟨rfl, N15q, e15⟩ := hQ15
      replace e15 := e15
      have N15 := Fr.app N8 N15q
      refine own_go (B := (T15.setTop (mkF m 104 #[.val (.int p0), .val (.long q1), .second, .val (.int p2), .val (.long q3), .second, .val (.int p4), .val (.int sq), .val (.int so), .val (.int qq), .val (.long oo), .second, .val (.ref b5), .val (.ref b7), .val (.int (0 : Int32)), .unset, .unset, .unset, .unset, .unset] [(.int (F3 b5 b7 p0 q1 qq oo))]))) (fun t k => st15.trans k) ?_
      refine own_go (B := (T15.setTop (mkF m 106 #[.val (.int p0), .val (.long q1), .second, .val (.int p2), .val (.long q3), .second, .val (.int p4), .val (.int sq), .val (.int so), .val (.int qq), .val (.long oo), .second, .val (.ref b5), .val (.ref b7), .val (.int (0 : Int32)), .val (.int (F3 b5 b7 p0 q1 qq oo)), .unset, .unset, .unset, .unset] []))) (fun t k => XS.istore X15.here hx rfl (hb hby at_104) rfl (l' := #[.val (.int p0), .val (.long q1), .second, .val (.int p2), .val (.long q3), .second, .val (.int p4), .val (.int sq), .val (.int so), .val (.int qq), .val (.long oo), .second, .val (.ref b5), .val (.ref b7), .val (.int (0 : Int32)), .val (.int (F3 b5 b7 p0 q1 qq oo)), .unset, .unset, .unset, .unset]) rfl k) ?_
      refine own_go (B := (T15.setTop (mkF m 108 #[.val (.int p0), .val (.long q1), .second, .val (.int p2), .val (.long q3), .second, .val (.int p4), .val (.int sq), .val (.int so), .val (.int qq), .val (.long oo), .second, .val (.ref b5), .val (.ref b7), .val (.int (0 : Int32)), .val (.int (F3 b5 b7 p0 q1 qq oo)), .unset, .unset, .unset, .unset] [(.ref b7)]))) (fun t k => XS.aload X15.here hx rfl (hb hby at_106) rfl rfl k) ?_
      refine own_go (B := (T15.setTop (mkF m 110 #[.val (.int p0), .val (.long q1), .second, .val (.int p2), .val (.long q3), .second, .val (.int p4), .val (.int sq), .val (.int so), .val (.int qq), .val (.long oo), .second, .val (.ref b5), .val (.ref b7), .val (.int (0 : Int32)), .val (.int (F3 b5 b7 p0 q1 qq oo)), .unset, .unset, .unset, .unset] [(.ref b5), (.ref b7)]))) (fun t k => XS.aload X15.here hx rfl (hb hby at_108) rfl rfl k) ?_
      obtain ⟨cq16, kq16, q16a, q16b, q16c⟩ := isOf hZ e15 E_b7_8
      obtain ⟨_, _, ⟨T16, L16, k16, n16⟩, -, X16, ⟨Lc16, hQ16, l16, y16, z16⟩, st16⟩ := X15.virtualBack hx (y := (⟨"com/example/usherd/usherd/Published", "equals", "(Ljava/lang/Object;)Z"⟩ : MethodName)) (z := (⟨"com/example/usherd/usherd/Published", "equals", "(Ljava/lang/Object;)Z"⟩ : MethodName)) hown (mvT hZ (hw _ (List.mem_of_getElem? (i := 13) rfl))) (mvT hZ (hw _ (List.mem_of_getElem? (i := 14) rfl))) (notFace_of_selects (args := #[]) (mvT hZ (hw _ (List.mem_of_getElem? (i := 16) rfl)))) (mvT hZ (hw _ (List.mem_of_getElem? (i := 16) rfl))) (mvT hZ (hw _ (List.mem_of_getElem? (i := 15) rfl))) (by decide) (backOf (W := 0) (rm3 l Z ta hw [] b7 b5 qq oo p0 q1 T8.heap n0 Fq8_0 Fq8_1 F_b5_queue_8 F_b5_offset_8 E_b5_8) hZ (hw _ (List.mem_of_getElem? (i := 17) rfl)) (hw _ (List.mem_of_getElem? (i := 2) rfl)) (by decide) (by decide)) q16a q16c (g := (mkF m 110 #[.val (.int p0), .val (.long q1), .second, .val (.int p2), .val (.long q3), .second, .val (.int p4), .val (.int sq), .val (.int so), .val (.int qq), .val (.long oo), .second, .val (.ref b5), .val (.ref b7), .val (.int (0 : Int32)), .val (.int (F3 b5 b7 p0 q1 qq oo)), .unset, .unset, .unset, .unset] [(.ref b5), (.ref b7)])) rfl (by rw [hml]; rfl) (Steps.refl _) (argsL := [(.ref b5)]) (rest := []) (lenOf pd_0_1 rfl) rfl (by show 2 * 0 + _ ≤ _; exact Nat.le_of_eq rfl) (hb hby at_110) (fun _ _ => ⟨rfl, e15, (by decide : (((((0 + 1) + 0) + 1) + 0) + 0) + 0 ≤ _), (by decide : (((((0 + 2) + 0) + 2) + 0) + 0) + 0 ≤ _)⟩)
      dsimp only [Pt.U, Pt.locs, Pt.cells, Pt.slots] at X16 l16 y16 z16 st16 hQ16
      subst l16 y16 z16
      obtain ⟨rfl, N16q, e16⟩ := hQ16
      replace e16 := e16
      have N16 := Fr.app N15 N16q
      refine own_go (B := (T16.setTop (mkF m 113 #[.val (.int p0), .val (.long q1), .second, .val (.int p2), .val (.long q3), .second, .val (.int p4), .val (.int sq), .val (.int so), .val (.int qq), .val (.long oo), .second, .val (.ref b5), .val (.ref b7), .val (.int (0 : Int32)), .val (.int (F3 b5 b7 p0 q1 qq oo)), .unset, .unset, .unset, .unset] [(.int (F3 b7 b5 qq oo p0 q1))]))) (fun t k => st16.trans k) ?_
      refine own_go (B := (T16.setTop (mkF m 115 #[.val (.int p0), .val (.long q1), .second, .val (.int p2), .val (.long q3), .second, .val (.int p4), .val (.int sq), .val (.int so), .val (.int qq), .val (.long oo), .second, .val (.ref b5), .val (.ref b7), .val (.int (0 : Int32)), .val (.int (F3 b5 b7 p0 q1 qq oo)), .val (.int (F3 b7 b5 qq oo p0 q1)), .unset, .unset, .unset] []))) (fun t k => XS.istore X16.here hx rfl (hb hby at_113) rfl (l' := #[.val (.int p0), .val (.long q1), .second, .val (.int p2), .val (.long q3), .second, .val (.int p4), .val (.int sq), .val (.int so), .val (.int qq), .val (.long oo), .second, .val (.ref b5), .val (.ref b7), .val (.int (0 : Int32)), .val (.int (F3 b5 b7 p0 q1 qq oo)), .val (.int (F3 b7 b5 qq oo p0 q1)), .unset, .unset, .unset]) rfl k) ?_
      refine own_go (B := (T16.setTop (mkF m 117 #[.val (.int p0), .val (.long q1), .second, .val (.int p2), .val (.long q3), .second, .val (.int p4), .val (.int sq), .val (.int so), .val (.int qq), .val (.long oo), .second, .val (.ref b5), .val (.ref b7), .val (.int (0 : Int32)), .val (.int (F3 b5 b7 p0 q1 qq oo)), .val (.int (F3 b7 b5 qq oo p0 q1)), .unset, .unset, .unset] [(.ref b5)]))) (fun t k => XS.aload X16.here hx rfl (hb hby at_115) rfl rfl k) ?_
      refine own_go (B := (T16.setTop (mkF m 119 #[.val (.int p0), .val (.long q1), .second, .val (.int p2), .val (.long q3), .second, .val (.int p4), .val (.int sq), .val (.int so), .val (.int qq), .val (.long oo), .second, .val (.ref b5), .val (.ref b7), .val (.int (0 : Int32)), .val (.int (F3 b5 b7 p0 q1 qq oo)), .val (.int (F3 b7 b5 qq oo p0 q1)), .unset, .unset, .unset] [(.ref b5), (.ref b5)]))) (fun t k => XS.aload X16.here hx rfl (hb hby at_117) rfl rfl k) ?_
      obtain ⟨cq17, kq17, q17a, q17b, q17c⟩ := isOf hZ e16 E_b5_8
      obtain ⟨_, _, ⟨T17, L17, k17, n17⟩, -, X17, ⟨Lc17, hQ17, l17, y17, z17⟩, st17⟩ := X16.virtualBack hx (y := (⟨"com/example/usherd/usherd/Published", "equals", "(Ljava/lang/Object;)Z"⟩ : MethodName)) (z := (⟨"com/example/usherd/usherd/Published", "equals", "(Ljava/lang/Object;)Z"⟩ : MethodName)) hown (mvT hZ (hw _ (List.mem_of_getElem? (i := 13) rfl))) (mvT hZ (hw _ (List.mem_of_getElem? (i := 14) rfl))) (notFace_of_selects (args := #[]) (mvT hZ (hw _ (List.mem_of_getElem? (i := 16) rfl)))) (mvT hZ (hw _ (List.mem_of_getElem? (i := 16) rfl))) (mvT hZ (hw _ (List.mem_of_getElem? (i := 15) rfl))) (by decide) (backOf (W := 0) (rm3 l Z ta hw [] b5 b5 p0 q1 p0 q1 T8.heap n0 F_b5_queue_8 F_b5_offset_8 F_b5_queue_8 F_b5_offset_8 E_b5_8) hZ (hw _ (List.mem_of_getElem? (i := 17) rfl)) (hw _ (List.mem_of_getElem? (i := 2) rfl)) (by decide) (by decide)) q17a q17c (g := (mkF m 119 #[.val (.int p0), .val (.long q1), .second, .val (.int p2), .val (.long q3), .second, .val (.int p4), .val (.int sq), .val (.int so), .val (.int qq), .val (.long oo), .second, .val (.ref b5), .val (.ref b7), .val (.int (0 : Int32)), .val (.int (F3 b5 b7 p0 q1 qq oo)), .val (.int (F3 b7 b5 qq oo p0 q1)), .unset, .unset, .unset] [(.ref b5), (.ref b5)])) rfl (by rw [hml]; rfl) (Steps.refl _) (argsL := [(.ref b5)]) (rest := []) (lenOf pd_0_1 rfl) rfl (by show 2 * 0 + _ ≤ _; exact Nat.le_of_eq rfl) (hb hby at_119) (fun _ _ => ⟨rfl, e16, (by decide : ((((((0 + 1) + 0) + 1) + 0) + 0) + 0) + 0 ≤ _), (by decide : ((((((0 + 2) + 0) + 2) + 0) + 0) + 0) + 0 ≤ _)⟩)
      dsimp only [Pt.U, Pt.locs, Pt.cells, Pt.slots] at X17 l17 y17 z17 st17 hQ17
      subst l17 y17 z17
      obtain ⟨rfl, N17q, e17⟩ := hQ17
      replace e17 := e17
      have N17 := Fr.app N16 N17q
      refine own_go (B := (T17.setTop (mkF m 122 #[.val (.int p0), .val (.long q1), .second, .val (.int p2), .val (.long q3), .second, .val (.int p4), .val (.int sq), .val (.int so), .val (.int qq), .val (.long oo), .second, .val (.ref b5), .val (.ref b7), .val (.int (0 : Int32)), .val (.int (F3 b5 b7 p0 q1 qq oo)), .val (.int (F3 b7 b5 qq oo p0 q1)), .unset, .unset, .unset] [(.int (F3 b5 b5 p0 q1 p0 q1))]))) (fun t k => st17.trans k) ?_
      refine own_go (B := (T17.setTop (mkF m 124 #[.val (.int p0), .val (.long q1), .second, .val (.int p2), .val (.long q3), .second, .val (.int p4), .val (.int sq), .val (.int so), .val (.int qq), .val (.long oo), .second, .val (.ref b5), .val (.ref b7), .val (.int (0 : Int32)), .val (.int (F3 b5 b7 p0 q1 qq oo)), .val (.int (F3 b7 b5 qq oo p0 q1)), .val (.int (F3 b5 b5 p0 q1 p0 q1)), .unset, .unset] []))) (fun t k => XS.istore X17.here hx rfl (hb hby at_122) rfl (l' := #[.val (.int p0), .val (.long q1), .second, .val (.int p2), .val (.long q3), .second, .val (.int p4), .val (.int sq), .val (.int so), .val (.int qq), .val (.long oo), .second, .val (.ref b5), .val (.ref b7), .val (.int (0 : Int32)), .val (.int (F3 b5 b7 p0 q1 qq oo)), .val (.int (F3 b7 b5 qq oo p0 q1)), .val (.int (F3 b5 b5 p0 q1 p0 q1)), .unset, .unset]) rfl k) ?_
      refine own_go (B := (T17.setTop (mkF m 126 #[.val (.int p0), .val (.long q1), .second, .val (.int p2), .val (.long q3), .second, .val (.int p4), .val (.int sq), .val (.int so), .val (.int qq), .val (.long oo), .second, .val (.ref b5), .val (.ref b7), .val (.int (0 : Int32)), .val (.int (F3 b5 b7 p0 q1 qq oo)), .val (.int (F3 b7 b5 qq oo p0 q1)), .val (.int (F3 b5 b5 p0 q1 p0 q1)), .unset, .unset] [(.ref b5)]))) (fun t k => XS.aload X17.here hx rfl (hb hby at_124) rfl rfl k) ?_
      refine own_go (B := (T17.setTop (mkF m 127 #[.val (.int p0), .val (.long q1), .second, .val (.int p2), .val (.long q3), .second, .val (.int p4), .val (.int sq), .val (.int so), .val (.int qq), .val (.long oo), .second, .val (.ref b5), .val (.ref b7), .val (.int (0 : Int32)), .val (.int (F3 b5 b7 p0 q1 qq oo)), .val (.int (F3 b7 b5 qq oo p0 q1)), .val (.int (F3 b5 b5 p0 q1 p0 q1)), .unset, .unset] [.null, (.ref b5)]))) (fun t k => XS.aconstNull X17.here hx rfl (hb hby at_126) k) ?_
      obtain ⟨cq18, kq18, q18a, q18b, q18c⟩ := isOf hZ e17 E_b5_8
      obtain ⟨_, _, ⟨T18, L18, k18, n18⟩, -, X18, ⟨Lc18, hQ18, l18, y18, z18⟩, st18⟩ := X17.virtualBack hx (y := (⟨"com/example/usherd/usherd/Published", "equals", "(Ljava/lang/Object;)Z"⟩ : MethodName)) (z := (⟨"com/example/usherd/usherd/Published", "equals", "(Ljava/lang/Object;)Z"⟩ : MethodName)) hown (mvT hZ (hw _ (List.mem_of_getElem? (i := 13) rfl))) (mvT hZ (hw _ (List.mem_of_getElem? (i := 14) rfl))) (notFace_of_selects (args := #[]) (mvT hZ (hw _ (List.mem_of_getElem? (i := 16) rfl)))) (mvT hZ (hw _ (List.mem_of_getElem? (i := 16) rfl))) (mvT hZ (hw _ (List.mem_of_getElem? (i := 15) rfl))) (by decide) (backOf (W := 0) (rm3n l Z ta hw [] b5  T8.heap n0 ) hZ (hw _ (List.mem_of_getElem? (i := 17) rfl)) (hw _ (List.mem_of_getElem? (i := 2) rfl)) (by decide) (by decide)) q18a q18c (g := (mkF m 127 #[.val (.int p0), .val (.long q1), .second, .val (.int p2), .val (.long q3), .second, .val (.int p4), .val (.int sq), .val (.int so), .val (.int qq), .val (.long oo), .second, .val (.ref b5), .val (.ref b7), .val (.int (0 : Int32)), .val (.int (F3 b5 b7 p0 q1 qq oo)), .val (.int (F3 b7 b5 qq oo p0 q1)), .val (.int (F3 b5 b5 p0 q1 p0 q1)), .unset, .unset] [.null, (.ref b5)])) rfl (by rw [hml]; rfl) (Steps.refl _) (argsL := [.null]) (rest := []) (lenOf pd_0_1 rfl) rfl (by show 2 * 0 + _ ≤ _; exact Nat.le_of_eq rfl) (hb hby at_127) (fun _ _ => ⟨rfl, e17, (by decide : (((((((0 + 1) + 0) + 1) + 0) + 0) + 0) + 0) + 0 ≤ _), (by decide : (((((((0 + 2) + 0) + 2) + 0) + 0) + 0) + 0) + 0 ≤ _)⟩)
      dsimp only [Pt.U, Pt.locs, Pt.cells, Pt.slots] at X18 l18 y18 z18 st18 hQ18
      subst l18 y18 z18
      obtain ⟨rfl, N18q, e18⟩ := hQ18
      replace e18 := e18
      have N18 := Fr.app N17 N18q
      refine own_go (B := (T18.setTop (mkF m 130 #[.val (.int p0), .val (.long q1), .second, .val (.int p2), .val (.long q3), .second, .val (.int p4), .val (.int sq), .val (.int so), .val (.int qq), .val (.long oo), .second, .val (.ref b5), .val (.ref b7), .val (.int (0 : Int32)), .val (.int (F3 b5 b7 p0 q1 qq oo)), .val (.int (F3 b7 b5 qq oo p0 q1)), .val (.int (F3 b5 b5 p0 q1 p0 q1)), .unset, .unset] [(.int (0 : Int32))]))) (fun t k => st18.trans k) ?_
      refine own_go (B := (T18.setTop (mkF m 132 #[.val (.int p0), .val (.long q1), .second, .val (.int p2), .val (.long q3), .second, .val (.int p4), .val (.int sq), .val (.int so), .val (.int qq), .val (.long oo), .second, .val (.ref b5), .val (.ref b7), .val (.int (0 : Int32)), .val (.int (F3 b5 b7 p0 q1 qq oo)), .val (.int (F3 b7 b5 qq oo p0 q1)), .val (.int (F3 b5 b5 p0 q1 p0 q1)), .val (.int (0 : Int32)), .unset] []))) (fun t k => XS.istore X18.here hx rfl (hb hby at_130) rfl (l' := #[.val (.int p0), .val (.long q1), .second, .val (.int p2), .val (.long q3), .second, .val (.int p4), .val (.int sq), .val (.int so), .val (.int qq), .val (.long oo), .second, .val (.ref b5), .val (.ref b7), .val (.int (0 : Int32)), .val (.int (F3 b5 b7 p0 q1 qq oo)), .val (.int (F3 b7 b5 qq oo p0 q1)), .val (.int (F3 b5 b5 p0 q1 p0 q1)), .val (.int (0 : Int32)), .unset]) rfl k) ?_
      refine own_go (B := (T18.setTop (mkF m 134 #[.val (.int p0), .val (.long q1), .second, .val (.int p2), .val (.long q3), .second, .val (.int p4), .val (.int sq), .val (.int so), .val (.int qq), .val (.long oo), .second, .val (.ref b5), .val (.ref b7), .val (.int (0 : Int32)), .val (.int (F3 b5 b7 p0 q1 qq oo)), .val (.int (F3 b7 b5 qq oo p0 q1)), .val (.int (F3 b5 b5 p0 q1 p0 q1)), .val (.int (0 : Int32)), .unset] [(.ref b5)]))) (fun t k => XS.aload X18.here hx rfl (hb hby at_132) rfl rfl k) ?_
      refine own_go (B := (T18.setTop (mkF m 135 #[.val (.int p0), .val (.long q1), .second, .val (.int p2), .val (.long q3), .second, .val (.int p4), .val (.int sq), .val (.int so), .val (.int qq), .val (.long oo), .second, .val (.ref b5), .val (.ref b7), .val (.int (0 : Int32)), .val (.int (F3 b5 b7 p0 q1 qq oo)), .val (.int (F3 b7 b5 qq oo p0 q1)), .val (.int (F3 b5 b5 p0 q1 p0 q1)), .val (.int (0 : Int32)), .unset] [(.long q1), (.ref b5)]))) (fun t k => XS.lloadN X18.here hx rfl (hb hby at_134) rfl k) ?_
      obtain ⟨_, _, ⟨T19, L19, k19, n19⟩, -, X19, ⟨Lc19, hQ19, l19, y19, z19⟩, st19⟩ := Jvm.LawKit.callS X18 hx (y := (⟨"java/lang/Long", "valueOf", "(J)Ljava/lang/Long;"⟩ : MethodName)) hown (mvT hZ (hw _ (List.mem_of_getElem? (i := 20) rfl))) (mvT hZ (hw _ (List.mem_of_getElem? (i := 21) rfl))) (mvT hZ (hw _ (List.mem_of_getElem? (i := 22) rfl))) (mvT hZ (hw _ (List.mem_of_getElem? (i := 23) rfl))) (by decide) (backOf (W := 1) (rm4 l Z ta hw [] q1 ca cc vf T8.heap n0 Zs8 O8 Sc Bx) hZ (hw _ (List.mem_of_getElem? (i := 23) rfl)) (hw _ (List.mem_of_getElem? (i := 22) rfl)) (by decide) (by decide)) (g := (mkF m 135 #[.val (.int p0), .val (.long q1), .second, .val (.int p2), .val (.long q3), .second, .val (.int p4), .val (.int sq), .val (.int so), .val (.int qq), .val (.long oo), .second, .val (.ref b5), .val (.ref b7), .val (.int (0 : Int32)), .val (.int (F3 b5 b7 p0 q1 qq oo)), .val (.int (F3 b7 b5 qq oo p0 q1)), .val (.int (F3 b5 b5 p0 q1 p0 q1)), .val (.int (0 : Int32)), .unset] [(.long q1), (.ref b5)])) rfl (by rw [hml]; rfl) (argsL := [(.long q1)]) (rest := [(.ref b5)]) (lenOf pd_0_2 rfl) rfl (by show 2 * 0 + _ ≤ _; exact Nat.le_of_eq rfl) (hb hby at_135) (fun _ _ => ⟨rfl, e18, (by decide : ((((((((0 + 1) + 0) + 1) + 0) + 0) + 0) + 0) + 0) + 1 ≤ _), (by decide : ((((((((0 + 2) + 0) + 2) + 0) + 0) + 0) + 0) + 0) + 1 ≤ _)⟩)
      dsimp only [Pt.U, Pt.locs, Pt.cells, Pt.slots] at X19 l19 y19 z19 st19 hQ19
      subst l19 y19 z19
      obtain ⟨r19, rfl, N19q, K19, Er19⟩ := hQ19
      have E_b5_19 := E_b5_8.keep K19
      have F_b5_queue_19 := F_b5_queue_8.keep K19 nin0
      have F_b5_offset_19 := F_b5_offset_8.keep K19 nin0
      have E_b7_19 := E_b7_8.keep K19
      have F_b7_queue_19 := Fq8_0.keep K19 nin0
      have F_b7_offset_19 := Fq8_1.keep K19 nin0
      have Zs19 : n0 ≤ T19.heap.size := Nat.le_trans Zs8 K19.1
      have O19 := O8.keep K19 all0
      have N19 := Fr.app N18 N19q
      refine own_go (B := (T19.setTop (mkF m 138 #[.val (.int p0), .val (.long q1), .second, .val (.int p2), .val (.long q3), .second, .val (.int p4), .val (.int sq), .val (.int so), .val (.int qq), .val (.long oo), .second, .val (.ref b5), .val (.ref b7), .val (.int (0 : Int32)), .val (.int (F3 b5 b7 p0 q1 qq oo)), .val (.int (F3 b7 b5 qq oo p0 q1)), .val (.int (F3 b5 b5 p0 q1 p0 q1)), .val (.int (0 : Int32)), .unset] [(.ref r19), (.ref b5)]))) (fun t k => st19 _ k) ?_
      obtain ⟨cq20, kq20, q20a, q20b, q20c⟩ := isOf hZ rfl E_b5_19
      obtain ⟨_, _, ⟨T20, L20, k20, n20⟩, -, X20, ⟨Lc20, hQ20, l20, y20, z20⟩, st20⟩ := X19.virtualBack hx (y := (⟨"com/example/usherd/usherd/Published", "equals", "(Ljava/lang/Object;)Z"⟩ : MethodName)) (z := (⟨"com/example/usherd/usherd/Published", "equals", "(Ljava/lang/Object;)Z"⟩ : MethodName)) hown (mvT hZ (hw _ (List.mem_of_getElem? (i := 13) rfl))) (mvT hZ (hw _ (List.mem_of_getElem? (i := 14) rfl))) (notFace_of_selects (args := #[]) (mvT hZ (hw _ (List.mem_of_getElem? (i := 16) rfl)))) (mvT hZ (hw _ (List.mem_of_getElem? (i := 16) rfl))) (mvT hZ (hw _ (List.mem_of_getElem? (i := 15) rfl))) (by decide) (backOf (W := 0) (rm3l l Z ta hw [] b5 r19  T19.heap n0 Er19) hZ (hw _ (List.mem_of_getElem? (i := 17) rfl)) (hw _ (List.mem_of_getElem? (i := 2) rfl)) (by decide) (by decide)) q20a q20c (g := (mkF m 138 #[.val (.int p0), .val (.long q1), .second, .val (.int p2), .val (.long q3), .second, .val (.int p4), .val (.int sq), .val (.int so), .val (.int qq), .val (.long oo), .second, .val (.ref b5), .val (.ref b7), .val (.int (0 : Int32)), .val (.int (F3 b5 b7 p0 q1 qq oo)), .val (.int (F3 b7 b5 qq oo p0 q1)), .val (.int (F3 b5 b5 p0 q1 p0 q1)), .val (.int (0 : Int32)), .unset] [(.ref r19), (.ref b5)])) rfl (by rw [hml]; rfl) (Steps.refl _) (argsL := [(.ref r19)]) (rest := []) (lenOf pd_0_1 rfl) rfl (by show 2 * 0 + _ ≤ _; exact Nat.le_of_eq rfl) (hb hby at_138) (fun _ _ => ⟨rfl, rfl, (by decide : (((((((((0 + 1) + 0) + 1) + 0) + 0) + 0) + 0) + 0) + 1) + 0 ≤ _), (by decide : (((((((((0 + 2) + 0) + 2) + 0) + 0) + 0) + 0) + 0) + 1) + 0 ≤ _)⟩)
      dsimp only [Pt.U, Pt.locs, Pt.cells, Pt.slots] at X20 l20 y20 z20 st20 hQ20
      subst l20 y20 z20
      obtain ⟨rfl, N20q, e20⟩ := hQ20
      replace e20 := e20
      have N20 := Fr.app N19 N20q
      refine own_go (B := (T20.setTop (mkF m 141 #[.val (.int p0), .val (.long q1), .second, .val (.int p2), .val (.long q3), .second, .val (.int p4), .val (.int sq), .val (.int so), .val (.int qq), .val (.long oo), .second, .val (.ref b5), .val (.ref b7), .val (.int (0 : Int32)), .val (.int (F3 b5 b7 p0 q1 qq oo)), .val (.int (F3 b7 b5 qq oo p0 q1)), .val (.int (F3 b5 b5 p0 q1 p0 q1)), .val (.int (0 : Int32)), .unset] [(.int (0 : Int32))]))) (fun t k => st20.trans k) ?_
      refine own_go (B := (T20.setTop (mkF m 143 #[.val (.int p0), .val (.long q1), .second, .val (.int p2), .val (.long q3), .second, .val (.int p4), .val (.int sq), .val (.int so), .val (.int qq), .val (.long oo), .second, .val (.ref b5), .val (.ref b7), .val (.int (0 : Int32)), .val (.int (F3 b5 b7 p0 q1 qq oo)), .val (.int (F3 b7 b5 qq oo p0 q1)), .val (.int (F3 b5 b5 p0 q1 p0 q1)), .val (.int (0 : Int32)), .val (.int (0 : Int32))] []))) (fun t k => XS.istore X20.here hx rfl (hb hby at_141) rfl (l' := #[.val (.int p0), .val (.long q1), .second, .val (.int p2), .val (.long q3), .second, .val (.int p4), .val (.int sq), .val (.int so), .val (.int qq), .val (.long oo), .second, .val (.ref b5), .val (.ref b7), .val (.int (0 : Int32)), .val (.int (F3 b5 b7 p0 q1 qq oo)), .val (.int (F3 b7 b5 qq oo p0 q1)), .val (.int (F3 b5 b5 p0 q1 p0 q1)), .val (.int (0 : Int32)), .val (.int (0 : Int32))]) rfl k) ?_
      refine own_go (B := (T20.setTop (mkF m 145 #[.val (.int p0), .val (.long q1), .second, .val (.int p2), .val (.long q3), .second, .val (.int p4), .val (.int sq), .val (.int so), .val (.int qq), .val (.long oo), .second, .val (.ref b5), .val (.ref b7), .val (.int (0 : Int32)), .val (.int (F3 b5 b7 p0 q1 qq oo)), .val (.int (F3 b7 b5 qq oo p0 q1)), .val (.int (F3 b5 b5 p0 q1 p0 q1)), .val (.int (0 : Int32)), .val (.int (0 : Int32))] [(.int (F3 b5 b7 p0 q1 qq oo))]))) (fun t k => XS.iload X20.here hx rfl (hb hby at_143) rfl k) ?_
      refine own_go (B := (T20.setTop (mkF m 147 #[.val (.int p0), .val (.long q1), .second, .val (.int p2), .val (.long q3), .second, .val (.int p4), .val (.int sq), .val (.int so), .val (.int qq), .val (.long oo), .second, .val (.ref b5), .val (.ref b7), .val (.int (0 : Int32)), .val (.int (F3 b5 b7 p0 q1 qq oo)), .val (.int (F3 b7 b5 qq oo p0 q1)), .val (.int (F3 b5 b5 p0 q1 p0 q1)), .val (.int (0 : Int32)), .val (.int (0 : Int32))] [(.int (0 : Int32)), (.int (F3 b5 b7 p0 q1 qq oo))]))) (fun t k => XS.iload X20.here hx rfl (hb hby at_145) rfl k) ?_
      refine own_go (B := (T20.setTop (mkF m 150 #[.val (.int p0), .val (.long q1), .second, .val (.int p2), .val (.long q3), .second, .val (.int p4), .val (.int sq), .val (.int so), .val (.int qq), .val (.long oo), .second, .val (.ref b5), .val (.ref b7), .val (.int (0 : Int32)), .val (.int (F3 b5 b7 p0 q1 qq oo)), .val (.int (F3 b7 b5 qq oo p0 q1)), .val (.int (F3 b5 b5 p0 q1 p0 q1)), .val (.int (0 : Int32)), .val (.int (0 : Int32))] []))) (fun t k => XS.icmpNo X20.here hx rfl (hb hby at_147) rfl (teq (by simp [F3, hc80, Ne.symm hc87, hc87])).2 k) ?_
      refine own_go (B := (T20.setTop (mkF m 152 #[.val (.int p0), .val (.long q1), .second, .val (.int p2), .val (.long q3), .second, .val (.int p4), .val (.int sq), .val (.int so), .val (.int qq), .val (.long oo), .second, .val (.ref b5), .val (.ref b7), .val (.int (0 : Int32)), .val (.int (F3 b5 b7 p0 q1 qq oo)), .val (.int (F3 b7 b5 qq oo p0 q1)), .val (.int (F3 b5 b5 p0 q1 p0 q1)), .val (.int (0 : Int32)), .val (.int (0 : Int32))] [(.int (F3 b7 b5 qq oo p0 q1))]))) (fun t k => XS.iload X20.here hx rfl (hb hby at_150) rfl k) ?_
      refine own_go (B := (T20.setTop (mkF m 154 #[.val (.int p0), .val (.long q1), .second, .val (.int p2), .val (.long q3), .second, .val (.int p4), .val (.int sq), .val (.int so), .val (.int qq), .val (.long oo), .second, .val (.ref b5), .val (.ref b7), .val (.int (0 : Int32)), .val (.int (F3 b5 b7 p0 q1 qq oo)), .val (.int (F3 b7 b5 qq oo p0 q1)), .val (.int (F3 b5 b5 p0 q1 p0 q1)), .val (.int (0 : Int32)), .val (.int (0 : Int32))] [(.int (0 : Int32)), (.int (F3 b7 b5 qq oo p0 q1))]))) (fun t k => XS.iload X20.here hx rfl (hb hby at_152) rfl k) ?_
      refine own_go (B := (T20.setTop (mkF m 157 #[.val (.int p0), .val (.long q1), .second, .val (.int p2), .val (.long q3), .second, .val (.int p4), .val (.int sq), .val (.int so), .val (.int qq), .val (.long oo), .second, .val (.ref b5), .val (.ref b7), .val (.int (0 : Int32)), .val (.int (F3 b5 b7 p0 q1 qq oo)), .val (.int (F3 b7 b5 qq oo p0 q1)), .val (.int (F3 b5 b5 p0 q1 p0 q1)), .val (.int (0 : Int32)), .val (.int (0 : Int32))] []))) (fun t k => XS.icmpNo X20.here hx rfl (hb hby at_154) rfl (teq (by simp [F3, hc80, Ne.symm hc87, hc87])).2 k) ?_
      refine own_go (B := (T20.setTop (mkF m 159 #[.val (.int p0), .val (.long q1), .second, .val (.int p2), .val (.long q3), .second, .val (.int p4), .val (.int sq), .val (.int so), .val (.int qq), .val (.long oo), .second, .val (.ref b5), .val (.ref b7), .val (.int (0 : Int32)), .val (.int (F3 b5 b7 p0 q1 qq oo)), .val (.int (F3 b7 b5 qq oo p0 q1)), .val (.int (F3 b5 b5 p0 q1 p0 q1)), .val (.int (0 : Int32)), .val (.int (0 : Int32))] [(.int (F3 b5 b5 p0 q1 p0 q1))]))) (fun t k => XS.iload X20.here hx rfl (hb hby at_157) rfl k) ?_
      refine own_go (B := (T20.setTop (mkF m 162 #[.val (.int p0), .val (.long q1), .second, .val (.int p2), .val (.long q3), .second, .val (.int p4), .val (.int sq), .val (.int so), .val (.int qq), .val (.long oo), .second, .val (.ref b5), .val (.ref b7), .val (.int (0 : Int32)), .val (.int (F3 b5 b7 p0 q1 qq oo)), .val (.int (F3 b7 b5 qq oo p0 q1)), .val (.int (F3 b5 b5 p0 q1 p0 q1)), .val (.int (0 : Int32)), .val (.int (0 : Int32))] []))) (fun t k => XS.ifNo X20.here hx rfl (hb hby at_159) rfl ((if0 _ _).trans (feq (by simp [F3])).1) k) ?_
      refine own_go (B := (T20.setTop (mkF m 164 #[.val (.int p0), .val (.long q1), .second, .val (.int p2), .val (.long q3), .second, .val (.int p4), .val (.int sq), .val (.int so), .val (.int qq), .val (.long oo), .second, .val (.ref b5), .val (.ref b7), .val (.int (0 : Int32)), .val (.int (F3 b5 b7 p0 q1 qq oo)), .val (.int (F3 b7 b5 qq oo p0 q1)), .val (.int (F3 b5 b5 p0 q1 p0 q1)), .val (.int (0 : Int32)), .val (.int (0 : Int32))] [(.int (0 : Int32))]))) (fun t k => XS.iload X20.here hx rfl (hb hby at_162) rfl k) ?_
      refine own_go (B := (T20.setTop (mkF m 167 #[.val (.int p0), .val (.long q1), .second, .val (.int p2), .val (.long q3), .second, .val (.int p4), .val (.int sq), .val (.int so), .val (.int qq), .val (.long oo), .second, .val (.ref b5), .val (.ref b7), .val (.int (0 : Int32)), .val (.int (F3 b5 b7 p0 q1 qq oo)), .val (.int (F3 b7 b5 qq oo p0 q1)), .val (.int (F3 b5 b5 p0 q1 p0 q1)), .val (.int (0 : Int32)), .val (.int (0 : Int32))] []))) (fun t k => XS.ifNo X20.here hx rfl (hb hby at_164) rfl ((if0 _ _).trans (teq (by decide)).2) k) ?_
      refine own_go (B := (T20.setTop (mkF m 169 #[.val (.int p0), .val (.long q1), .second, .val (.int p2), .val (.long q3), .second, .val (.int p4), .val (.int sq), .val (.int so), .val (.int qq), .val (.long oo), .second, .val (.ref b5), .val (.ref b7), .val (.int (0 : Int32)), .val (.int (F3 b5 b7 p0 q1 qq oo)), .val (.int (F3 b7 b5 qq oo p0 q1)), .val (.int (F3 b5 b5 p0 q1 p0 q1)), .val (.int (0 : Int32)), .val (.int (0 : Int32))] [(.int (0 : Int32))]))) (fun t k => XS.iload X20.here hx rfl (hb hby at_167) rfl k) ?_
      refine own_go (B := (T20.setTop (mkF m 172 #[.val (.int p0), .val (.long q1), .second, .val (.int p2), .val (.long q3), .second, .val (.int p4), .val (.int sq), .val (.int so), .val (.int qq), .val (.long oo), .second, .val (.ref b5), .val (.ref b7), .val (.int (0 : Int32)), .val (.int (F3 b5 b7 p0 q1 qq oo)), .val (.int (F3 b7 b5 qq oo p0 q1)), .val (.int (F3 b5 b5 p0 q1 p0 q1)), .val (.int (0 : Int32)), .val (.int (0 : Int32))] []))) (fun t k => XS.ifNo X20.here hx rfl (hb hby at_169) rfl ((if0 _ _).trans (teq (by decide)).2) k) ?_
      refine own_go (B := (T20.setTop (mkF m 173 #[.val (.int p0), .val (.long q1), .second, .val (.int p2), .val (.long q3), .second, .val (.int p4), .val (.int sq), .val (.int so), .val (.int qq), .val (.long oo), .second, .val (.ref b5), .val (.ref b7), .val (.int (0 : Int32)), .val (.int (F3 b5 b7 p0 q1 qq oo)), .val (.int (F3 b7 b5 qq oo p0 q1)), .val (.int (F3 b5 b5 p0 q1 p0 q1)), .val (.int (0 : Int32)), .val (.int (0 : Int32))] [(.int (1 : Int32))]))) (fun t k => XS.iconst X20.here hx rfl (hb hby at_172) k) ?_
      refine own_go (B := (T20.setTop (mkF m 177 #[.val (.int p0), .val (.long q1), .second, .val (.int p2), .val (.long q3), .second, .val (.int p4), .val (.int sq), .val (.int so), .val (.int qq), .val (.long oo), .second, .val (.ref b5), .val (.ref b7), .val (.int (0 : Int32)), .val (.int (F3 b5 b7 p0 q1 qq oo)), .val (.int (F3 b7 b5 qq oo p0 q1)), .val (.int (F3 b5 b5 p0 q1 p0 q1)), .val (.int (0 : Int32)), .val (.int (0 : Int32))] [(.int (1 : Int32))]))) (fun t k => XS.goto X20.here hx rfl (pc0 := 173) (pc' := 177) rfl (hb hby at_173) (by decide) (by decide) k) ?_
      obtain ⟨fs, hr, hrun, hended, hW, hsame⟩ := X20.leave (v := some (.int (1 : Int32))) (fun h => by rw [Bd.returns] at h; cases h)
      exact ⟨_, _, retN X20 hx (t := .boolean) Bd.returns (by simp) (hb hby at_177) hr, hrun, hended, _, _, rfl, ⟨rfl, N20⟩, ⟨_, rfl⟩, hW, hsame.mono (by decide) (by decide)⟩
  · refine own_go (B := (T8.setTop (mkF m 94 #[.val (.int p0), .val (.long q1), .second, .val (.int p2), .val (.long q3), .second, .val (.int p4), .val (.int sq), .val (.int so), .val (.int qq), .val (.long oo), .second, .val (.ref b5), .val (.ref b7), .unset, .unset, .unset, .unset, .unset, .unset] []))) (fun t k => XS.icmpYes X8.here hx rfl (pc0 := 80) (pc' := 94) rfl (hb hby at_80) rfl (feq hc80).2 (by decide) (by decide) k) ?_
    refine own_go (B := (T8.setTop (mkF m 95 #[.val (.int p0), .val (.long q1), .second, .val (.int p2), .val (.long q3), .second, .val (.int p4), .val (.int sq), .val (.int so), .val (.int qq), .val (.long oo), .second, .val (.ref b5), .val (.ref b7), .unset, .unset, .unset, .unset, .unset, .unset] [(.int (0 : Int32))]))) (fun t k => XS.iconst X8.here hx rfl (hb hby at_94) k) ?_
    refine own_go (B := (T8.setTop (mkF m 97 #[.val (.int p0), .val (.long q1), .second, .val (.int p2), .val (.long q3), .second, .val (.int p4), .val (.int sq), .val (.int so), .val (.int qq), .val (.long oo), .second, .val (.ref b5), .val (.ref b7), .val (.int (0 : Int32)), .unset, .unset, .unset, .unset, .unset] []))) (fun t k => XS.istore X8.here hx rfl (hb hby at_95) rfl (l' := #[.val (.int p0), .val (.long q1), .second, .val (.int p2), .val (.long q3), .second, .val (.int p4), .val (.int sq), .val (.int so), .val (.int qq), .val (.long oo), .second, .val (.ref b5), .val (.ref b7), .val (.int (0 : Int32)), .unset, .unset, .unset, .unset, .unset]) rfl k) ?_
    refine own_go (B := (T8.setTop (mkF m 99 #[.val (.int p0), .val (.long q1), .second, .val (.int p2), .val (.long q3), .second, .val (.int p4), .val (.int sq), .val (.int so), .val (.int qq), .val (.long oo), .second, .val (.ref b5), .val (.ref b7), .val (.int (0 : Int32)), .unset, .unset, .unset, .unset, .unset] [(.ref b5)]))) (fun t k => XS.aload X8.here hx rfl (hb hby at_97) rfl rfl k) ?_
    refine own_go (B := (T8.setTop (mkF m 101 #[.val (.int p0), .val (.long q1), .second, .val (.int p2), .val (.long q3), .second, .val (.int p4), .val (.int sq), .val (.int so), .val (.int qq), .val (.long oo), .second, .val (.ref b5), .val (.ref b7), .val (.int (0 : Int32)), .unset, .unset, .unset, .unset, .unset] [(.ref b7), (.ref b5)]))) (fun t k => XS.aload X8.here hx rfl (hb hby at_99) rfl rfl k) ?_
    obtain ⟨cq21, kq21, q21a, q21b, q21c⟩ := isOf hZ rfl E_b5_8
    obtain ⟨_, _, ⟨T21, L21, k21, n21⟩, -, X21, ⟨Lc21, hQ21, l21, y21, z21⟩, st21⟩ := X8.virtualBack hx (y := (⟨"com/example/usherd/usherd/Published", "equals", "(Ljava/lang/Object;)Z"⟩ : MethodName)) (z := (⟨"com/example/usherd/usherd/Published", "equals", "(Ljava/lang/Object;)Z"⟩ : MethodName)) hown (mvT hZ (hw _ (List.mem_of_getElem? (i := 13) rfl))) (mvT hZ (hw _ (List.mem_of_getElem? (i := 14) rfl))) (notFace_of_selects (args := #[]) (mvT hZ (hw _ (List.mem_of_getElem? (i := 16) rfl)))) (mvT hZ (hw _ (List.mem_of_getElem? (i := 16) rfl))) (mvT hZ (hw _ (List.mem_of_getElem? (i := 15) rfl))) (by decide) (backOf (W := 0) (rm3 l Z ta hw [] b5 b7 p0 q1 qq oo T8.heap n0 F_b5_queue_8 F_b5_offset_8 Fq8_0 Fq8_1 E_b7_8) hZ (hw _ (List.mem_of_getElem? (i := 17) rfl)) (hw _ (List.mem_of_getElem? (i := 2) rfl)) (by decide) (by decide)) q21a q21c (g := (mkF m 101 #[.val (.int p0), .val (.long q1), .second, .val (.int p2), .val (.long q3), .second, .val (.int p4), .val (.int sq), .val (.int so), .val (.int qq), .val (.long oo), .second, .val (.ref b5), .val (.ref b7), .val (.int (0 : Int32)), .unset, .unset, .unset, .unset, .unset] [(.ref b7), (.ref b5)])) rfl (by rw [hml]; rfl) (Steps.refl _) (argsL := [(.ref b7)]) (rest := []) (lenOf pd_0_1 rfl) rfl (by show 2 * 0 + _ ≤ _; exact Nat.le_of_eq rfl) (hb hby at_101) (fun _ _ => ⟨rfl, rfl, (by decide : ((((0 + 1) + 0) + 1) + 0) + 0 ≤ _), (by decide : ((((0 + 2) + 0) + 2) + 0) + 0 ≤ _)⟩)
    dsimp only [Pt.U, Pt.locs, Pt.cells, Pt.slots] at X21 l21 y21 z21 st21 hQ21
    subst l21 y21 z21
    obtain ⟨rfl, N21q, e21⟩ := hQ21
    replace e21 := e21
    have N21 := Fr.app N8 N21q
    refine own_go (B := (T21.setTop (mkF m 104 #[.val (.int p0), .val (.long q1), .second, .val (.int p2), .val (.long q3), .second, .val (.int p4), .val (.int sq), .val (.int so), .val (.int qq), .val (.long oo), .second, .val (.ref b5), .val (.ref b7), .val (.int (0 : Int32)), .unset, .unset, .unset, .unset, .unset] [(.int (F3 b5 b7 p0 q1 qq oo))]))) (fun t k => st21.trans k) ?_
    refine own_go (B := (T21.setTop (mkF m 106 #[.val (.int p0), .val (.long q1), .second, .val (.int p2), .val (.long q3), .second, .val (.int p4), .val (.int sq), .val (.int so), .val (.int qq), .val (.long oo), .second, .val (.ref b5), .val (.ref b7), .val (.int (0 : Int32)), .val (.int (F3 b5 b7 p0 q1 qq oo)), .unset, .unset, .unset, .unset] []))) (fun t k => XS.istore X21.here hx rfl (hb hby at_104) rfl (l' := #[.val (.int p0), .val (.long q1), .second, .val (.int p2), .val (.long q3), .second, .val (.int p4), .val (.int sq), .val (.int so), .val (.int qq), .val (.long oo), .second, .val (.ref b5), .val (.ref b7), .val (.int (0 : Int32)), .val (.int (F3 b5 b7 p0 q1 qq oo)), .unset, .unset, .unset, .unset]) rfl k) ?_
    refine own_go (B := (T21.setTop (mkF m 108 #[.val (.int p0), .val (.long q1), .second, .val (.int p2), .val (.long q3), .second, .val (.int p4), .val (.int sq), .val (.int so), .val (.int qq), .val (.long oo), .second, .val (.ref b5), .val (.ref b7), .val (.int (0 : Int32)), .val (.int (F3 b5 b7 p0 q1 qq oo)), .unset, .unset, .unset, .unset] [(.ref b7)]))) (fun t k => XS.aload X21.here hx rfl (hb hby at_106) rfl rfl k) ?_
    refine own_go (B := (T21.setTop (mkF m 110 #[.val (.int p0), .val (.long q1), .second, .val (.int p2), .val (.long q3), .second, .val (.int p4), .val (.int sq), .val (.int so), .val (.int qq), .val (.long oo), .second, .val (.ref b5), .val (.ref b7), .val (.int (0 : Int32)), .val (.int (F3 b5 b7 p0 q1 qq oo)), .unset, .unset, .unset, .unset] [(.ref b5), (.ref b7)]))) (fun t k => XS.aload X21.here hx rfl (hb hby at_108) rfl rfl k) ?_
    obtain ⟨cq22, kq22, q22a, q22b, q22c⟩ := isOf hZ e21 E_b7_8
    obtain ⟨_, _, ⟨T22, L22, k22, n22⟩, -, X22, ⟨Lc22, hQ22, l22, y22, z22⟩, st22⟩ := X21.virtualBack hx (y := (⟨"com/example/usherd/usherd/Published", "equals", "(Ljava/lang/Object;)Z"⟩ : MethodName)) (z := (⟨"com/example/usherd/usherd/Published", "equals", "(Ljava/lang/Object;)Z"⟩ : MethodName)) hown (mvT hZ (hw _ (List.mem_of_getElem? (i := 13) rfl))) (mvT hZ (hw _ (List.mem_of_getElem? (i := 14) rfl))) (notFace_of_selects (args := #[]) (mvT hZ (hw _ (List.mem_of_getElem? (i := 16) rfl)))) (mvT hZ (hw _ (List.mem_of_getElem? (i := 16) rfl))) (mvT hZ (hw _ (List.mem_of_getElem? (i := 15) rfl))) (by decide) (backOf (W := 0) (rm3 l Z ta hw [] b7 b5 qq oo p0 q1 T8.heap n0 Fq8_0 Fq8_1 F_b5_queue_8 F_b5_offset_8 E_b5_8) hZ (hw _ (List.mem_of_getElem? (i := 17) rfl)) (hw _ (List.mem_of_getElem? (i := 2) rfl)) (by decide) (by decide)) q22a q22c (g := (mkF m 110 #[.val (.int p0), .val (.long q1), .second, .val (.int p2), .val (.long q3), .second, .val (.int p4), .val (.int sq), .val (.int so), .val (.int qq), .val (.long oo), .second, .val (.ref b5), .val (.ref b7), .val (.int (0 : Int32)), .val (.int (F3 b5 b7 p0 q1 qq oo)), .unset, .unset, .unset, .unset] [(.ref b5), (.ref b7)])) rfl (by rw [hml]; rfl) (Steps.refl _) (argsL := [(.ref b5)]) (rest := []) (lenOf pd_0_1 rfl) rfl (by show 2 * 0 + _ ≤ _; exact Nat.le_of_eq rfl) (hb hby at_110) (fun _ _ => ⟨rfl, e21, (by decide : (((((0 + 1) + 0) + 1) + 0) + 0) + 0 ≤ _), (by decide : (((((0 + 2) + 0) + 2) + 0) + 0) + 0 ≤ _)⟩)
    dsimp only [Pt.U, Pt.locs, Pt.cells, Pt.slots] at X22 l22 y22 z22 st22 hQ22
    subst l22 y22 z22
    obtain ⟨rfl, N22q, e22⟩ := hQ22
    replace e22 := e22
    have N22 := Fr.app N21 N22q
    refine own_go (B := (T22.setTop (mkF m 113 #[.val (.int p0), .val (.long q1), .second, .val (.int p2), .val (.long q3), .second, .val (.int p4), .val (.int sq), .val (.int so), .val (.int qq), .val (.long oo), .second, .val (.ref b5), .val (.ref b7), .val (.int (0 : Int32)), .val (.int (F3 b5 b7 p0 q1 qq oo)), .unset, .unset, .unset, .unset] [(.int (F3 b7 b5 qq oo p0 q1))]))) (fun t k => st22.trans k) ?_
    refine own_go (B := (T22.setTop (mkF m 115 #[.val (.int p0), .val (.long q1), .second, .val (.int p2), .val (.long q3), .second, .val (.int p4), .val (.int sq), .val (.int so), .val (.int qq), .val (.long oo), .second, .val (.ref b5), .val (.ref b7), .val (.int (0 : Int32)), .val (.int (F3 b5 b7 p0 q1 qq oo)), .val (.int (F3 b7 b5 qq oo p0 q1)), .unset, .unset, .unset] []))) (fun t k => XS.istore X22.here hx rfl (hb hby at_113) rfl (l' := #[.val (.int p0), .val (.long q1), .second, .val (.int p2), .val (.long q3), .second, .val (.int p4), .val (.int sq), .val (.int so), .val (.int qq), .val (.long oo), .second, .val (.ref b5), .val (.ref b7), .val (.int (0 : Int32)), .val (.int (F3 b5 b7 p0 q1 qq oo)), .val (.int (F3 b7 b5 qq oo p0 q1)), .unset, .unset, .unset]) rfl k) ?_
    refine own_go (B := (T22.setTop (mkF m 117 #[.val (.int p0), .val (.long q1), .second, .val (.int p2), .val (.long q3), .second, .val (.int p4), .val (.int sq), .val (.int so), .val (.int qq), .val (.long oo), .second, .val (.ref b5), .val (.ref b7), .val (.int (0 : Int32)), .val (.int (F3 b5 b7 p0 q1 qq oo)), .val (.int (F3 b7 b5 qq oo p0 q1)), .unset, .unset, .unset] [(.ref b5)]))) (fun t k => XS.aload X22.here hx rfl (hb hby at_115) rfl rfl k) ?_
    refine own_go (B := (T22.setTop (mkF m 119 #[.val (.int p0), .val (.long q1), .second, .val (.int p2), .val (.long q3), .second, .val (.int p4), .val (.int sq), .val (.int so), .val (.int qq), .val (.long oo), .second, .val (.ref b5), .val (.ref b7), .val (.int (0 : Int32)), .val (.int (F3 b5 b7 p0 q1 qq oo)), .val (.int (F3 b7 b5 qq oo p0 q1)), .unset, .unset, .unset] [(.ref b5), (.ref b5)]))) (fun t k => XS.aload X22.here hx rfl (hb hby at_117) rfl rfl k) ?_
    obtain ⟨cq23, kq23, q23a, q23b, q23c⟩ := isOf hZ e22 E_b5_8
    obtain ⟨_, _, ⟨T23, L23, k23, n23⟩, -, X23, ⟨Lc23, hQ23, l23, y23, z23⟩, st23⟩ := X22.virtualBack hx (y := (⟨"com/example/usherd/usherd/Published", "equals", "(Ljava/lang/Object;)Z"⟩ : MethodName)) (z := (⟨"com/example/usherd/usherd/Published", "equals", "(Ljava/lang/Object;)Z"⟩ : MethodName)) hown (mvT hZ (hw _ (List.mem_of_getElem? (i := 13) rfl))) (mvT hZ (hw _ (List.mem_of_getElem? (i := 14) rfl))) (notFace_of_selects (args := #[]) (mvT hZ (hw _ (List.mem_of_getElem? (i := 16) rfl)))) (mvT hZ (hw _ (List.mem_of_getElem? (i := 16) rfl))) (mvT hZ (hw _ (List.mem_of_getElem? (i := 15) rfl))) (by decide) (backOf (W := 0) (rm3 l Z ta hw [] b5 b5 p0 q1 p0 q1 T8.heap n0 F_b5_queue_8 F_b5_offset_8 F_b5_queue_8 F_b5_offset_8 E_b5_8) hZ (hw _ (List.mem_of_getElem? (i := 17) rfl)) (hw _ (List.mem_of_getElem? (i := 2) rfl)) (by decide) (by decide)) q23a q23c (g := (mkF m 119 #[.val (.int p0), .val (.long q1), .second, .val (.int p2), .val (.long q3), .second, .val (.int p4), .val (.int sq), .val (.int so), .val (.int qq), .val (.long oo), .second, .val (.ref b5), .val (.ref b7), .val (.int (0 : Int32)), .val (.int (F3 b5 b7 p0 q1 qq oo)), .val (.int (F3 b7 b5 qq oo p0 q1)), .unset, .unset, .unset] [(.ref b5), (.ref b5)])) rfl (by rw [hml]; rfl) (Steps.refl _) (argsL := [(.ref b5)]) (rest := []) (lenOf pd_0_1 rfl) rfl (by show 2 * 0 + _ ≤ _; exact Nat.le_of_eq rfl) (hb hby at_119) (fun _ _ => ⟨rfl, e22, (by decide : ((((((0 + 1) + 0) + 1) + 0) + 0) + 0) + 0 ≤ _), (by decide : ((((((0 + 2) + 0) + 2) + 0) + 0) + 0) + 0 ≤ _)⟩)
    dsimp only [Pt.U, Pt.locs, Pt.cells, Pt.slots] at X23 l23 y23 z23 st23 hQ23
    subst l23 y23 z23
    obtain ⟨rfl, N23q, e23⟩ := hQ23
    replace e23 := e23
    have N23 := Fr.app N22 N23q
    refine own_go (B := (T23.setTop (mkF m 122 #[.val (.int p0), .val (.long q1), .second, .val (.int p2), .val (.long q3), .second, .val (.int p4), .val (.int sq), .val (.int so), .val (.int qq), .val (.long oo), .second, .val (.ref b5), .val (.ref b7), .val (.int (0 : Int32)), .val (.int (F3 b5 b7 p0 q1 qq oo)), .val (.int (F3 b7 b5 qq oo p0 q1)), .unset, .unset, .unset] [(.int (F3 b5 b5 p0 q1 p0 q1))]))) (fun t k => st23.trans k) ?_
    refine own_go (B := (T23.setTop (mkF m 124 #[.val (.int p0), .val (.long q1), .second, .val (.int p2), .val (.long q3), .second, .val (.int p4), .val (.int sq), .val (.int so), .val (.int qq), .val (.long oo), .second, .val (.ref b5), .val (.ref b7), .val (.int (0 : Int32)), .val (.int (F3 b5 b7 p0 q1 qq oo)), .val (.int (F3 b7 b5 qq oo p0 q1)), .val (.int (F3 b5 b5 p0 q1 p0 q1)), .unset, .unset] []))) (fun t k => XS.istore X23.here hx rfl (hb hby at_122) rfl (l' := #[.val (.int p0), .val (.long q1), .second, .val (.int p2), .val (.long q3), .second, .val (.int p4), .val (.int sq), .val (.int so), .val (.int qq), .val (.long oo), .second, .val (.ref b5), .val (.ref b7), .val (.int (0 : Int32)), .val (.int (F3 b5 b7 p0 q1 qq oo)), .val (.int (F3 b7 b5 qq oo p0 q1)), .val (.int (F3 b5 b5 p0 q1 p0 q1)), .unset, .unset]) rfl k) ?_
    refine own_go (B := (T23.setTop (mkF m 126 #[.val (.int p0), .val (.long q1), .second, .val (.int p2), .val (.long q3), .second, .val (.int p4), .val (.int sq), .val (.int so), .val (.int qq), .val (.long oo), .second, .val (.ref b5), .val (.ref b7), .val (.int (0 : Int32)), .val (.int (F3 b5 b7 p0 q1 qq oo)), .val (.int (F3 b7 b5 qq oo p0 q1)), .val (.int (F3 b5 b5 p0 q1 p0 q1)), .unset, .unset] [(.ref b5)]))) (fun t k => XS.aload X23.here hx rfl (hb hby at_124) rfl rfl k) ?_
    refine own_go (B := (T23.setTop (mkF m 127 #[.val (.int p0), .val (.long q1), .second, .val (.int p2), .val (.long q3), .second, .val (.int p4), .val (.int sq), .val (.int so), .val (.int qq), .val (.long oo), .second, .val (.ref b5), .val (.ref b7), .val (.int (0 : Int32)), .val (.int (F3 b5 b7 p0 q1 qq oo)), .val (.int (F3 b7 b5 qq oo p0 q1)), .val (.int (F3 b5 b5 p0 q1 p0 q1)), .unset, .unset] [.null, (.ref b5)]))) (fun t k => XS.aconstNull X23.here hx rfl (hb hby at_126) k) ?_
    obtain ⟨cq24, kq24, q24a, q24b, q24c⟩ := isOf hZ e23 E_b5_8
    obtain ⟨_, _, ⟨T24, L24, k24, n24⟩, -, X24, ⟨Lc24, hQ24, l24, y24, z24⟩, st24⟩ := X23.virtualBack hx (y := (⟨"com/example/usherd/usherd/Published", "equals", "(Ljava/lang/Object;)Z"⟩ : MethodName)) (z := (⟨"com/example/usherd/usherd/Published", "equals", "(Ljava/lang/Object;)Z"⟩ : MethodName)) hown (mvT hZ (hw _ (List.mem_of_getElem? (i := 13) rfl))) (mvT hZ (hw _ (List.mem_of_getElem? (i := 14) rfl))) (notFace_of_selects (args := #[]) (mvT hZ (hw _ (List.mem_of_getElem? (i := 16) rfl)))) (mvT hZ (hw _ (List.mem_of_getElem? (i := 16) rfl))) (mvT hZ (hw _ (List.mem_of_getElem? (i := 15) rfl))) (by decide) (backOf (W := 0) (rm3n l Z ta hw [] b5  T8.heap n0 ) hZ (hw _ (List.mem_of_getElem? (i := 17) rfl)) (hw _ (List.mem_of_getElem? (i := 2) rfl)) (by decide) (by decide)) q24a q24c (g := (mkF m 127 #[.val (.int p0), .val (.long q1), .second, .val (.int p2), .val (.long q3), .second, .val (.int p4), .val (.int sq), .val (.int so), .val (.int qq), .val (.long oo), .second, .val (.ref b5), .val (.ref b7), .val (.int (0 : Int32)), .val (.int (F3 b5 b7 p0 q1 qq oo)), .val (.int (F3 b7 b5 qq oo p0 q1)), .val (.int (F3 b5 b5 p0 q1 p0 q1)), .unset, .unset] [.null, (.ref b5)])) rfl (by rw [hml]; rfl) (Steps.refl _) (argsL := [.null]) (rest := []) (lenOf pd_0_1 rfl) rfl (by show 2 * 0 + _ ≤ _; exact Nat.le_of_eq rfl) (hb hby at_127) (fun _ _ => ⟨rfl, e23, (by decide : (((((((0 + 1) + 0) + 1) + 0) + 0) + 0) + 0) + 0 ≤ _), (by decide : (((((((0 + 2) + 0) + 2) + 0) + 0) + 0) + 0) + 0 ≤ _)⟩)
    dsimp only [Pt.U, Pt.locs, Pt.cells, Pt.slots] at X24 l24 y24 z24 st24 hQ24
    subst l24 y24 z24
    obtain ⟨rfl, N24q, e24⟩ := hQ24
    replace e24 := e24
    have N24 := Fr.app N23 N24q
    refine own_go (B := (T24.setTop (mkF m 130 #[.val (.int p0), .val (.long q1), .second, .val (.int p2), .val (.long q3), .second, .val (.int p4), .val (.int sq), .val (.int so), .val (.int qq), .val (.long oo), .second, .val (.ref b5), .val (.ref b7), .val (.int (0 : Int32)), .val (.int (F3 b5 b7 p0 q1 qq oo)), .val (.int (F3 b7 b5 qq oo p0 q1)), .val (.int (F3 b5 b5 p0 q1 p0 q1)), .unset, .unset] [(.int (0 : Int32))]))) (fun t k => st24.trans k) ?_
    refine own_go (B := (T24.setTop (mkF m 132 #[.val (.int p0), .val (.long q1), .second, .val (.int p2), .val (.long q3), .second, .val (.int p4), .val (.int sq), .val (.int so), .val (.int qq), .val (.long oo), .second, .val (.ref b5), .val (.ref b7), .val (.int (0 : Int32)), .val (.int (F3 b5 b7 p0 q1 qq oo)), .val (.int (F3 b7 b5 qq oo p0 q1)), .val (.int (F3 b5 b5 p0 q1 p0 q1)), .val (.int (0 : Int32)), .unset] []))) (fun t k => XS.istore X24.here hx rfl (hb hby at_130) rfl (l' := #[.val (.int p0), .val (.long q1), .second, .val (.int p2), .val (.long q3), .second, .val (.int p4), .val (.int sq), .val (.int so), .val (.int qq), .val (.long oo), .second, .val (.ref b5), .val (.ref b7), .val (.int (0 : Int32)), .val (.int (F3 b5 b7 p0 q1 qq oo)), .val (.int (F3 b7 b5 qq oo p0 q1)), .val (.int (F3 b5 b5 p0 q1 p0 q1)), .val (.int (0 : Int32)), .unset]) rfl k) ?_
    refine own_go (B := (T24.setTop (mkF m 134 #[.val (.int p0), .val (.long q1), .second, .val (.int p2), .val (.long q3), .second, .val (.int p4), .val (.int sq), .val (.int so), .val (.int qq), .val (.long oo), .second, .val (.ref b5), .val (.ref b7), .val (.int (0 : Int32)), .val (.int (F3 b5 b7 p0 q1 qq oo)), .val (.int (F3 b7 b5 qq oo p0 q1)), .val (.int (F3 b5 b5 p0 q1 p0 q1)), .val (.int (0 : Int32)), .unset] [(.ref b5)]))) (fun t k => XS.aload X24.here hx rfl (hb hby at_132) rfl rfl k) ?_
    refine own_go (B := (T24.setTop (mkF m 135 #[.val (.int p0), .val (.long q1), .second, .val (.int p2), .val (.long q3), .second, .val (.int p4), .val (.int sq), .val (.int so), .val (.int qq), .val (.long oo), .second, .val (.ref b5), .val (.ref b7), .val (.int (0 : Int32)), .val (.int (F3 b5 b7 p0 q1 qq oo)), .val (.int (F3 b7 b5 qq oo p0 q1)), .val (.int (F3 b5 b5 p0 q1 p0 q1)), .val (.int (0 : Int32)), .unset] [(.long q1), (.ref b5)]))) (fun t k => XS.lloadN X24.here hx rfl (hb hby at_134) rfl k) ?_
    obtain ⟨_, _, ⟨T25, L25, k25, n25⟩, -, X25, ⟨Lc25, hQ25, l25, y25, z25⟩, st25⟩ := Jvm.LawKit.callS X24 hx (y := (⟨"java/lang/Long", "valueOf", "(J)Ljava/lang/Long;"⟩ : MethodName)) hown (mvT hZ (hw _ (List.mem_of_getElem? (i := 20) rfl))) (mvT hZ (hw _ (List.mem_of_getElem? (i := 21) rfl))) (mvT hZ (hw _ (List.mem_of_getElem? (i := 22) rfl))) (mvT hZ (hw _ (List.mem_of_getElem? (i := 23) rfl))) (by decide) (backOf (W := 1) (rm4 l Z ta hw [] q1 ca cc vf T8.heap n0 Zs8 O8 Sc Bx) hZ (hw _ (List.mem_of_getElem? (i := 23) rfl)) (hw _ (List.mem_of_getElem? (i := 22) rfl)) (by decide) (by decide)) (g := (mkF m 135 #[.val (.int p0), .val (.long q1), .second, .val (.int p2), .val (.long q3), .second, .val (.int p4), .val (.int sq), .val (.int so), .val (.int qq), .val (.long oo), .second, .val (.ref b5), .val (.ref b7), .val (.int (0 : Int32)), .val (.int (F3 b5 b7 p0 q1 qq oo)), .val (.int (F3 b7 b5 qq oo p0 q1)), .val (.int (F3 b5 b5 p0 q1 p0 q1)), .val (.int (0 : Int32)), .unset] [(.long q1), (.ref b5)])) rfl (by rw [hml]; rfl) (argsL := [(.long q1)]) (rest := [(.ref b5)]) (lenOf pd_0_2 rfl) rfl (by show 2 * 0 + _ ≤ _; exact Nat.le_of_eq rfl) (hb hby at_135) (fun _ _ => ⟨rfl, e24, (by decide : ((((((((0 + 1) + 0) + 1) + 0) + 0) + 0) + 0) + 0) + 1 ≤ _), (by decide : ((((((((0 + 2) + 0) + 2) + 0) + 0) + 0) + 0) + 0) + 1 ≤ _)⟩)
    dsimp only [Pt.U, Pt.locs, Pt.cells, Pt.slots] at X25 l25 y25 z25 st25 hQ25
    subst l25 y25 z25
    obtain ⟨r25, rfl, N25q, K25, Er25⟩ := hQ25
    have E_b5_25 := E_b5_8.keep K25
    have F_b5_queue_25 := F_b5_queue_8.keep K25 nin0
    have F_b5_offset_25 := F_b5_offset_8.keep K25 nin0
    have E_b7_25 := E_b7_8.keep K25
    have F_b7_queue_25 := Fq8_0.keep K25 nin0
    have F_b7_offset_25 := Fq8_1.keep K25 nin0
    have Zs25 : n0 ≤ T25.heap.size := Nat.le_trans Zs8 K25.1
    have O25 := O8.keep K25 all0
    have N25 := Fr.app N24 N25q
    refine own_go (B := (T25.setTop (mkF m 138 #[.val (.int p0), .val (.long q1), .second, .val (.int p2), .val (.long q3), .second, .val (.int p4), .val (.int sq), .val (.int so), .val (.int qq), .val (.long oo), .second, .val (.ref b5), .val (.ref b7), .val (.int (0 : Int32)), .val (.int (F3 b5 b7 p0 q1 qq oo)), .val (.int (F3 b7 b5 qq oo p0 q1)), .val (.int (F3 b5 b5 p0 q1 p0 q1)), .val (.int (0 : Int32)), .unset] [(.ref r25), (.ref b5)]))) (fun t k => st25 _ k) ?_
    obtain ⟨cq26, kq26, q26a, q26b, q26c⟩ := isOf hZ rfl E_b5_25
    obtain ⟨_, _, ⟨T26, L26, k26, n26⟩, -, X26, ⟨Lc26, hQ26, l26, y26, z26⟩, st26⟩ := X25.virtualBack hx (y := (⟨"com/example/usherd/usherd/Published", "equals", "(Ljava/lang/Object;)Z"⟩ : MethodName)) (z := (⟨"com/example/usherd/usherd/Published", "equals", "(Ljava/lang/Object;)Z"⟩ : MethodName)) hown (mvT hZ (hw _ (List.mem_of_getElem? (i := 13) rfl))) (mvT hZ (hw _ (List.mem_of_getElem? (i := 14) rfl))) (notFace_of_selects (args := #[]) (mvT hZ (hw _ (List.mem_of_getElem? (i := 16) rfl)))) (mvT hZ (hw _ (List.mem_of_getElem? (i := 16) rfl))) (mvT hZ (hw _ (List.mem_of_getElem? (i := 15) rfl))) (by decide) (backOf (W := 0) (rm3l l Z ta hw [] b5 r25  T25.heap n0 Er25) hZ (hw _ (List.mem_of_getElem? (i := 17) rfl)) (hw _ (List.mem_of_getElem? (i := 2) rfl)) (by decide) (by decide)) q26a q26c (g := (mkF m 138 #[.val (.int p0), .val (.long q1), .second, .val (.int p2), .val (.long q3), .second, .val (.int p4), .val (.int sq), .val (.int so), .val (.int qq), .val (.long oo), .second, .val (.ref b5), .val (.ref b7), .val (.int (0 : Int32)), .val (.int (F3 b5 b7 p0 q1 qq oo)), .val (.int (F3 b7 b5 qq oo p0 q1)), .val (.int (F3 b5 b5 p0 q1 p0 q1)), .val (.int (0 : Int32)), .unset] [(.ref r25), (.ref b5)])) rfl (by rw [hml]; rfl) (Steps.refl _) (argsL := [(.ref r25)]) (rest := []) (lenOf pd_0_1 rfl) rfl (by show 2 * 0 + _ ≤ _; exact Nat.le_of_eq rfl) (hb hby at_138) (fun _ _ => ⟨rfl, rfl, (by decide : (((((((((0 + 1) + 0) + 1) + 0) + 0) + 0) + 0) + 0) + 1) + 0 ≤ _), (by decide : (((((((((0 + 2) + 0) + 2) + 0) + 0) + 0) + 0) + 0) + 1) + 0 ≤ _)⟩)
    dsimp only [Pt.U, Pt.locs, Pt.cells, Pt.slots] at X26 l26 y26 z26 st26 hQ26
    subst l26 y26 z26
    obtain ⟨rfl, N26q, e26⟩ := hQ26
    replace e26 := e26
    have N26 := Fr.app N25 N26q
    refine own_go (B := (T26.setTop (mkF m 141 #[.val (.int p0), .val (.long q1), .second, .val (.int p2), .val (.long q3), .second, .val (.int p4), .val (.int sq), .val (.int so), .val (.int qq), .val (.long oo), .second, .val (.ref b5), .val (.ref b7), .val (.int (0 : Int32)), .val (.int (F3 b5 b7 p0 q1 qq oo)), .val (.int (F3 b7 b5 qq oo p0 q1)), .val (.int (F3 b5 b5 p0 q1 p0 q1)), .val (.int (0 : Int32)), .unset] [(.int (0 : Int32))]))) (fun t k => st26.trans k) ?_
    refine own_go (B := (T26.setTop (mkF m 143 #[.val (.int p0), .val (.long q1), .second, .val (.int p2), .val (.long q3), .second, .val (.int p4), .val (.int sq), .val (.int so), .val (.int qq), .val (.long oo), .second, .val (.ref b5), .val (.ref b7), .val (.int (0 : Int32)), .val (.int (F3 b5 b7 p0 q1 qq oo)), .val (.int (F3 b7 b5 qq oo p0 q1)), .val (.int (F3 b5 b5 p0 q1 p0 q1)), .val (.int (0 : Int32)), .val (.int (0 : Int32))] []))) (fun t k => XS.istore X26.here hx rfl (hb hby at_141) rfl (l' := #[.val (.int p0), .val (.long q1), .second, .val (.int p2), .val (.long q3), .second, .val (.int p4), .val (.int sq), .val (.int so), .val (.int qq), .val (.long oo), .second, .val (.ref b5), .val (.ref b7), .val (.int (0 : Int32)), .val (.int (F3 b5 b7 p0 q1 qq oo)), .val (.int (F3 b7 b5 qq oo p0 q1)), .val (.int (F3 b5 b5 p0 q1 p0 q1)), .val (.int (0 : Int32)), .val (.int (0 : Int32))]) rfl k) ?_
    refine own_go (B := (T26.setTop (mkF m 145 #[.val (.int p0), .val (.long q1), .second, .val (.int p2), .val (.long q3), .second, .val (.int p4), .val (.int sq), .val (.int so), .val (.int qq), .val (.long oo), .second, .val (.ref b5), .val (.ref b7), .val (.int (0 : Int32)), .val (.int (F3 b5 b7 p0 q1 qq oo)), .val (.int (F3 b7 b5 qq oo p0 q1)), .val (.int (F3 b5 b5 p0 q1 p0 q1)), .val (.int (0 : Int32)), .val (.int (0 : Int32))] [(.int (F3 b5 b7 p0 q1 qq oo))]))) (fun t k => XS.iload X26.here hx rfl (hb hby at_143) rfl k) ?_
    refine own_go (B := (T26.setTop (mkF m 147 #[.val (.int p0), .val (.long q1), .second, .val (.int p2), .val (.long q3), .second, .val (.int p4), .val (.int sq), .val (.int so), .val (.int qq), .val (.long oo), .second, .val (.ref b5), .val (.ref b7), .val (.int (0 : Int32)), .val (.int (F3 b5 b7 p0 q1 qq oo)), .val (.int (F3 b7 b5 qq oo p0 q1)), .val (.int (F3 b5 b5 p0 q1 p0 q1)), .val (.int (0 : Int32)), .val (.int (0 : Int32))] [(.int (0 : Int32)), (.int (F3 b5 b7 p0 q1 qq oo))]))) (fun t k => XS.iload X26.here hx rfl (hb hby at_145) rfl k) ?_
    refine own_go (B := (T26.setTop (mkF m 150 #[.val (.int p0), .val (.long q1), .second, .val (.int p2), .val (.long q3), .second, .val (.int p4), .val (.int sq), .val (.int so), .val (.int qq), .val (.long oo), .second, .val (.ref b5), .val (.ref b7), .val (.int (0 : Int32)), .val (.int (F3 b5 b7 p0 q1 qq oo)), .val (.int (F3 b7 b5 qq oo p0 q1)), .val (.int (F3 b5 b5 p0 q1 p0 q1)), .val (.int (0 : Int32)), .val (.int (0 : Int32))] []))) (fun t k => XS.icmpNo X26.here hx rfl (hb hby at_147) rfl (teq (by simp [F3, Ne.symm hc80, hc80])).2 k) ?_
    refine own_go (B := (T26.setTop (mkF m 152 #[.val (.int p0), .val (.long q1), .second, .val (.int p2), .val (.long q3), .second, .val (.int p4), .val (.int sq), .val (.int so), .val (.int qq), .val (.long oo), .second, .val (.ref b5), .val (.ref b7), .val (.int (0 : Int32)), .val (.int (F3 b5 b7 p0 q1 qq oo)), .val (.int (F3 b7 b5 qq oo p0 q1)), .val (.int (F3 b5 b5 p0 q1 p0 q1)), .val (.int (0 : Int32)), .val (.int (0 : Int32))] [(.int (F3 b7 b5 qq oo p0 q1))]))) (fun t k => XS.iload X26.here hx rfl (hb hby at_150) rfl k) ?_
    refine own_go (B := (T26.setTop (mkF m 154 #[.val (.int p0), .val (.long q1), .second, .val (.int p2), .val (.long q3), .second, .val (.int p4), .val (.int sq), .val (.int so), .val (.int qq), .val (.long oo), .second, .val (.ref b5), .val (.ref b7), .val (.int (0 : Int32)), .val (.int (F3 b5 b7 p0 q1 qq oo)), .val (.int (F3 b7 b5 qq oo p0 q1)), .val (.int (F3 b5 b5 p0 q1 p0 q1)), .val (.int (0 : Int32)), .val (.int (0 : Int32))] [(.int (0 : Int32)), (.int (F3 b7 b5 qq oo p0 q1))]))) (fun t k => XS.iload X26.here hx rfl (hb hby at_152) rfl k) ?_
    refine own_go (B := (T26.setTop (mkF m 157 #[.val (.int p0), .val (.long q1), .second, .val (.int p2), .val (.long q3), .second, .val (.int p4), .val (.int sq), .val (.int so), .val (.int qq), .val (.long oo), .second, .val (.ref b5), .val (.ref b7), .val (.int (0 : Int32)), .val (.int (F3 b5 b7 p0 q1 qq oo)), .val (.int (F3 b7 b5 qq oo p0 q1)), .val (.int (F3 b5 b5 p0 q1 p0 q1)), .val (.int (0 : Int32)), .val (.int (0 : Int32))] []))) (fun t k => XS.icmpNo X26.here hx rfl (hb hby at_154) rfl (teq (by simp [F3, Ne.symm hc80, hc80])).2 k) ?_
    refine own_go (B := (T26.setTop (mkF m 159 #[.val (.int p0), .val (.long q1), .second, .val (.int p2), .val (.long q3), .second, .val (.int p4), .val (.int sq), .val (.int so), .val (.int qq), .val (.long oo), .second, .val (.ref b5), .val (.ref b7), .val (.int (0 : Int32)), .val (.int (F3 b5 b7 p0 q1 qq oo)), .val (.int (F3 b7 b5 qq oo p0 q1)), .val (.int (F3 b5 b5 p0 q1 p0 q1)), .val (.int (0 : Int32)), .val (.int (0 : Int32))] [(.int (F3 b5 b5 p0 q1 p0 q1))]))) (fun t k => XS.iload X26.here hx rfl (hb hby at_157) rfl k) ?_
    refine own_go (B := (T26.setTop (mkF m 162 #[.val (.int p0), .val (.long q1), .second, .val (.int p2), .val (.long q3), .second, .val (.int p4), .val (.int sq), .val (.int so), .val (.int qq), .val (.long oo), .second, .val (.ref b5), .val (.ref b7), .val (.int (0 : Int32)), .val (.int (F3 b5 b7 p0 q1 qq oo)), .val (.int (F3 b7 b5 qq oo p0 q1)), .val (.int (F3 b5 b5 p0 q1 p0 q1)), .val (.int (0 : Int32)), .val (.int (0 : Int32))] []))) (fun t k => XS.ifNo X26.here hx rfl (hb hby at_159) rfl ((if0 _ _).trans (feq (by simp [F3])).1) k) ?_
    refine own_go (B := (T26.setTop (mkF m 164 #[.val (.int p0), .val (.long q1), .second, .val (.int p2), .val (.long q3), .second, .val (.int p4), .val (.int sq), .val (.int so), .val (.int qq), .val (.long oo), .second, .val (.ref b5), .val (.ref b7), .val (.int (0 : Int32)), .val (.int (F3 b5 b7 p0 q1 qq oo)), .val (.int (F3 b7 b5 qq oo p0 q1)), .val (.int (F3 b5 b5 p0 q1 p0 q1)), .val (.int (0 : Int32)), .val (.int (0 : Int32))] [(.int (0 : Int32))]))) (fun t k => XS.iload X26.here hx rfl (hb hby at_162) rfl k) ?_
    refine own_go (B := (T26.setTop (mkF m 167 #[.val (.int p0), .val (.long q1), .second, .val (.int p2), .val (.long q3), .second, .val (.int p4), .val (.int sq), .val (.int so), .val (.int qq), .val (.long oo), .second, .val (.ref b5), .val (.ref b7), .val (.int (0 : Int32)), .val (.int (F3 b5 b7 p0 q1 qq oo)), .val (.int (F3 b7 b5 qq oo p0 q1)), .val (.int (F3 b5 b5 p0 q1 p0 q1)), .val (.int (0 : Int32)), .val (.int (0 : Int32))] []))) (fun t k => XS.ifNo X26.here hx rfl (hb hby at_164) rfl ((if0 _ _).trans (teq (by decide)).2) k) ?_
    refine own_go (B := (T26.setTop (mkF m 169 #[.val (.int p0), .val (.long q1), .second, .val (.int p2), .val (.long q3), .second, .val (.int p4), .val (.int sq), .val (.int so), .val (.int qq), .val (.long oo), .second, .val (.ref b5), .val (.ref b7), .val (.int (0 : Int32)), .val (.int (F3 b5 b7 p0 q1 qq oo)), .val (.int (F3 b7 b5 qq oo p0 q1)), .val (.int (F3 b5 b5 p0 q1 p0 q1)), .val (.int (0 : Int32)), .val (.int (0 : Int32))] [(.int (0 : Int32))]))) (fun t k => XS.iload X26.here hx rfl (hb hby at_167) rfl k) ?_
    refine own_go (B := (T26.setTop (mkF m 172 #[.val (.int p0), .val (.long q1), .second, .val (.int p2), .val (.long q3), .second, .val (.int p4), .val (.int sq), .val (.int so), .val (.int qq), .val (.long oo), .second, .val (.ref b5), .val (.ref b7), .val (.int (0 : Int32)), .val (.int (F3 b5 b7 p0 q1 qq oo)), .val (.int (F3 b7 b5 qq oo p0 q1)), .val (.int (F3 b5 b5 p0 q1 p0 q1)), .val (.int (0 : Int32)), .val (.int (0 : Int32))] []))) (fun t k => XS.ifNo X26.here hx rfl (hb hby at_169) rfl ((if0 _ _).trans (teq (by decide)).2) k) ?_
    refine own_go (B := (T26.setTop (mkF m 173 #[.val (.int p0), .val (.long q1), .second, .val (.int p2), .val (.long q3), .second, .val (.int p4), .val (.int sq), .val (.int so), .val (.int qq), .val (.long oo), .second, .val (.ref b5), .val (.ref b7), .val (.int (0 : Int32)), .val (.int (F3 b5 b7 p0 q1 qq oo)), .val (.int (F3 b7 b5 qq oo p0 q1)), .val (.int (F3 b5 b5 p0 q1 p0 q1)), .val (.int (0 : Int32)), .val (.int (0 : Int32))] [(.int (1 : Int32))]))) (fun t k => XS.iconst X26.here hx rfl (hb hby at_172) k) ?_
    refine own_go (B := (T26.setTop (mkF m 177 #[.val (.int p0), .val (.long q1), .second, .val (.int p2), .val (.long q3), .second, .val (.int p4), .val (.int sq), .val (.int so), .val (.int qq), .val (.long oo), .second, .val (.ref b5), .val (.ref b7), .val (.int (0 : Int32)), .val (.int (F3 b5 b7 p0 q1 qq oo)), .val (.int (F3 b7 b5 qq oo p0 q1)), .val (.int (F3 b5 b5 p0 q1 p0 q1)), .val (.int (0 : Int32)), .val (.int (0 : Int32))] [(.int (1 : Int32))]))) (fun t k => XS.goto X26.here hx rfl (pc0 := 173) (pc' := 177) rfl (hb hby at_173) (by decide) (by decide) k) ?_
    obtain ⟨fs, hr, hrun, hended, hW, hsame⟩ := X26.leave (v := some (.int (1 : Int32))) (fun h => by rw [Bd.returns] at h; cases h)
    exact ⟨_, _, retN X26 hx (t := .boolean) Bd.returns (by simp) (hb hby at_177) hr, hrun, hended, _, _, rfl, ⟨rfl, N26⟩, ⟨_, rfl⟩, hW, hsame.mono (by decide) (by decide)⟩
theorem own_eqi {t : Jvm.Term} {n : Int32} {args : Array Value} {s : State} (h : (Jvm.Cond.eq t (.int n)).value args s none s [] = some true) : t.eval args s none [] s = some (.int n) := by
  obtain ⟨x, y, h1, h2, h3, h4⟩ := cmp_v (Or.inl h)
  obtain rfl : y = .int n := (Option.some.inj (h2.symm.trans (Term.int_eval n)))
  obtain ⟨z, rfl⟩ := h4
  have h5 : z = n := by simpa [Cond.value, h1, h2] using h
  rw [h1, h5]
theorem own_len {t : Jvm.Term} {n : Int32} {args : Array Value} {s : State} {a : Addr} {c : Cell} {ty : FieldType} (ev : t.eval args s none [] s = some (.ref a)) (A : Arr s s.heap a c ty) (h : (Jvm.Term.length t).eval args s none [] s = some (.int n)) : c.slots.size < 2 ^ 31 ∧ c.slots.size.toInt32 = n := by
  have h1 := Arr.fin (State.Warmed39.refl s).alike A
  by_cases q : c.slots.size < 2 ^ 31
  · have e := (len_f ev h1 q).symm.trans h
    simp only [Option.some.injEq, Value.int.injEq] at e
    exact ⟨q, e⟩
  · simp [Term.eval, ev, h1, q] at h
theorem own_sub {args : Array Value} {Z : State} {j : Int32} (hj : ¬ j < 0) : (Jvm.Term.sub (.index 0) (.int (128 : Int32))).eval args Z none [j.toNatClampNeg] Z = some (.int (j - (128 : Int32))) := by
  have h := idx_at (args := args) (s := Z) (first := Z) (o := none) hj
  simp only [Term.eval] at h ⊢
  simp [h]
  exact (back32 hj).1
set_option maxRecDepth 65536 in
set_option maxHeartbeats 40000000 in
theorem comes_1 {Post : Tables → Env → Array Value → State → Outcome → State → Prop} (hpost : ∀ tb e args s v u, (limb_1_1.after args s (.returned v) u = true ∧ limb_1_2.after args s (.returned v) u = true ∧ True) → FrameEnd s (.returned v) u (Jvm.fieldLocs frame_1_writes args s ++ Jvm.arrayLocs frame_1_arrays args s ++ Jvm.staticLocs frame_1_statics s) 16 128 → Post tb e args s (.returned v) u) :
    ArmFor flags0 classFile x code maxLocals ret World_1 tables_1 room_1 Calls_1 rest_1 Pre_1 Post := by
  intro l hfl _ _ p e ha hc hk s m args below hf hA hF happ hP
  obtain ⟨hcalls, hrest, hpre⟩ := hP
  obtain ⟨-, -, -, hnamed, -, -, -, hat⟩ := (Spec.applies_iff hf).mp happ
  obtain ⟨hg, hn⟩ := and_e (Cond.before_iff.mp (show (Jvm.Cond.and given_1 narrow_1).before args s = true from hpre))
  obtain ⟨gc, g0⟩ := and_e hg
  obtain ⟨gg0, g1⟩ := and_e g0
  obtain ⟨gg1, g2⟩ := and_e g1
  obtain ⟨gg2, g3⟩ := and_e g2
  obtain ⟨gg3, g4⟩ := and_e g3
  obtain ⟨w0, w1, w2, w3, w4, rfl⟩ : ∃ w0 w1 w2 w3 w4 : Value, args = #[w0, w1, w2, w3, w4] := by
    have hs : args.size = 5 := by simpa [Cond.value, given_1] using gc
    obtain ⟨L⟩ := args
    match L, hs with
    | [w0, w1, w2, w3, w4], _ => exact ⟨w0, w1, w2, w3, w4, rfl⟩
  have hw := fun d (hd : d ∈ tables_1) => atoms_spec (ws := Jvm.Cond.code x code maxLocals ret :: tables_1) hat d (List.mem_cons_of_mem _ hd)
  have hfit : Fit s := fun {y c} hc i hi => by
    obtain ⟨ha, rfl⟩ := Array.getElem?_eq_some_iff.mp hc
    have q := List.all_eq_true.mp ((Array.all_eq_true_iff_forall_mem.mp hF) _ (Array.getElem_mem ha)) i (List.mem_range.mpr hi)
    simpa [Array.getElem?_eq_getElem hi] using q
  obtain ⟨i0, ei0⟩ := is_v gg0
  obtain rfl : w0 = (.int i0) := Option.some.inj ei0
  obtain ⟨i1, ei1⟩ := isL_v gg1
  obtain rfl : w1 = (.long i1) := Option.some.inj ei1
  obtain ⟨i2, ei2⟩ := is_v gg2
  obtain rfl : w2 = (.int i2) := Option.some.inj ei2
  obtain ⟨i3, ei3⟩ := isL_v gg3
  obtain rfl : w3 = (.long i3) := Option.some.inj ei3
  obtain ⟨i4, ei4⟩ := is_v g4
  obtain rfl : w4 = (.int i4) := Option.some.inj ei4
  have hsets := (atoms_of jdkStatics_1 (show (jdkStatics_1.foldr Jvm.Cond.and restOwn_1).before _ s = true from hrest)).1
  have jw := fun (k : Nat) (d : Jvm.Cond) (hd : jdkStatics_1[k]? = some d) => hsets d (List.mem_of_getElem? hd)
  obtain ⟨ca, hca⟩ := arr_v (Cond.before_iff.mp (jw 2 _ rfl))
  have Sc := Sta.start hca (Or.inl (jw 1 _ rfl))
  obtain ⟨cc, Acc⟩ := Arr.start hca (Cond.before_iff.mp (jw 2 _ rfl))
  obtain ⟨lenLt, lenEq⟩ := own_len hca Acc (own_eqi (Cond.before_iff.mp (jw 4 _ rfl)))
  have Bx := Bxs.start (K := "java/lang/Long") (d := "J") (z := (256 : Int32)) (val := fun j => .long (j - (128 : Int32)).toInt64) (fun idx => hca) Acc lenLt lenEq (by decide) (Cond.before_iff.mp (jw 5 _ rfl)) (fun X j hj h => eqv_l (i2l_at (own_sub hj)) h)
  obtain ⟨n, o, h1, h2, h3, _, L, rfl, ⟨rfl, N⟩, hq⟩ := rm0 l s _ hw tables_1 i0 i1 i2 i3 i4 ca cc _ s.heap s.heap.size (Nat.le_refl _) (Old.start s) Sc Bx p e ha hc hk s m _ below hf ((Spec.applies_iff_loose hf).mp happ).1 ⟨rfl, State.Warmed39.refl s, rfl⟩ trivial
  refine ⟨n, _, h1, h2, h3, hpost _ _ _ _ _ _ ⟨Cond.after_iff.mpr rfl, Cond.after_iff.mpr (eq_i res_at (Term.int_eval (1)) rfl), trivial⟩ ⟨hq.1, hq.2.1, (hq.2.2.sift fun y hy => Or.inr (N y hy)).mono (by decide) (by decide)⟩⟩
theorem main_1_1 : Claimed_1_1 := comes_1 fun _ _ _ _ _ _ h hF => ⟨h.1, hF⟩
theorem main_1_2 : Claimed_1_2 := comes_1 fun _ _ _ _ _ _ h hF => ⟨h.2.1, hF⟩
end Jvm.Pilot.@@N@@
namespace Jvm.Pilot.@@N@@
open Jvm Jvm.ClassFile Sem Op Lib Jvm.Free Jvm.Stand Jvm.Pilot.@@N@@.Jvm.D
/-! MADE BY PROGRAM (witnessworld.py) out of the Statement's table words and the real class files: 16 classes; the members and pool entries that the words name. The judged class is class 1, her method 1. -/
namespace start1
open Jvm.ClassFile
def u (s : String) : CpInfo := .utf8 (stringToUtf16 s)
/-- a pool by its gaps: so many unusable entries, then the entry; so many at the end -/
def gap : Nat → List CpInfo → List CpInfo
  | 0, r => r
  | n + 1, r => .unusable :: gap n r
def poolList (es : List (Nat × CpInfo)) (last : Nat) : List CpInfo := es.foldr (fun e r => gap e.1 (e.2 :: r)) (gap last [])
def pool (es : List (Nat × CpInfo)) (last : Nat) : Array CpInfo := ⟨poolList es last⟩
def fileOf (pool : Array CpInfo) (this : Nat) (attrs : Array Attribute := #[]) (ms : Array MethodInfo := #[]) (fl : Nat := 33) (sup : Nat := 0) (ifs : Array Nat := #[]) (fds : Array FieldInfo := #[]) : ClassFile where
  minorVersion := 0
  majorVersion := 65
  constantPool := pool
  accessFlags := fl
  thisClass := this
  superClass := sup
  interfaces := ifs
  fields := fds
  methods := ms
  attributes := attrs
def plain (name : String) (sup : Option ClassId) : Class where
  name := name
  kind := .ordinary
  loader := none
  accessFlags := 33
  super := sup
  interfaces := #[]
  cf := none
  fields := #[]
  methods := #[]
  instanceTypes := #[]
  staticTypes := #[]
  resolved := #[]
  callSites := []
  init := .initialized
  statics := none
  mirror := none

def pool0 : Array CpInfo := pool [(5, u "<init>"), (0, u "()V"), (1, .class_ 10), (1, u "java/lang/Object")] 113

def k0c0 : Code := { maxStack := 0, maxLocals := 1, code := object_method_1_code, exceptionTable := #[], attributes := #[] }
def k0m0 : Method := { name := "<init>", desc := "()V", sig := { parameters := [], returnType := none }, accessFlags := 1, code := some k0c0 }
/-- java/lang/Object -/
def k0 : Class := { plain "java/lang/Object" none with
  accessFlags := 33
  interfaces := #[]
  cf := some (fileOf pool0 8 #[] #[{ accessFlags := 1, nameIndex := 5, descriptorIndex := 6, attributes := #[] }] 33 0 #[] #[])
  fields := #[]
  methods := #[k0m0]
  instanceTypes := #[]
  staticTypes := #[]
  resolved := Array.replicate 124 none
  statics := none }

def pool1 : Array CpInfo := pool [(2, .class_ 4), (1, u "java/lang/Object"), (0, u "<init>"), (0, u "()V"), (0, .class_ 8), (0, u "com/example/usherd/usherd/Published"), (0, .methodref 7 10), (0, .nameAndType 5 11), (0, u "(IJ)V"), (0, .methodref 7 13), (0, .nameAndType 14 15), (0, u "equals"), (0, u "(Ljava/lang/Object;)Z"), (0, .methodref 17 18), (0, .class_ 19), (0, .nameAndType 20 21), (0, u "java/lang/Long"), (0, u "valueOf"), (0, u "(J)Ljava/lang/Long;"), (0, .class_ 23), (0, u "com/example/usherd/usherd/PublishedEqualsPinLaw"), (2, u "law"), (0, u "(IJIJI)Z")] 3

def k1m0 : Method := { name := "<init>", desc := "()V", sig := { parameters := [], returnType := none }, accessFlags := 1, code := none }
def k1c1 : Code := { maxStack := 5, maxLocals := 20, code := code, exceptionTable := #[], attributes := #[] }
def k1m1 : Method := { name := "law", desc := "(IJIJI)Z", sig := { parameters := [.int, .long, .int, .long, .int], returnType := some .boolean }, accessFlags := 9, code := some k1c1 }
/-- com/example/usherd/usherd/PublishedEqualsPinLaw -/
def k1 : Class := { plain "com/example/usherd/usherd/PublishedEqualsPinLaw" (some 0) with
  accessFlags := 49
  interfaces := #[]
  cf := some (fileOf pool1 22 #[] #[{ accessFlags := 1, nameIndex := 5, descriptorIndex := 6, attributes := #[] }, { accessFlags := 9, nameIndex := 26, descriptorIndex := 27, attributes := #[] }] 49 2 #[] #[])
  fields := #[]
  methods := #[k1m0, k1m1]
  instanceTypes := #[]
  staticTypes := #[]
  resolved := Array.replicate 31 none
  statics := none }

def pool2 : Array CpInfo := pool [(1, .methodref 2 3), (0, .class_ 4), (0, .nameAndType 5 6), (0, u "java/lang/Object"), (0, u "<init>"), (0, u "()V"), (0, .fieldref 8 9), (0, .class_ 10), (0, .nameAndType 11 12), (0, u "com/example/usherd/usherd/Published"), (0, u "queue"), (0, u "I"), (0, .fieldref 8 14), (0, .nameAndType 15 16), (0, u "offset"), (0, u "J"), (10, u "(IJ)V"), (4, u "equals"), (0, u "(Ljava/lang/Object;)Z")] 20

def k2c0 : Code := { maxStack := 3, maxLocals := 4, code := prog_19_method_1_code, exceptionTable := #[], attributes := #[] }
def k2m0 : Method := { name := "<init>", desc := "(IJ)V", sig := { parameters := [.int, .long], returnType := none }, accessFlags := 0, code := some k2c0 }
def k2c1 : Code := { maxStack := 4, maxLocals := 3, code := prog_19_method_4_code, exceptionTable := #[], attributes := #[] }
def k2m1 : Method := { name := "equals", desc := "(Ljava/lang/Object;)Z", sig := { parameters := [(.object "java/lang/Object")], returnType := some .boolean }, accessFlags := 1, code := some k2c1 }
/-- com/example/usherd/usherd/Published -/
def k2 : Class := { plain "com/example/usherd/usherd/Published" (some 0) with
  accessFlags := 49
  interfaces := #[]
  cf := some (fileOf pool2 8 #[] #[{ accessFlags := 0, nameIndex := 5, descriptorIndex := 27, attributes := #[] }, { accessFlags := 1, nameIndex := 32, descriptorIndex := 33, attributes := #[] }] 49 2 #[] #[{ accessFlags := 18, nameIndex := 11, descriptorIndex := 12, attributes := #[] }, { accessFlags := 18, nameIndex := 15, descriptorIndex := 16, attributes := #[] }])
  fields := #[{ name := "queue", type := .int, accessFlags := 18, slot := 0, constantValue := 0 }, { name := "offset", type := .long, accessFlags := 18, slot := 1, constantValue := 0 }]
  methods := #[k2m0, k2m1]
  instanceTypes := #[.int, .long]
  staticTypes := #[]
  resolved := Array.replicate 54 none
  statics := none }

def pool3 : Array CpInfo := pool [(1, .class_ 2), (0, u "java/io/Serializable"), (0, .class_ 4), (0, u "java/lang/Object")] 2

/-- java/io/Serializable -/
def k3 : Class := { plain "java/io/Serializable" (some 0) with
  accessFlags := 1537
  interfaces := #[]
  cf := some (fileOf pool3 1 #[] #[] 1537 3 #[] #[])
  fields := #[]
  methods := #[]
  instanceTypes := #[]
  staticTypes := #[]
  resolved := Array.replicate 7 none
  statics := none }

def pool4 : Array CpInfo := pool [(1, .methodref 2 3), (0, .class_ 4), (0, .nameAndType 5 6), (0, u "java/lang/Object"), (0, u "<init>"), (0, u "()V"), (1, .class_ 10), (1, u "java/lang/Number"), (2, .class_ 14), (0, u "java/io/Serializable"), (0, u "serialVersionUID"), (0, u "J")] 20

def k4c0 : Code := { maxStack := 1, maxLocals := 1, code := jdk_18_method_1_code, exceptionTable := #[], attributes := #[] }
def k4m0 : Method := { name := "<init>", desc := "()V", sig := { parameters := [], returnType := none }, accessFlags := 1, code := some k4c0 }
/-- java/lang/Number -/
def k4 : Class := { plain "java/lang/Number" (some 0) with
  accessFlags := 1057
  interfaces := #[3]
  cf := some (fileOf pool4 8 #[] #[{ accessFlags := 1, nameIndex := 5, descriptorIndex := 6, attributes := #[] }] 1057 2 #[13] #[{ accessFlags := 26, nameIndex := 15, descriptorIndex := 16, attributes := #[] }])
  fields := #[{ name := "serialVersionUID", type := .long, accessFlags := 26, slot := 0, constantValue := 0 }]
  methods := #[k4m0]
  instanceTypes := #[]
  staticTypes := #[.long]
  resolved := Array.replicate 37 none
  statics := none }

def pool5 : Array CpInfo := pool [(1, .class_ 2), (0, u "java/lang/Comparable"), (0, .class_ 4), (0, u "java/lang/Object")] 7

/-- java/lang/Comparable -/
def k5 : Class := { plain "java/lang/Comparable" (some 0) with
  accessFlags := 1537
  interfaces := #[]
  cf := some (fileOf pool5 1 #[] #[] 1537 3 #[] #[])
  fields := #[]
  methods := #[]
  instanceTypes := #[]
  staticTypes := #[]
  resolved := Array.replicate 12 none
  statics := none }

def pool6 : Array CpInfo := pool [(1, .class_ 2), (0, u "java/lang/constant/Constable"), (0, .class_ 4), (0, u "java/lang/Object")] 6

/-- java/lang/constant/Constable -/
def k6 : Class := { plain "java/lang/constant/Constable" (some 0) with
  accessFlags := 1537
  interfaces := #[]
  cf := some (fileOf pool6 1 #[] #[] 1537 3 #[] #[])
  fields := #[]
  methods := #[]
  instanceTypes := #[]
  staticTypes := #[]
  resolved := Array.replicate 11 none
  statics := none }

def pool7 : Array CpInfo := pool [(1, .class_ 2), (0, u "java/lang/constant/ConstantDesc"), (0, .class_ 4), (0, u "java/lang/Object")] 32

/-- java/lang/constant/ConstantDesc -/
def k7 : Class := { plain "java/lang/constant/ConstantDesc" (some 0) with
  accessFlags := 1537
  interfaces := #[]
  cf := some (fileOf pool7 1 #[] #[] 1537 3 #[] #[])
  fields := #[]
  methods := #[]
  instanceTypes := #[]
  staticTypes := #[]
  resolved := Array.replicate 37 none
  statics := none }

def pool8 : Array CpInfo := pool [(1, .class_ 2), (0, u "java/lang/Long"), (55, .nameAndType 59 60), (0, u "<init>"), (0, u "()V"), (24, u "valueOf"), (143, u "(J)Ljava/lang/Long;"), (0, .long 18446744073709551488), (1, .long 127), (1, .fieldref 235 236), (0, .class_ 237), (0, .nameAndType 238 239), (0, u "java/lang/Long$LongCache"), (0, u "cache"), (0, u "[Ljava/lang/Long;"), (0, .methodref 1 241), (0, .nameAndType 59 242), (0, u "(J)V"), (27, .methodref 271 58), (0, .class_ 272), (0, u "java/lang/Number"), (0, .fieldref 1 274), (0, .nameAndType 275 276), (0, u "value"), (0, u "J"), (84, u "TYPE"), (0, u "Ljava/lang/Class;"), (0, .class_ 364), (0, u "java/lang/Comparable"), (0, .class_ 366), (0, u "java/lang/constant/Constable"), (0, .class_ 368), (0, u "java/lang/constant/ConstantDesc"), (0, u "MIN_VALUE"), (1, u "MAX_VALUE"), (4, u "SIZE"), (0, u "I"), (1, u "BYTES"), (1, u "serialVersionUID")] 142

def k8c0 : Code := { maxStack := 4, maxLocals := 3, code := jdk_35_method_24_code, exceptionTable := #[], attributes := #[] }
def k8m0 : Method := { name := "valueOf", desc := "(J)Ljava/lang/Long;", sig := { parameters := [.long], returnType := some (.object "java/lang/Long") }, accessFlags := 9, code := some k8c0 }
def k8c1 : Code := { maxStack := 3, maxLocals := 3, code := jdk_35_method_26_code, exceptionTable := #[], attributes := #[] }
def k8m1 : Method := { name := "<init>", desc := "(J)V", sig := { parameters := [.long], returnType := none }, accessFlags := 1, code := some k8c1 }
/-- java/lang/Long -/
def k8 : Class := { plain "java/lang/Long" (some 4) with
  accessFlags := 49
  interfaces := #[5, 6, 7]
  cf := some (fileOf pool8 1 #[.nestMembers #[235]] #[{ accessFlags := 9, nameIndex := 85, descriptorIndex := 229, attributes := #[] }, { accessFlags := 1, nameIndex := 59, descriptorIndex := 242, attributes := #[] }] 49 271 #[363, 365, 367] #[{ accessFlags := 25, nameIndex := 369, descriptorIndex := 276, attributes := #[] }, { accessFlags := 25, nameIndex := 371, descriptorIndex := 276, attributes := #[] }, { accessFlags := 25, nameIndex := 361, descriptorIndex := 362, attributes := #[] }, { accessFlags := 18, nameIndex := 275, descriptorIndex := 276, attributes := #[] }, { accessFlags := 25, nameIndex := 376, descriptorIndex := 377, attributes := #[] }, { accessFlags := 25, nameIndex := 379, descriptorIndex := 377, attributes := #[] }, { accessFlags := 26, nameIndex := 381, descriptorIndex := 276, attributes := #[] }])
  fields := #[{ name := "MIN_VALUE", type := .long, accessFlags := 25, slot := 0, constantValue := 0 }, { name := "MAX_VALUE", type := .long, accessFlags := 25, slot := 1, constantValue := 0 }, { name := "TYPE", type := (.object "java/lang/Class"), accessFlags := 25, slot := 2, constantValue := 0 }, { name := "value", type := .long, accessFlags := 18, slot := 0, constantValue := 0 }, { name := "SIZE", type := .int, accessFlags := 25, slot := 3, constantValue := 0 }, { name := "BYTES", type := .int, accessFlags := 25, slot := 4, constantValue := 0 }, { name := "serialVersionUID", type := .long, accessFlags := 26, slot := 5, constantValue := 0 }]
  methods := #[k8m0, k8m1]
  instanceTypes := #[.long]
  staticTypes := #[.long, .long, (.object "java/lang/Class"), .int, .int, .long]
  resolved := Array.replicate 524 none
  statics := none }

def pool9 : Array CpInfo := pool [(2, .class_ 4), (1, u "java/lang/Object"), (0, u "<init>"), (0, u "()V"), (0, .class_ 8), (0, u "java/lang/Long"), (7, .class_ 18), (1, u "java/lang/Long$LongCache"), (0, u "$assertionsDisabled"), (0, u "Z"), (8, u "archivedCache"), (0, u "[Ljava/lang/Long;"), (7, u "cache")] 24

def k9m0 : Method := { name := "<init>", desc := "()V", sig := { parameters := [], returnType := none }, accessFlags := 2, code := none }
/-- java/lang/Long$LongCache -/
def k9 : Class := { plain "java/lang/Long$LongCache" (some 0) with
  accessFlags := 48
  interfaces := #[]
  cf := some (fileOf pool9 16 #[.nestHost 7] #[{ accessFlags := 2, nameIndex := 5, descriptorIndex := 6, attributes := #[] }] 48 2 #[] #[{ accessFlags := 24, nameIndex := 38, descriptorIndex := 30, attributes := #[] }, { accessFlags := 8, nameIndex := 29, descriptorIndex := 30, attributes := #[] }, { accessFlags := 4120, nameIndex := 19, descriptorIndex := 20, attributes := #[] }])
  fields := #[{ name := "cache", type := (.array (.object "java/lang/Long")), accessFlags := 24, slot := 0, constantValue := 0 }, { name := "archivedCache", type := (.array (.object "java/lang/Long")), accessFlags := 8, slot := 1, constantValue := 0 }, { name := "$assertionsDisabled", type := .boolean, accessFlags := 4120, slot := 2, constantValue := 0 }]
  methods := #[k9m0]
  instanceTypes := #[]
  staticTypes := #[(.array (.object "java/lang/Long")), (.array (.object "java/lang/Long")), .boolean]
  resolved := Array.replicate 63 none
  statics := some 0 }

def pool10 : Array CpInfo := pool [(1, u "java/lang/Cloneable"), (0, .class_ 1), (0, u "java/lang/Object"), (0, .class_ 3)] 3

/-- java/lang/Cloneable -/
def k10 : Class := { plain "java/lang/Cloneable" (some 0) with
  accessFlags := 1537
  interfaces := #[]
  cf := some (fileOf pool10 2 #[] #[] 1537 4 #[] #[])
  fields := #[]
  methods := #[]
  instanceTypes := #[]
  staticTypes := #[]
  resolved := Array.replicate 8 none
  statics := none }

/-- the primitive byte -/
def k11 : Class := { plain "byte" none with kind := .primitive 'B', accessFlags := 0x411 }
/-- [B -/
def k12 : Class := { plain "[B" (some 0) with kind := .array 11 .byte, interfaces := #[10, 3], accessFlags := 1041 }

/-- the primitive int -/
def k13 : Class := { plain "int" none with kind := .primitive 'I', accessFlags := 0x411 }
/-- [I -/
def k14 : Class := { plain "[I" (some 0) with kind := .array 13 .int, interfaces := #[10, 3], accessFlags := 1041 }

/-- [Ljava/lang/Long; -/
def k15 : Class := { plain "[Ljava/lang/Long;" (some 0) with kind := .array 8 (.object "java/lang/Long"), interfaces := #[10, 3], accessFlags := 1041 }

def heap : Heap := #[{ cls := 9, slots := #[.ref 1, .null, .int 0], vm := .statics 9 },
  { cls := 15, slots := #[.ref 2, .ref 3, .ref 4, .ref 5, .ref 6, .ref 7, .ref 8, .ref 9, .ref 10, .ref 11, .ref 12, .ref 13, .ref 14, .ref 15, .ref 16, .ref 17, .ref 18, .ref 19, .ref 20, .ref 21, .ref 22, .ref 23, .ref 24, .ref 25, .ref 26, .ref 27, .ref 28, .ref 29, .ref 30, .ref 31, .ref 32, .ref 33, .ref 34, .ref 35, .ref 36, .ref 37, .ref 38, .ref 39, .ref 40, .ref 41, .ref 42, .ref 43, .ref 44, .ref 45, .ref 46, .ref 47, .ref 48, .ref 49, .ref 50, .ref 51, .ref 52, .ref 53, .ref 54, .ref 55, .ref 56, .ref 57, .ref 58, .ref 59, .ref 60, .ref 61, .ref 62, .ref 63, .ref 64, .ref 65, .ref 66, .ref 67, .ref 68, .ref 69, .ref 70, .ref 71, .ref 72, .ref 73, .ref 74, .ref 75, .ref 76, .ref 77, .ref 78, .ref 79, .ref 80, .ref 81, .ref 82, .ref 83, .ref 84, .ref 85, .ref 86, .ref 87, .ref 88, .ref 89, .ref 90, .ref 91, .ref 92, .ref 93, .ref 94, .ref 95, .ref 96, .ref 97, .ref 98, .ref 99, .ref 100, .ref 101, .ref 102, .ref 103, .ref 104, .ref 105, .ref 106, .ref 107, .ref 108, .ref 109, .ref 110, .ref 111, .ref 112, .ref 113, .ref 114, .ref 115, .ref 116, .ref 117, .ref 118, .ref 119, .ref 120, .ref 121, .ref 122, .ref 123, .ref 124, .ref 125, .ref 126, .ref 127, .ref 128, .ref 129, .ref 130, .ref 131, .ref 132, .ref 133, .ref 134, .ref 135, .ref 136, .ref 137, .ref 138, .ref 139, .ref 140, .ref 141, .ref 142, .ref 143, .ref 144, .ref 145, .ref 146, .ref 147, .ref 148, .ref 149, .ref 150, .ref 151, .ref 152, .ref 153, .ref 154, .ref 155, .ref 156, .ref 157, .ref 158, .ref 159, .ref 160, .ref 161, .ref 162, .ref 163, .ref 164, .ref 165, .ref 166, .ref 167, .ref 168, .ref 169, .ref 170, .ref 171, .ref 172, .ref 173, .ref 174, .ref 175, .ref 176, .ref 177, .ref 178, .ref 179, .ref 180, .ref 181, .ref 182, .ref 183, .ref 184, .ref 185, .ref 186, .ref 187, .ref 188, .ref 189, .ref 190, .ref 191, .ref 192, .ref 193, .ref 194, .ref 195, .ref 196, .ref 197, .ref 198, .ref 199, .ref 200, .ref 201, .ref 202, .ref 203, .ref 204, .ref 205, .ref 206, .ref 207, .ref 208, .ref 209, .ref 210, .ref 211, .ref 212, .ref 213, .ref 214, .ref 215, .ref 216, .ref 217, .ref 218, .ref 219, .ref 220, .ref 221, .ref 222, .ref 223, .ref 224, .ref 225, .ref 226, .ref 227, .ref 228, .ref 229, .ref 230, .ref 231, .ref 232, .ref 233, .ref 234, .ref 235, .ref 236, .ref 237, .ref 238, .ref 239, .ref 240, .ref 241, .ref 242, .ref 243, .ref 244, .ref 245, .ref 246, .ref 247, .ref 248, .ref 249, .ref 250, .ref 251, .ref 252, .ref 253, .ref 254, .ref 255, .ref 256, .ref 257], vm := .none },
  { cls := 8, slots := #[.long (-128)], vm := .none },
  { cls := 8, slots := #[.long (-127)], vm := .none },
  { cls := 8, slots := #[.long (-126)], vm := .none },
  { cls := 8, slots := #[.long (-125)], vm := .none },
  { cls := 8, slots := #[.long (-124)], vm := .none },
  { cls := 8, slots := #[.long (-123)], vm := .none },
  { cls := 8, slots := #[.long (-122)], vm := .none },
  { cls := 8, slots := #[.long (-121)], vm := .none },
  { cls := 8, slots := #[.long (-120)], vm := .none },
  { cls := 8, slots := #[.long (-119)], vm := .none },
  { cls := 8, slots := #[.long (-118)], vm := .none },
  { cls := 8, slots := #[.long (-117)], vm := .none },
  { cls := 8, slots := #[.long (-116)], vm := .none },
  { cls := 8, slots := #[.long (-115)], vm := .none },
  { cls := 8, slots := #[.long (-114)], vm := .none },
  { cls := 8, slots := #[.long (-113)], vm := .none },
  { cls := 8, slots := #[.long (-112)], vm := .none },
  { cls := 8, slots := #[.long (-111)], vm := .none },
  { cls := 8, slots := #[.long (-110)], vm := .none },
  { cls := 8, slots := #[.long (-109)], vm := .none },
  { cls := 8, slots := #[.long (-108)], vm := .none },
  { cls := 8, slots := #[.long (-107)], vm := .none },
  { cls := 8, slots := #[.long (-106)], vm := .none },
  { cls := 8, slots := #[.long (-105)], vm := .none },
  { cls := 8, slots := #[.long (-104)], vm := .none },
  { cls := 8, slots := #[.long (-103)], vm := .none },
  { cls := 8, slots := #[.long (-102)], vm := .none },
  { cls := 8, slots := #[.long (-101)], vm := .none },
  { cls := 8, slots := #[.long (-100)], vm := .none },
  { cls := 8, slots := #[.long (-99)], vm := .none },
  { cls := 8, slots := #[.long (-98)], vm := .none },
  { cls := 8, slots := #[.long (-97)], vm := .none },
  { cls := 8, slots := #[.long (-96)], vm := .none },
  { cls := 8, slots := #[.long (-95)], vm := .none },
  { cls := 8, slots := #[.long (-94)], vm := .none },
  { cls := 8, slots := #[.long (-93)], vm := .none },
  { cls := 8, slots := #[.long (-92)], vm := .none },
  { cls := 8, slots := #[.long (-91)], vm := .none },
  { cls := 8, slots := #[.long (-90)], vm := .none },
  { cls := 8, slots := #[.long (-89)], vm := .none },
  { cls := 8, slots := #[.long (-88)], vm := .none },
  { cls := 8, slots := #[.long (-87)], vm := .none },
  { cls := 8, slots := #[.long (-86)], vm := .none },
  { cls := 8, slots := #[.long (-85)], vm := .none },
  { cls := 8, slots := #[.long (-84)], vm := .none },
  { cls := 8, slots := #[.long (-83)], vm := .none },
  { cls := 8, slots := #[.long (-82)], vm := .none },
  { cls := 8, slots := #[.long (-81)], vm := .none },
  { cls := 8, slots := #[.long (-80)], vm := .none },
  { cls := 8, slots := #[.long (-79)], vm := .none },
  { cls := 8, slots := #[.long (-78)], vm := .none },
  { cls := 8, slots := #[.long (-77)], vm := .none },
  { cls := 8, slots := #[.long (-76)], vm := .none },
  { cls := 8, slots := #[.long (-75)], vm := .none },
  { cls := 8, slots := #[.long (-74)], vm := .none },
  { cls := 8, slots := #[.long (-73)], vm := .none },
  { cls := 8, slots := #[.long (-72)], vm := .none },
  { cls := 8, slots := #[.long (-71)], vm := .none },
  { cls := 8, slots := #[.long (-70)], vm := .none },
  { cls := 8, slots := #[.long (-69)], vm := .none },
  { cls := 8, slots := #[.long (-68)], vm := .none },
  { cls := 8, slots := #[.long (-67)], vm := .none },
  { cls := 8, slots := #[.long (-66)], vm := .none },
  { cls := 8, slots := #[.long (-65)], vm := .none },
  { cls := 8, slots := #[.long (-64)], vm := .none },
  { cls := 8, slots := #[.long (-63)], vm := .none },
  { cls := 8, slots := #[.long (-62)], vm := .none },
  { cls := 8, slots := #[.long (-61)], vm := .none },
  { cls := 8, slots := #[.long (-60)], vm := .none },
  { cls := 8, slots := #[.long (-59)], vm := .none },
  { cls := 8, slots := #[.long (-58)], vm := .none },
  { cls := 8, slots := #[.long (-57)], vm := .none },
  { cls := 8, slots := #[.long (-56)], vm := .none },
  { cls := 8, slots := #[.long (-55)], vm := .none },
  { cls := 8, slots := #[.long (-54)], vm := .none },
  { cls := 8, slots := #[.long (-53)], vm := .none },
  { cls := 8, slots := #[.long (-52)], vm := .none },
  { cls := 8, slots := #[.long (-51)], vm := .none },
  { cls := 8, slots := #[.long (-50)], vm := .none },
  { cls := 8, slots := #[.long (-49)], vm := .none },
  { cls := 8, slots := #[.long (-48)], vm := .none },
  { cls := 8, slots := #[.long (-47)], vm := .none },
  { cls := 8, slots := #[.long (-46)], vm := .none },
  { cls := 8, slots := #[.long (-45)], vm := .none },
  { cls := 8, slots := #[.long (-44)], vm := .none },
  { cls := 8, slots := #[.long (-43)], vm := .none },
  { cls := 8, slots := #[.long (-42)], vm := .none },
  { cls := 8, slots := #[.long (-41)], vm := .none },
  { cls := 8, slots := #[.long (-40)], vm := .none },
  { cls := 8, slots := #[.long (-39)], vm := .none },
  { cls := 8, slots := #[.long (-38)], vm := .none },
  { cls := 8, slots := #[.long (-37)], vm := .none },
  { cls := 8, slots := #[.long (-36)], vm := .none },
  { cls := 8, slots := #[.long (-35)], vm := .none },
  { cls := 8, slots := #[.long (-34)], vm := .none },
  { cls := 8, slots := #[.long (-33)], vm := .none },
  { cls := 8, slots := #[.long (-32)], vm := .none },
  { cls := 8, slots := #[.long (-31)], vm := .none },
  { cls := 8, slots := #[.long (-30)], vm := .none },
  { cls := 8, slots := #[.long (-29)], vm := .none },
  { cls := 8, slots := #[.long (-28)], vm := .none },
  { cls := 8, slots := #[.long (-27)], vm := .none },
  { cls := 8, slots := #[.long (-26)], vm := .none },
  { cls := 8, slots := #[.long (-25)], vm := .none },
  { cls := 8, slots := #[.long (-24)], vm := .none },
  { cls := 8, slots := #[.long (-23)], vm := .none },
  { cls := 8, slots := #[.long (-22)], vm := .none },
  { cls := 8, slots := #[.long (-21)], vm := .none },
  { cls := 8, slots := #[.long (-20)], vm := .none },
  { cls := 8, slots := #[.long (-19)], vm := .none },
  { cls := 8, slots := #[.long (-18)], vm := .none },
  { cls := 8, slots := #[.long (-17)], vm := .none },
  { cls := 8, slots := #[.long (-16)], vm := .none },
  { cls := 8, slots := #[.long (-15)], vm := .none },
  { cls := 8, slots := #[.long (-14)], vm := .none },
  { cls := 8, slots := #[.long (-13)], vm := .none },
  { cls := 8, slots := #[.long (-12)], vm := .none },
  { cls := 8, slots := #[.long (-11)], vm := .none },
  { cls := 8, slots := #[.long (-10)], vm := .none },
  { cls := 8, slots := #[.long (-9)], vm := .none },
  { cls := 8, slots := #[.long (-8)], vm := .none },
  { cls := 8, slots := #[.long (-7)], vm := .none },
  { cls := 8, slots := #[.long (-6)], vm := .none },
  { cls := 8, slots := #[.long (-5)], vm := .none },
  { cls := 8, slots := #[.long (-4)], vm := .none },
  { cls := 8, slots := #[.long (-3)], vm := .none },
  { cls := 8, slots := #[.long (-2)], vm := .none },
  { cls := 8, slots := #[.long (-1)], vm := .none },
  { cls := 8, slots := #[.long (0)], vm := .none },
  { cls := 8, slots := #[.long (1)], vm := .none },
  { cls := 8, slots := #[.long (2)], vm := .none },
  { cls := 8, slots := #[.long (3)], vm := .none },
  { cls := 8, slots := #[.long (4)], vm := .none },
  { cls := 8, slots := #[.long (5)], vm := .none },
  { cls := 8, slots := #[.long (6)], vm := .none },
  { cls := 8, slots := #[.long (7)], vm := .none },
  { cls := 8, slots := #[.long (8)], vm := .none },
  { cls := 8, slots := #[.long (9)], vm := .none },
  { cls := 8, slots := #[.long (10)], vm := .none },
  { cls := 8, slots := #[.long (11)], vm := .none },
  { cls := 8, slots := #[.long (12)], vm := .none },
  { cls := 8, slots := #[.long (13)], vm := .none },
  { cls := 8, slots := #[.long (14)], vm := .none },
  { cls := 8, slots := #[.long (15)], vm := .none },
  { cls := 8, slots := #[.long (16)], vm := .none },
  { cls := 8, slots := #[.long (17)], vm := .none },
  { cls := 8, slots := #[.long (18)], vm := .none },
  { cls := 8, slots := #[.long (19)], vm := .none },
  { cls := 8, slots := #[.long (20)], vm := .none },
  { cls := 8, slots := #[.long (21)], vm := .none },
  { cls := 8, slots := #[.long (22)], vm := .none },
  { cls := 8, slots := #[.long (23)], vm := .none },
  { cls := 8, slots := #[.long (24)], vm := .none },
  { cls := 8, slots := #[.long (25)], vm := .none },
  { cls := 8, slots := #[.long (26)], vm := .none },
  { cls := 8, slots := #[.long (27)], vm := .none },
  { cls := 8, slots := #[.long (28)], vm := .none },
  { cls := 8, slots := #[.long (29)], vm := .none },
  { cls := 8, slots := #[.long (30)], vm := .none },
  { cls := 8, slots := #[.long (31)], vm := .none },
  { cls := 8, slots := #[.long (32)], vm := .none },
  { cls := 8, slots := #[.long (33)], vm := .none },
  { cls := 8, slots := #[.long (34)], vm := .none },
  { cls := 8, slots := #[.long (35)], vm := .none },
  { cls := 8, slots := #[.long (36)], vm := .none },
  { cls := 8, slots := #[.long (37)], vm := .none },
  { cls := 8, slots := #[.long (38)], vm := .none },
  { cls := 8, slots := #[.long (39)], vm := .none },
  { cls := 8, slots := #[.long (40)], vm := .none },
  { cls := 8, slots := #[.long (41)], vm := .none },
  { cls := 8, slots := #[.long (42)], vm := .none },
  { cls := 8, slots := #[.long (43)], vm := .none },
  { cls := 8, slots := #[.long (44)], vm := .none },
  { cls := 8, slots := #[.long (45)], vm := .none },
  { cls := 8, slots := #[.long (46)], vm := .none },
  { cls := 8, slots := #[.long (47)], vm := .none },
  { cls := 8, slots := #[.long (48)], vm := .none },
  { cls := 8, slots := #[.long (49)], vm := .none },
  { cls := 8, slots := #[.long (50)], vm := .none },
  { cls := 8, slots := #[.long (51)], vm := .none },
  { cls := 8, slots := #[.long (52)], vm := .none },
  { cls := 8, slots := #[.long (53)], vm := .none },
  { cls := 8, slots := #[.long (54)], vm := .none },
  { cls := 8, slots := #[.long (55)], vm := .none },
  { cls := 8, slots := #[.long (56)], vm := .none },
  { cls := 8, slots := #[.long (57)], vm := .none },
  { cls := 8, slots := #[.long (58)], vm := .none },
  { cls := 8, slots := #[.long (59)], vm := .none },
  { cls := 8, slots := #[.long (60)], vm := .none },
  { cls := 8, slots := #[.long (61)], vm := .none },
  { cls := 8, slots := #[.long (62)], vm := .none },
  { cls := 8, slots := #[.long (63)], vm := .none },
  { cls := 8, slots := #[.long (64)], vm := .none },
  { cls := 8, slots := #[.long (65)], vm := .none },
  { cls := 8, slots := #[.long (66)], vm := .none },
  { cls := 8, slots := #[.long (67)], vm := .none },
  { cls := 8, slots := #[.long (68)], vm := .none },
  { cls := 8, slots := #[.long (69)], vm := .none },
  { cls := 8, slots := #[.long (70)], vm := .none },
  { cls := 8, slots := #[.long (71)], vm := .none },
  { cls := 8, slots := #[.long (72)], vm := .none },
  { cls := 8, slots := #[.long (73)], vm := .none },
  { cls := 8, slots := #[.long (74)], vm := .none },
  { cls := 8, slots := #[.long (75)], vm := .none },
  { cls := 8, slots := #[.long (76)], vm := .none },
  { cls := 8, slots := #[.long (77)], vm := .none },
  { cls := 8, slots := #[.long (78)], vm := .none },
  { cls := 8, slots := #[.long (79)], vm := .none },
  { cls := 8, slots := #[.long (80)], vm := .none },
  { cls := 8, slots := #[.long (81)], vm := .none },
  { cls := 8, slots := #[.long (82)], vm := .none },
  { cls := 8, slots := #[.long (83)], vm := .none },
  { cls := 8, slots := #[.long (84)], vm := .none },
  { cls := 8, slots := #[.long (85)], vm := .none },
  { cls := 8, slots := #[.long (86)], vm := .none },
  { cls := 8, slots := #[.long (87)], vm := .none },
  { cls := 8, slots := #[.long (88)], vm := .none },
  { cls := 8, slots := #[.long (89)], vm := .none },
  { cls := 8, slots := #[.long (90)], vm := .none },
  { cls := 8, slots := #[.long (91)], vm := .none },
  { cls := 8, slots := #[.long (92)], vm := .none },
  { cls := 8, slots := #[.long (93)], vm := .none },
  { cls := 8, slots := #[.long (94)], vm := .none },
  { cls := 8, slots := #[.long (95)], vm := .none },
  { cls := 8, slots := #[.long (96)], vm := .none },
  { cls := 8, slots := #[.long (97)], vm := .none },
  { cls := 8, slots := #[.long (98)], vm := .none },
  { cls := 8, slots := #[.long (99)], vm := .none },
  { cls := 8, slots := #[.long (100)], vm := .none },
  { cls := 8, slots := #[.long (101)], vm := .none },
  { cls := 8, slots := #[.long (102)], vm := .none },
  { cls := 8, slots := #[.long (103)], vm := .none },
  { cls := 8, slots := #[.long (104)], vm := .none },
  { cls := 8, slots := #[.long (105)], vm := .none },
  { cls := 8, slots := #[.long (106)], vm := .none },
  { cls := 8, slots := #[.long (107)], vm := .none },
  { cls := 8, slots := #[.long (108)], vm := .none },
  { cls := 8, slots := #[.long (109)], vm := .none },
  { cls := 8, slots := #[.long (110)], vm := .none },
  { cls := 8, slots := #[.long (111)], vm := .none },
  { cls := 8, slots := #[.long (112)], vm := .none },
  { cls := 8, slots := #[.long (113)], vm := .none },
  { cls := 8, slots := #[.long (114)], vm := .none },
  { cls := 8, slots := #[.long (115)], vm := .none },
  { cls := 8, slots := #[.long (116)], vm := .none },
  { cls := 8, slots := #[.long (117)], vm := .none },
  { cls := 8, slots := #[.long (118)], vm := .none },
  { cls := 8, slots := #[.long (119)], vm := .none },
  { cls := 8, slots := #[.long (120)], vm := .none },
  { cls := 8, slots := #[.long (121)], vm := .none },
  { cls := 8, slots := #[.long (122)], vm := .none },
  { cls := 8, slots := #[.long (123)], vm := .none },
  { cls := 8, slots := #[.long (124)], vm := .none },
  { cls := 8, slots := #[.long (125)], vm := .none },
  { cls := 8, slots := #[.long (126)], vm := .none },
  { cls := 8, slots := #[.long (127)], vm := .none }]
def classes : Array Class := #[k0, k1, k2, k3, k4, k5, k6, k7, k8, k9, k10, k11, k12, k13, k14, k15]
def interned : List (Array UInt16 × Addr) := []
def slotsUsed : Nat := 515
def theMethod : MethodId := ⟨1, 1⟩
def args0 : Array Value := #[.int 5, .long 7, .int 3, .long 4, .int 1]
def aboutOver (below : List Frame) : State where
  vm := { classes := classes, interned := interned.toArray }
  heap := heap
  slotsUsed := slotsUsed
  threads := #[{ frames := .invoking theMethod args0 :: below }]
def below0 : List Frame := [.native { method := ⟨0, 0⟩, args := #[] }]
def about1 : State := aboutOver below0
def p0 : Program := .bare "" "" ""
def e0 : Env := launch0.env 0 0 0
theorem w_frames : about1.frames = Frame.invoking theMethod args0 :: below0 := rfl
set_option maxRecDepth 65536 in
theorem w_args : argsFit about1.vm theMethod args0 = true := by decide +kernel
set_option maxRecDepth 65536 in
theorem w_heap : heapFits about1 = true := by decide +kernel
set_option maxRecDepth 65536 in
theorem w_runnable : about1.curStatus? = some .runnable := by decide +kernel
set_option maxRecDepth 65536 in
theorem w_alone : about1.alone = true := by decide +kernel
set_option maxRecDepth 65536 in
theorem w_named : about1.methodNamed? x = some theMethod := by decide +kernel
set_option maxRecDepth 65536 in
theorem w_hears : about1.hears theMethod below0 = true := by decide +kernel
set_option maxRecDepth 65536 in
theorem w_ripe : about1.ripe theMethod args0 below0 = true := by decide +kernel
theorem w_running : about1.status = .running := rfl
set_option maxRecDepth 65536 in
theorem w_room : about1.hasRoom e0.platform room_1 = true :=
  launch0.hasRoom_least _ room_1 (by decide +kernel) (by decide +kernel) (by decide +kernel) (by decide +kernel) (by decide +kernel) (by decide +kernel)
theorem allAtoms_all (ts : List Jvm.Cond) (a : Array Jvm.Value) (st : Jvm.State) : (allAtoms ts).before a st = ts.all (fun c => c.before a st) := by
  induction ts with
  | nil => rfl
  | cons c t ih =>
    show (Jvm.Cond.and c (allAtoms t)).before a st = _
    rw [Jvm.Cond.before_and, ih, List.all_cons]
def words1 : List Jvm.Cond := Jvm.Cond.code x code maxLocals ret :: tables_1
/-- a 'code' word, met by the world's own term for the bytes: nothing is compared byte by byte -/
theorem code_word {y : MethodName} {bytes : ByteArray} {mx : Nat} {rt : Option FieldType} {a : Array Value} {s : State} {m : MethodId} {meth : Method} {c : Code} (h1 : s.methodNamed? y = some m) (h2 : s.vm.method? m = some meth) (h3 : meth.code = some c) (h4 : c.code = bytes)
    (h5 : (c.maxLocals == mx && c.exceptionTable.isEmpty && decide (c.maxStack ≤ mostOperands) && decide (meth.sig.returnType = rt) && !meth.locks && decide (parseMethodDescriptor y.desc = some meth.sig)) = true) : (Jvm.Cond.code y bytes mx rt).before a s = true := by
  simp only [Bool.and_eq_true, beq_iff_eq, Bool.not_eq_true', decide_eq_true_eq] at h5
  obtain ⟨⟨⟨⟨⟨g1, g2⟩, g3⟩, g4⟩, g5⟩, g6⟩ := h5
  simp [Cond.before, Cond.holds, Cond.value, h1, h2, h3, h4, g1, g2, g3, g4, g5, g6]
def isCode : Jvm.Cond → Bool
  | .code _ _ _ _ => true
  | _ => false
theorem all_split {L : List Jvm.Cond} {P : Jvm.Cond → Bool} (h1 : L.all (fun c => isCode c || P c) = true) (h2 : ∀ c ∈ L.filter isCode, P c = true) : L.all P = true := by
  refine List.all_eq_true.mpr fun c hc => ?_
  have h := List.all_eq_true.mp h1 c hc
  rcases Bool.eq_false_or_eq_true (isCode c) with hi | hi
  · exact h2 c (List.mem_filter.mpr ⟨hc, hi⟩)
  · simpa [hi] using h
set_option maxRecDepth 65536 in
theorem w_c0 : (Jvm.Cond.code x code maxLocals ret).before args0 about1 = true := code_word (m := ⟨1, 1⟩) (meth := k1m1) (c := k1c1) (by decide +kernel) rfl rfl rfl (by decide +kernel)
set_option maxRecDepth 65536 in
theorem w_c1 : (Jvm.Cond.code ({ cls := "com/example/usherd/usherd/Published", name := "<init>", desc := "(IJ)V" } : Jvm.MethodName) prog_19_method_1_code (4 : Nat) (Option.none : Option Jvm.ClassFile.FieldType)).before args0 about1 = true := code_word (m := ⟨2, 0⟩) (meth := k2m0) (c := k2c0) (by decide +kernel) rfl rfl rfl (by decide +kernel)
set_option maxRecDepth 65536 in
theorem w_c2 : (Jvm.Cond.code ({ cls := "java/lang/Object", name := "<init>", desc := "()V" } : Jvm.MethodName) object_method_1_code (1 : Nat) (Option.none : Option Jvm.ClassFile.FieldType)).before args0 about1 = true := code_word (m := ⟨0, 0⟩) (meth := k0m0) (c := k0c0) (by decide +kernel) rfl rfl rfl (by decide +kernel)
set_option maxRecDepth 65536 in
theorem w_c3 : (Jvm.Cond.code ({ cls := "com/example/usherd/usherd/Published", name := "equals", desc := "(Ljava/lang/Object;)Z" } : Jvm.MethodName) prog_19_method_4_code (3 : Nat) (Option.some Jvm.ClassFile.FieldType.boolean)).before args0 about1 = true := code_word (m := ⟨2, 1⟩) (meth := k2m1) (c := k2c1) (by decide +kernel) rfl rfl rfl (by decide +kernel)
set_option maxRecDepth 65536 in
theorem w_c4 : (Jvm.Cond.code ({ cls := "java/lang/Long", name := "valueOf", desc := "(J)Ljava/lang/Long;" } : Jvm.MethodName) jdk_35_method_24_code (3 : Nat) (Option.some (Jvm.ClassFile.FieldType.object "java/lang/Long"))).before args0 about1 = true := code_word (m := ⟨8, 0⟩) (meth := k8m0) (c := k8c0) (by decide +kernel) rfl rfl rfl (by decide +kernel)
set_option maxRecDepth 65536 in
theorem w_c5 : (Jvm.Cond.code ({ cls := "java/lang/Long", name := "<init>", desc := "(J)V" } : Jvm.MethodName) jdk_35_method_26_code (3 : Nat) (Option.none : Option Jvm.ClassFile.FieldType)).before args0 about1 = true := code_word (m := ⟨8, 1⟩) (meth := k8m1) (c := k8c1) (by decide +kernel) rfl rfl rfl (by decide +kernel)
set_option maxRecDepth 65536 in
theorem w_c6 : (Jvm.Cond.code ({ cls := "java/lang/Number", name := "<init>", desc := "()V" } : Jvm.MethodName) jdk_18_method_1_code (1 : Nat) (Option.none : Option Jvm.ClassFile.FieldType)).before args0 about1 = true := code_word (m := ⟨4, 0⟩) (meth := k4m0) (c := k4c0) (by decide +kernel) rfl rfl rfl (by decide +kernel)
def codes1 : List Jvm.Cond := [Jvm.Cond.code x code maxLocals ret, Jvm.Cond.code ({ cls := "com/example/usherd/usherd/Published", name := "<init>", desc := "(IJ)V" } : Jvm.MethodName) prog_19_method_1_code (4 : Nat) (Option.none : Option Jvm.ClassFile.FieldType), Jvm.Cond.code ({ cls := "java/lang/Object", name := "<init>", desc := "()V" } : Jvm.MethodName) object_method_1_code (1 : Nat) (Option.none : Option Jvm.ClassFile.FieldType), Jvm.Cond.code ({ cls := "com/example/usherd/usherd/Published", name := "equals", desc := "(Ljava/lang/Object;)Z" } : Jvm.MethodName) prog_19_method_4_code (3 : Nat) (Option.some Jvm.ClassFile.FieldType.boolean), Jvm.Cond.code ({ cls := "java/lang/Long", name := "valueOf", desc := "(J)Ljava/lang/Long;" } : Jvm.MethodName) jdk_35_method_24_code (3 : Nat) (Option.some (Jvm.ClassFile.FieldType.object "java/lang/Long")), Jvm.Cond.code ({ cls := "java/lang/Long", name := "<init>", desc := "(J)V" } : Jvm.MethodName) jdk_35_method_26_code (3 : Nat) (Option.none : Option Jvm.ClassFile.FieldType), Jvm.Cond.code ({ cls := "java/lang/Number", name := "<init>", desc := "()V" } : Jvm.MethodName) jdk_18_method_1_code (1 : Nat) (Option.none : Option Jvm.ClassFile.FieldType)]
set_option maxRecDepth 65536 in
theorem codes_eq : words1.filter isCode = codes1 := rfl
theorem w_codes : ∀ c ∈ words1.filter isCode, c.before args0 about1 = true := by
  rw [codes_eq]
  intro c hc
  simp only [codes1, List.mem_cons, List.not_mem_nil, or_false] at hc
  rcases hc with rfl | rfl | rfl | rfl | rfl | rfl | rfl
  · exact w_c0
  · exact w_c1
  · exact w_c2
  · exact w_c3
  · exact w_c4
  · exact w_c5
  · exact w_c6
set_option maxRecDepth 65536 in
theorem w_t1 : (words1.take 24).all (fun c => isCode c || c.before args0 about1) = true := by decide +kernel
set_option maxRecDepth 65536 in
theorem w_t2 : (words1.drop 24).all (fun c => isCode c || c.before args0 about1) = true := by decide +kernel
theorem w_tables : (allAtoms (Jvm.Cond.code x code maxLocals ret :: tables_1)).before args0 about1 = true := by
  rw [allAtoms_all]
  show words1.all (fun c => c.before args0 about1) = true
  refine all_split ?_ w_codes
  rw [← List.take_append_drop 24 words1, List.all_append, w_t1, w_t2]
  rfl
set_option maxRecDepth 65536 in
theorem w_rest : rest_1_c.before args0 about1 = true := by decide +kernel
set_option maxRecDepth 65536 in
theorem w_case : (Jvm.Cond.and given_1 narrow_1).before args0 about1 = true := by decide +kernel
theorem w_applies : (headSpec (Jvm.Cond.code x code maxLocals ret :: tables_1) room_1).applies x e0.platform about1 = true :=
  (Spec.applies_iff w_frames).mpr ⟨w_running, w_runnable, w_alone, w_named, w_hears, w_ripe, w_room, w_tables⟩
theorem atStart : AtStart classFile x code maxLocals ret World_1 tables_1 room_1 Calls_1 rest_1 Pre_1 launch0 p0 e0 about1 theMethod args0 below0 :=
  ⟨lists_1, trivial, launch0.admits_env _ _ _, launch0.least_env, fairChoices_fair.cas, fairChoices_fair.clock, w_frames, w_args, w_heap, w_applies, trivial, w_rest, w_case⟩
end start1
theorem witness_1 : WitnessClaimed_1 := ⟨start1.p0, start1.e0, start1.about1, start1.theMethod, start1.args0, start1.below0, start1.atStart⟩
end Jvm.Pilot.@@N@@
