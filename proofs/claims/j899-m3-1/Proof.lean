import JvmDerived
import JvmDerived.Pilot.@@N@@Statement
import JvmDerived.Pilot.@@N@@Code
set_option linter.unusedVariables false
set_option linter.unusedSimpArgs false

namespace Jvm.RoadKit
open Sem ClassFile Op Lib Jvm.Stand Jvm.Free Jvm.LawKit
section New
variable {p : Program} {l : Launch} {e : Env} {R : Room} {s : State} {m : MethodId} {args : Array Value} {below : List Frame} {meth : Method} {c : Code} {T : State} {locs : List Loc} {cells slots : Nat}
theorem retI (X : Stand p l e R s m args below meth c T locs cells slots) (hx : p.tables.exec = Jvm.exec) {pc : Nat} {Ls : Array Slot} {z : Int32} {rest : List Value} (hret : meth.sig.returnType = some .int) (hd : decode c.code pc = .ok (.ireturn, 1)) {fs : List Frame}
    (hl : ∀ (f : JFrame) (acts : List Action), f.method = m → f.locked = none → f.entered = [] → (doReturn e (T.setTop f) acts (some (.int z))).1 = T.setFrames fs) : Steps p.tables e below (T.setTop (mkF m pc Ls (.int z :: rest))) (T.setFrames fs) := by
  have hm' : T.vm.method? m = some meth := X.method'
  have hn : narrow .int (.int z) = .int z := rfl
  show Steps p.tables e below (T.setTop { method := m, pc := pc, locals := Ls, stack := _ :: rest, locked := none }) _
  jvm_step X.here [X.here.top, hx, hd, hm', hret, hn]
  first | (intro acts; rw [hl _ acts rfl rfl rfl]) | rw [hl _ _ rfl rfl rfl]
  exact Steps.refl _
end New
end Jvm.RoadKit
namespace Jvm.Pilot.@@N@@
open Jvm Jvm.ClassFile Sem Op Lib Jvm.Free Jvm.Stand Jvm.LawKit Jvm.RoadKit Bundle Jvm.Pilot.@@N@@.Jvm.D
abbrev own_Goes (tb : Tables) (e : Env) (below : List Frame) (A : State) (R : State → Outcome → Prop) : Prop := ∃ s₂ o, Steps tb e below A s₂ ∧ R s₂ o
theorem own_go {tb : Tables} {e : Env} {below : List Frame} {A B : State} {R : State → Outcome → Prop} (f : ∀ t, Steps tb e below B t → Steps tb e below A t) (h : own_Goes tb e below B R) : own_Goes tb e below A R := by
  obtain ⟨s₂, o, h1, h2⟩ := h
  exact ⟨s₂, o, f _ h1, h2⟩
theorem d1_0 : decode prog_19_method_1_code 0 = .ok (.aload_n 0, 1) := by decide +kernel
theorem d1_1 : decode prog_19_method_1_code 1 = .ok (.invokespecial 1, 3) := by decide +kernel
theorem d1_4 : decode prog_19_method_1_code 4 = .ok (.aload_n 0, 1) := by decide +kernel
theorem d1_5 : decode prog_19_method_1_code 5 = .ok (.iload_n 1, 1) := by decide +kernel
theorem d1_6 : decode prog_19_method_1_code 6 = .ok (.putfield 7, 3) := by decide +kernel
theorem d1_9 : decode prog_19_method_1_code 9 = .ok (.aload_n 0, 1) := by decide +kernel
theorem d1_10 : decode prog_19_method_1_code 10 = .ok (.lload_n 2, 1) := by decide +kernel
theorem d1_11 : decode prog_19_method_1_code 11 = .ok (.putfield 13, 3) := by decide +kernel
theorem d1_14 : decode prog_19_method_1_code 14 = .ok (.return_, 1) := by decide +kernel
theorem pn_1 : plainName "com/example/usherd/usherd/Published" = true := by first | (simp [plainName, overriddenIn]; done) | decide +kernel
theorem ef_1 (m : MethodId) (x0 : Addr) (x1 : Int32) (x2 : Int64) : entryFrame m #[(.ref x0), (.int x1), (.long x2)] 4 = mkF m 0 #[.val (.ref x0), .val (.int x1), .val (.long x2), .second] [] := by first | (simp [entryFrame, mkF, argsToLocals, Value.category]; done) | rfl
def Q1 (Z : State) (a0 : Addr) (p1 : Int32) (q2 : Int64) (h0 : Heap) (n0 : Nat) (v : Option Value) (h : Heap) (L : List Loc) : Prop := v = none ∧ Fr n0 L ∧ Keep h0 h [a0] ∧ Fld Z h a0 "com/example/usherd/usherd/Published" "queue" "I" (.int p1) ∧ Fld Z h a0 "com/example/usherd/usherd/Published" "offset" "J" (.long q2)
set_option maxRecDepth 65536 in
set_option maxHeartbeats 40000000 in
theorem rm1 (l : Launch) (Z : State) (ta : Array Value) (hw : ∀ d ∈ tables_1, d.before ta Z = true) (ws : List Jvm.Cond) (a0 : Addr) (p1 : Int32) (q2 : Int64)  (h0 : Heap) (n0 : Nat) (Z0 : n0 ≤ h0.size) (E_a0 : Exa Z h0 a0 "com/example/usherd/usherd/Published") (F_queue : Fld Z h0 a0 "com/example/usherd/usherd/Published" "queue" "I" (.int (0 : Int32))) (F_offset : Fld Z h0 a0 "com/example/usherd/usherd/Published" "offset" "J" (.long (0 : Int64))) (g_a0 : n0 ≤ a0) :
    MetFree l (⟨"com/example/usherd/usherd/Published", "<init>", "(IJ)V"⟩ : MethodName) (head1 (Jvm.Cond.code (⟨"com/example/usherd/usherd/Published", "<init>", "(IJ)V"⟩ : MethodName) prog_19_method_1_code 4 none :: ws) ({ frames := 1, cells := 0, slots := 0, locals := 12 } : Room)) (fun a U => a = #[(.ref a0), (.int p1), (.long q2)] ∧ Z.Warmed39 U.vm ∧ U.heap = h0) (fun _ _ _ _ _ => True) (fun _ U o U' => ∃ v L, o = .returned v ∧ Q1 Z a0 p1 q2  h0 n0 v U'.heap L ∧ FrameEnd U o U' L ({ frames := 1, cells := 0, slots := 0, locals := 12 } : Room).cells ({ frames := 1, cells := 0, slots := 0, locals := 12 } : Room).slots) := by
  refine MetFree.of_bodySF (plainFor_of_name pn_1) hisR ?_
  intro p e s m args below meth c s₁ Bd hml0 hP hK
  obtain ⟨rfl, hZ, hh⟩ := hP
  have hx := Bd.exec
  have hby := Bd.bytes
  have hml : c.maxLocals = 4 := hml0
  have hown : s.vm.findClass "com/example/usherd/usherd/Published" = some m.cls := findClass_of_methodNamed Bd.named
  have hnm := (name_of_methodNamed Bd.named Bd.method).1
  have X0 : Stand p l e ({ frames := 1, cells := 0, slots := 0, locals := 12 } : Room) s m #[(.ref a0), (.int p1), (.long q2)] below meth c s₁ [] 0 0 := Stand.of_body Bd
  have e0 : s₁.heap = h0 := by rw [← hh, Bd.state]; rfl
  have N0 := Fr.nil n0
  refine own_go (B := (s₁.setTop (mkF m 0 #[.val (.ref a0), .val (.int p1), .val (.long q2), .second] []))) (fun t k => castTop (ef_1 m a0 p1 q2) k) ?_
  refine own_go (B := (s₁.setTop (mkF m 1 #[.val (.ref a0), .val (.int p1), .val (.long q2), .second] [(.ref a0)]))) (fun t k => XS.aloadN X0.here hx rfl (hb hby d1_0) rfl rfl k) ?_
  obtain ⟨T1, X1, e1, st1⟩ := initO X0 hx hZ hown (hw _ (List.mem_of_getElem? (i := 6) rfl)) (hw _ (List.mem_of_getElem? (i := 7) rfl)) (hw _ (List.mem_of_getElem? (i := 8) rfl)) e0 (g := (mkF m 1 #[.val (.ref a0), .val (.int p1), .val (.long q2), .second] [(.ref a0)])) rfl (by rw [hml]; rfl) rfl (hb hby d1_1) (by decide) (W := 0) (by show 2 * 0 + _ ≤ _; exact Nat.le_of_eq rfl) (by decide)
  refine own_go (B := (T1.setTop (mkF m 4 #[.val (.ref a0), .val (.int p1), .val (.long q2), .second] []))) (fun t k => st1 _ k) ?_
  refine own_go (B := (T1.setTop (mkF m 5 #[.val (.ref a0), .val (.int p1), .val (.long q2), .second] [(.ref a0)]))) (fun t k => XS.aloadN X1.here hx rfl (hb hby d1_4) rfl rfl k) ?_
  refine own_go (B := (T1.setTop (mkF m 6 #[.val (.ref a0), .val (.int p1), .val (.long q2), .second] [(.int p1), (.ref a0)]))) (fun t k => XS.iloadN X1.here hx rfl (hb hby d1_5) rfl k) ?_
  obtain ⟨T2, h2, X2, e2, W2, st2⟩ := putF X1 hx hZ hown (host := "") (Or.inl (hw _ (List.mem_of_getElem? (i := 9) rfl))) Via.refl e1 F_queue E_a0 (Or.inr ⟨(hw _ (List.mem_of_getElem? (i := 10) rfl)), rfl, hnm⟩) (hw _ (List.mem_of_getElem? (i := 1) rfl)) (ty := .int) (by decide) rfl rfl (g := (mkF m 6 #[.val (.ref a0), .val (.int p1), .val (.long q2), .second] [(.int p1), (.ref a0)])) rfl rfl (hb hby d1_6)
  have E_a0_2 := E_a0.wr W2
  have F_a0_queue_2 := F_queue.same W2
  have F_a0_offset_2 := F_offset.other W2 (Or.inr (slot_ne (Or.inr (hw _ (List.mem_of_getElem? (i := 12) rfl))) (Or.inr (hw _ (List.mem_of_getElem? (i := 10) rfl))) (by decide) (t := .long) (t' := .int) (by decide) (by decide)))
  have K2 : Keep h0 h2 [a0] := (Keep.refl h0 [a0]).wr W2 (Or.inl (by simp))
  have Zs2 : n0 ≤ h2.size := Nat.le_trans Z0 (Keep.of_wr W2).1
  have N2 := Fr.snoc X2 N0 g_a0
  refine own_go (B := (T2.setTop (mkF m 9 #[.val (.ref a0), .val (.int p1), .val (.long q2), .second] []))) (fun t k => st2 _ k) ?_
  refine own_go (B := (T2.setTop (mkF m 10 #[.val (.ref a0), .val (.int p1), .val (.long q2), .second] [(.ref a0)]))) (fun t k => XS.aloadN X2.here hx rfl (hb hby d1_9) rfl rfl k) ?_
  refine own_go (B := (T2.setTop (mkF m 11 #[.val (.ref a0), .val (.int p1), .val (.long q2), .second] [(.long q2), (.ref a0)]))) (fun t k => XS.lloadN X2.here hx rfl (hb hby d1_10) rfl k) ?_
  obtain ⟨T3, h3, X3, e3, W3, st3⟩ := putF X2 hx hZ hown (host := "") (Or.inl (hw _ (List.mem_of_getElem? (i := 11) rfl))) Via.refl e2 F_a0_offset_2 E_a0_2 (Or.inr ⟨(hw _ (List.mem_of_getElem? (i := 12) rfl)), rfl, hnm⟩) (hw _ (List.mem_of_getElem? (i := 1) rfl)) (ty := .long) (by decide) rfl rfl (g := (mkF m 11 #[.val (.ref a0), .val (.int p1), .val (.long q2), .second] [(.long q2), (.ref a0)])) rfl rfl (hb hby d1_11)
  have E_a0_3 := E_a0_2.wr W3
  have F_a0_queue_3 := F_a0_queue_2.other W3 (Or.inr (slot_ne (Or.inr (hw _ (List.mem_of_getElem? (i := 10) rfl))) (Or.inr (hw _ (List.mem_of_getElem? (i := 12) rfl))) (by decide) (t := .int) (t' := .long) (by decide) (by decide)))
  have F_a0_offset_3 := F_a0_offset_2.same W3
  have K3 : Keep h0 h3 [a0] := K2.wr W3 (Or.inl (by simp))
  have Zs3 : n0 ≤ h3.size := Nat.le_trans Zs2 (Keep.of_wr W3).1
  have N3 := Fr.snoc X3 N2 g_a0
  refine own_go (B := (T3.setTop (mkF m 14 #[.val (.ref a0), .val (.int p1), .val (.long q2), .second] []))) (fun t k => st3 _ k) ?_
  obtain ⟨fs, hr, hrun, hended, hW, hsame⟩ := X3.leave (v := none) (fun _ => rfl)
  exact ⟨_, _, X3.returnOut hx Bd.returns (hb hby d1_14) hr, hrun, hended, _, _, rfl, (by show Q1 Z a0 p1 q2 h0 n0 _ T3.heap _; rw [e3]; exact ⟨rfl, N3, K3, F_a0_queue_3, F_a0_offset_3⟩), ⟨_, rfl⟩, hW, hsame.mono (by decide) (by decide)⟩
theorem d4_0 : decode jdk_35_method_36_code 0 = .ok (.lload_n 0, 1) := by decide +kernel
theorem d4_1 : decode jdk_35_method_36_code 1 = .ok (.lload_n 0, 1) := by decide +kernel
theorem d4_2 : decode jdk_35_method_36_code 2 = .ok (.bipush 32, 2) := by decide +kernel
theorem d4_4 : decode jdk_35_method_36_code 4 = .ok (.lushr, 1) := by decide +kernel
theorem d4_5 : decode jdk_35_method_36_code 5 = .ok (.lxor, 1) := by decide +kernel
theorem d4_6 : decode jdk_35_method_36_code 6 = .ok (.l2i, 1) := by decide +kernel
theorem d4_7 : decode jdk_35_method_36_code 7 = .ok (.ireturn, 1) := by decide +kernel
theorem pn_4 : plainName "java/lang/Long" = true := by first | (simp [plainName, overriddenIn]; done) | decide +kernel
theorem ef_4 (m : MethodId) (x0 : Int64) : entryFrame m #[(.long x0)] 2 = mkF m 0 #[.val (.long x0), .second] [] := by first | (simp [entryFrame, mkF, argsToLocals, Value.category]; done) | rfl
def F4 (q0 : Int64)  : Int32 := ((q0 ^^^ ((q0.toUInt64 >>> ((32 : Int32) &&& 0x3f).toInt64.toUInt64).toInt64)).toInt32)
def Q4 (Z : State) (q0 : Int64)  (h0 : Heap) (n0 : Nat) (v : Option Value) (h : Heap) (L : List Loc) : Prop := v = some (.int (F4 q0)) ∧ Fr n0 L ∧ h = h0
set_option maxRecDepth 65536 in
set_option maxHeartbeats 40000000 in
theorem rm4 (l : Launch) (Z : State) (ta : Array Value) (hw : ∀ d ∈ tables_1, d.before ta Z = true) (ws : List Jvm.Cond) (q0 : Int64)  (h0 : Heap) (n0 : Nat)  :
    MetFree l (⟨"java/lang/Long", "hashCode", "(J)I"⟩ : MethodName) (head1 (Jvm.Cond.code (⟨"java/lang/Long", "hashCode", "(J)I"⟩ : MethodName) jdk_35_method_36_code 2 (some .int) :: ws) ({ frames := 0, cells := 0, slots := 0, locals := 0 } : Room)) (fun a U => a = #[(.long q0)] ∧ Z.Warmed39 U.vm ∧ U.heap = h0) (fun _ _ _ _ _ => True) (fun _ U o U' => ∃ v L, o = .returned v ∧ Q4 Z q0  h0 n0 v U'.heap L ∧ FrameEnd U o U' L ({ frames := 0, cells := 0, slots := 0, locals := 0 } : Room).cells ({ frames := 0, cells := 0, slots := 0, locals := 0 } : Room).slots) := by
  refine MetFree.of_bodySF (plainFor_of_name pn_4) hisR ?_
  intro p e s m args below meth c s₁ Bd hml0 hP hK
  obtain ⟨rfl, hZ, hh⟩ := hP
  have hx := Bd.exec
  have hby := Bd.bytes
  have hml : c.maxLocals = 2 := hml0
  have hown : s.vm.findClass "java/lang/Long" = some m.cls := findClass_of_methodNamed Bd.named
  have hnm := (name_of_methodNamed Bd.named Bd.method).1
  have X0 : Stand p l e ({ frames := 0, cells := 0, slots := 0, locals := 0 } : Room) s m #[(.long q0)] below meth c s₁ [] 0 0 := Stand.of_body Bd
  have e0 : s₁.heap = h0 := by rw [← hh, Bd.state]; rfl
  have N0 := Fr.nil n0
  refine own_go (B := (s₁.setTop (mkF m 0 #[.val (.long q0), .second] []))) (fun t k => castTop (ef_4 m q0) k) ?_
  refine own_go (B := (s₁.setTop (mkF m 1 #[.val (.long q0), .second] [(.long q0)]))) (fun t k => XS.lloadN X0.here hx rfl (hb hby d4_0) rfl k) ?_
  refine own_go (B := (s₁.setTop (mkF m 2 #[.val (.long q0), .second] [(.long q0), (.long q0)]))) (fun t k => XS.lloadN X0.here hx rfl (hb hby d4_1) rfl k) ?_
  refine own_go (B := (s₁.setTop (mkF m 4 #[.val (.long q0), .second] [(.int (32 : Int32)), (.long q0), (.long q0)]))) (fun t k => XS.bipush X0.here hx rfl (hb hby d4_2) k) ?_
  refine own_go (B := (s₁.setTop (mkF m 5 #[.val (.long q0), .second] [(.long ((q0.toUInt64 >>> ((32 : Int32) &&& 0x3f).toInt64.toUInt64).toInt64)), (.long q0)]))) (fun t k => XS.lushr X0.here hx rfl (hb hby d4_4) rfl k) ?_
  refine own_go (B := (s₁.setTop (mkF m 6 #[.val (.long q0), .second] [(.long (q0 ^^^ ((q0.toUInt64 >>> ((32 : Int32) &&& 0x3f).toInt64.toUInt64).toInt64)))]))) (fun t k => XS.lxor X0.here hx rfl (hb hby d4_5) rfl k) ?_
  refine own_go (B := (s₁.setTop (mkF m 7 #[.val (.long q0), .second] [(.int ((q0 ^^^ ((q0.toUInt64 >>> ((32 : Int32) &&& 0x3f).toInt64.toUInt64).toInt64)).toInt32))]))) (fun t k => XS.l2i X0.here hx rfl (hb hby d4_6) rfl k) ?_
  obtain ⟨fs, hr, hrun, hended, hW, hsame⟩ := X0.leave (v := some (.int ((q0 ^^^ ((q0.toUInt64 >>> ((32 : Int32) &&& 0x3f).toInt64.toUInt64).toInt64)).toInt32))) (fun h => by rw [Bd.returns] at h; cases h)
  exact ⟨_, _, retI X0 hx Bd.returns (hb hby d4_7) hr, hrun, hended, _, _, rfl, ⟨congrArg (fun z => some (Value.int z)) (by rfl), N0, e0⟩, ⟨_, rfl⟩, hW, hsame.mono (by decide) (by decide)⟩
theorem d3_0 : decode prog_19_method_5_code 0 = .ok (.bipush 31, 2) := by decide +kernel
theorem d3_2 : decode prog_19_method_5_code 2 = .ok (.aload_n 0, 1) := by decide +kernel
theorem d3_3 : decode prog_19_method_5_code 3 = .ok (.getfield 7, 3) := by decide +kernel
theorem d3_6 : decode prog_19_method_5_code 6 = .ok (.imul, 1) := by decide +kernel
theorem d3_7 : decode prog_19_method_5_code 7 = .ok (.aload_n 0, 1) := by decide +kernel
theorem d3_8 : decode prog_19_method_5_code 8 = .ok (.getfield 13, 3) := by decide +kernel
theorem d3_11 : decode prog_19_method_5_code 11 = .ok (.invokestatic 17, 3) := by decide +kernel
theorem d3_14 : decode prog_19_method_5_code 14 = .ok (.iadd, 1) := by decide +kernel
theorem d3_15 : decode prog_19_method_5_code 15 = .ok (.ireturn, 1) := by decide +kernel
theorem pn_3 : plainName "com/example/usherd/usherd/Published" = true := by first | (simp [plainName, overriddenIn]; done) | decide +kernel
theorem pd_3_0 : parseMethodDescriptor "(J)I" = some ⟨[.long], some .int⟩ := by decide +kernel
theorem ef_3 (m : MethodId) (x0 : Addr) : entryFrame m #[(.ref x0)] 1 = mkF m 0 #[.val (.ref x0)] [] := by first | (simp [entryFrame, mkF, argsToLocals, Value.category]; done) | rfl
def F3 (a0 : Addr) (pv : Int32) (qv : Int64) : Int32 := (((31 : Int32) * pv) + (F4 qv))
def Q3 (Z : State) (a0 : Addr) (pv : Int32) (qv : Int64) (h0 : Heap) (n0 : Nat) (v : Option Value) (h : Heap) (L : List Loc) : Prop := v = some (.int (F3 a0 pv qv)) ∧ Fr n0 L ∧ h = h0
set_option maxRecDepth 65536 in
set_option maxHeartbeats 40000000 in
theorem rm3 (l : Launch) (Z : State) (ta : Array Value) (hw : ∀ d ∈ tables_1, d.before ta Z = true) (ws : List Jvm.Cond) (a0 : Addr) (pv : Int32) (qv : Int64) (h0 : Heap) (n0 : Nat) (Fq_a0 : Fld Z h0 a0 "com/example/usherd/usherd/Published" "queue" "I" (.int pv)) (Fo_a0 : Fld Z h0 a0 "com/example/usherd/usherd/Published" "offset" "J" (.long qv)) :
    MetFree l (⟨"com/example/usherd/usherd/Published", "hashCode", "()I"⟩ : MethodName) (head1 (Jvm.Cond.code (⟨"com/example/usherd/usherd/Published", "hashCode", "()I"⟩ : MethodName) prog_19_method_5_code 1 (some .int) :: ws) ({ frames := 1, cells := 0, slots := 0, locals := 14 } : Room)) (fun a U => a = #[(.ref a0)] ∧ Z.Warmed39 U.vm ∧ U.heap = h0) (fun _ _ _ _ _ => True) (fun _ U o U' => ∃ v L, o = .returned v ∧ Q3 Z a0 pv qv h0 n0 v U'.heap L ∧ FrameEnd U o U' L ({ frames := 1, cells := 0, slots := 0, locals := 14 } : Room).cells ({ frames := 1, cells := 0, slots := 0, locals := 14 } : Room).slots) := by
  refine MetFree.of_bodySF (plainFor_of_name pn_3) hisR ?_
  intro p e s m args below meth c s₁ Bd hml0 hP hK
  obtain ⟨rfl, hZ, hh⟩ := hP
  have hx := Bd.exec
  have hby := Bd.bytes
  have hml : c.maxLocals = 1 := hml0
  have hown : s.vm.findClass "com/example/usherd/usherd/Published" = some m.cls := findClass_of_methodNamed Bd.named
  have hnm := (name_of_methodNamed Bd.named Bd.method).1
  have X0 : Stand p l e ({ frames := 1, cells := 0, slots := 0, locals := 14 } : Room) s m #[(.ref a0)] below meth c s₁ [] 0 0 := Stand.of_body Bd
  have e0 : s₁.heap = h0 := by rw [← hh, Bd.state]; rfl
  have N0 := Fr.nil n0
  refine own_go (B := (s₁.setTop (mkF m 0 #[.val (.ref a0)] []))) (fun t k => castTop (ef_3 m a0) k) ?_
  refine own_go (B := (s₁.setTop (mkF m 2 #[.val (.ref a0)] [(.int (31 : Int32))]))) (fun t k => XS.bipush X0.here hx rfl (hb hby d3_0) k) ?_
  refine own_go (B := (s₁.setTop (mkF m 3 #[.val (.ref a0)] [(.ref a0), (.int (31 : Int32))]))) (fun t k => XS.aloadN X0.here hx rfl (hb hby d3_2) rfl rfl k) ?_
  obtain ⟨T1, X1, e1, st1⟩ := getF X0 hx hZ hown (host := "") (Or.inl (hw _ (List.mem_of_getElem? (i := 9) rfl))) Via.refl e0 Fq_a0 (g := (mkF m 3 #[.val (.ref a0)] [(.ref a0), (.int (31 : Int32))])) rfl rfl (hb hby d3_3)
  refine own_go (B := (T1.setTop (mkF m 6 #[.val (.ref a0)] [(.int pv), (.int (31 : Int32))]))) (fun t k => st1 _ k) ?_
  refine own_go (B := (T1.setTop (mkF m 7 #[.val (.ref a0)] [(.int ((31 : Int32) * pv))]))) (fun t k => XS.imul X1.here hx rfl (hb hby d3_6) rfl k) ?_
  refine own_go (B := (T1.setTop (mkF m 8 #[.val (.ref a0)] [(.ref a0), (.int ((31 : Int32) * pv))]))) (fun t k => XS.aloadN X1.here hx rfl (hb hby d3_7) rfl rfl k) ?_
  obtain ⟨T2, X2, e2, st2⟩ := getF X1 hx hZ hown (host := "") (Or.inl (hw _ (List.mem_of_getElem? (i := 11) rfl))) Via.refl e1 Fo_a0 (g := (mkF m 8 #[.val (.ref a0)] [(.ref a0), (.int ((31 : Int32) * pv))])) rfl rfl (hb hby d3_8)
  refine own_go (B := (T2.setTop (mkF m 11 #[.val (.ref a0)] [(.long qv), (.int ((31 : Int32) * pv))]))) (fun t k => st2 _ k) ?_
  obtain ⟨_, _, ⟨T3, L3, k3, n3⟩, -, X3, ⟨Lc3, hQ3, l3, y3, z3⟩, st3⟩ := Jvm.LawKit.callS X2 hx (y := (⟨"java/lang/Long", "hashCode", "(J)I"⟩ : MethodName)) hown (mvT hZ (hw _ (List.mem_of_getElem? (i := 18) rfl))) (mvT hZ (hw _ (List.mem_of_getElem? (i := 19) rfl))) (mvT hZ (hw _ (List.mem_of_getElem? (i := 20) rfl))) (mvT hZ (hw _ (List.mem_of_getElem? (i := 21) rfl))) (by decide) (backOf (W := 1) (rm4 l Z ta hw [] qv  h0 n0 ) hZ (hw _ (List.mem_of_getElem? (i := 21) rfl)) (hw _ (List.mem_of_getElem? (i := 20) rfl)) (by decide) (by decide)) (g := (mkF m 11 #[.val (.ref a0)] [(.long qv), (.int ((31 : Int32) * pv))])) rfl (by rw [hml]; rfl) (argsL := [(.long qv)]) (rest := [(.int ((31 : Int32) * pv))]) (lenOf pd_3_0 rfl) rfl (by show 2 * 0 + _ ≤ _; exact Nat.le_of_eq rfl) (hb hby d3_11) (fun _ _ => ⟨rfl, e2, (by decide : 0 + 0 ≤ _), (by decide : 0 + 0 ≤ _)⟩)
  dsimp only [Pt.U, Pt.locs, Pt.cells, Pt.slots] at X3 l3 y3 z3 st3 hQ3
  subst l3 y3 z3
  obtain ⟨rfl, N3q, e3⟩ := hQ3
  replace e3 := e3
  have N3 := Fr.app N0 N3q
  refine own_go (B := (T3.setTop (mkF m 14 #[.val (.ref a0)] [(.int (F4 qv)), (.int ((31 : Int32) * pv))]))) (fun t k => st3 _ k) ?_
  refine own_go (B := (T3.setTop (mkF m 15 #[.val (.ref a0)] [(.int (((31 : Int32) * pv) + (F4 qv)))]))) (fun t k => XS.iadd X3.here hx rfl (hb hby d3_14) rfl k) ?_
  obtain ⟨fs, hr, hrun, hended, hW, hsame⟩ := X3.leave (v := some (.int (((31 : Int32) * pv) + (F4 qv)))) (fun h => by rw [Bd.returns] at h; cases h)
  exact ⟨_, _, retI X3 hx Bd.returns (hb hby d3_15) hr, hrun, hended, _, _, rfl, ⟨congrArg (fun z => some (Value.int z)) (by rfl), N3, e3⟩, ⟨_, rfl⟩, hW, hsame.mono (by decide) (by decide)⟩
theorem d5_0 : decode prog_19_method_4_code 0 = .ok (.aload_n 1, 1) := by decide +kernel
theorem d5_1 : decode prog_19_method_4_code 1 = .ok (.instanceof 8, 3) := by decide +kernel
theorem d5_4 : decode prog_19_method_4_code 4 = .ok (.ifCond .ne 5, 3) := by decide +kernel
theorem d5_9 : decode prog_19_method_4_code 9 = .ok (.aload_n 1, 1) := by decide +kernel
theorem d5_10 : decode prog_19_method_4_code 10 = .ok (.checkcast 8, 3) := by decide +kernel
theorem d5_13 : decode prog_19_method_4_code 13 = .ok (.astore_n 2, 1) := by decide +kernel
theorem d5_14 : decode prog_19_method_4_code 14 = .ok (.aload_n 0, 1) := by decide +kernel
theorem d5_15 : decode prog_19_method_4_code 15 = .ok (.getfield 7, 3) := by decide +kernel
theorem d5_18 : decode prog_19_method_4_code 18 = .ok (.aload_n 2, 1) := by decide +kernel
theorem d5_19 : decode prog_19_method_4_code 19 = .ok (.getfield 7, 3) := by decide +kernel
theorem d5_22 : decode prog_19_method_4_code 22 = .ok (.if_icmp .ne 19, 3) := by decide +kernel
theorem d5_25 : decode prog_19_method_4_code 25 = .ok (.aload_n 0, 1) := by decide +kernel
theorem d5_26 : decode prog_19_method_4_code 26 = .ok (.getfield 13, 3) := by decide +kernel
theorem d5_29 : decode prog_19_method_4_code 29 = .ok (.aload_n 2, 1) := by decide +kernel
theorem d5_30 : decode prog_19_method_4_code 30 = .ok (.getfield 13, 3) := by decide +kernel
theorem d5_33 : decode prog_19_method_4_code 33 = .ok (.lcmp, 1) := by decide +kernel
theorem d5_34 : decode prog_19_method_4_code 34 = .ok (.ifCond .ne 7, 3) := by decide +kernel
theorem d5_37 : decode prog_19_method_4_code 37 = .ok (.iconst 1, 1) := by decide +kernel
theorem d5_38 : decode prog_19_method_4_code 38 = .ok (.goto 4, 3) := by decide +kernel
theorem d5_41 : decode prog_19_method_4_code 41 = .ok (.iconst 0, 1) := by decide +kernel
theorem d5_42 : decode prog_19_method_4_code 42 = .ok (.ireturn, 1) := by decide +kernel
theorem pn_5 : plainName "com/example/usherd/usherd/Published" = true := by first | (simp [plainName, overriddenIn]; done) | decide +kernel
theorem ef_5 (m : MethodId) (x0 : Addr) (x1 : Addr) : entryFrame m #[(.ref x0), (.ref x1)] 3 = mkF m 0 #[.val (.ref x0), .val (.ref x1), .unset] [] := by first | (simp [entryFrame, mkF, argsToLocals, Value.category]; done) | rfl
def F5 (a0 : Addr) (a1 : Addr) (pa : Int32) (qa : Int64) (pb : Int32) (qb : Int64) : Int32 := if pa = pb then (if qa = qb then (1 : Int32) else (0 : Int32)) else (0 : Int32)
def Q5 (Z : State) (a0 : Addr) (a1 : Addr) (pa : Int32) (qa : Int64) (pb : Int32) (qb : Int64) (h0 : Heap) (n0 : Nat) (v : Option Value) (h : Heap) (L : List Loc) : Prop := v = some (.int (F5 a0 a1 pa qa pb qb)) ∧ Fr n0 L ∧ h = h0
set_option maxRecDepth 65536 in
set_option maxHeartbeats 40000000 in
theorem rm5 (l : Launch) (Z : State) (ta : Array Value) (hw : ∀ d ∈ tables_1, d.before ta Z = true) (ws : List Jvm.Cond) (a0 : Addr) (a1 : Addr) (pa : Int32) (qa : Int64) (pb : Int32) (qb : Int64) (h0 : Heap) (n0 : Nat) (Fq_a0 : Fld Z h0 a0 "com/example/usherd/usherd/Published" "queue" "I" (.int pa)) (Fo_a0 : Fld Z h0 a0 "com/example/usherd/usherd/Published" "offset" "J" (.long qa)) (Fq_a1 : Fld Z h0 a1 "com/example/usherd/usherd/Published" "queue" "I" (.int pb)) (Fo_a1 : Fld Z h0 a1 "com/example/usherd/usherd/Published" "offset" "J" (.long qb)) (E_a1 : Exa Z h0 a1 "com/example/usherd/usherd/Published") :
    MetFree l (⟨"com/example/usherd/usherd/Published", "equals", "(Ljava/lang/Object;)Z"⟩ : MethodName) (head1 (Jvm.Cond.code (⟨"com/example/usherd/usherd/Published", "equals", "(Ljava/lang/Object;)Z"⟩ : MethodName) prog_19_method_4_code 3 (some .boolean) :: ws) ({ frames := 0, cells := 0, slots := 0, locals := 0 } : Room)) (fun a U => a = #[(.ref a0), (.ref a1)] ∧ Z.Warmed39 U.vm ∧ U.heap = h0) (fun _ _ _ _ _ => True) (fun _ U o U' => ∃ v L, o = .returned v ∧ Q5 Z a0 a1 pa qa pb qb h0 n0 v U'.heap L ∧ FrameEnd U o U' L ({ frames := 0, cells := 0, slots := 0, locals := 0 } : Room).cells ({ frames := 0, cells := 0, slots := 0, locals := 0 } : Room).slots) := by
  refine MetFree.of_bodySF (plainFor_of_name pn_5) hisR ?_
  intro p e s m args below meth c s₁ Bd hml0 hP hK
  obtain ⟨rfl, hZ, hh⟩ := hP
  have hx := Bd.exec
  have hby := Bd.bytes
  have hml : c.maxLocals = 3 := hml0
  have hown : s.vm.findClass "com/example/usherd/usherd/Published" = some m.cls := findClass_of_methodNamed Bd.named
  have hnm := (name_of_methodNamed Bd.named Bd.method).1
  have X0 : Stand p l e ({ frames := 0, cells := 0, slots := 0, locals := 0 } : Room) s m #[(.ref a0), (.ref a1)] below meth c s₁ [] 0 0 := Stand.of_body Bd
  have e0 : s₁.heap = h0 := by rw [← hh, Bd.state]; rfl
  have N0 := Fr.nil n0
  refine own_go (B := (s₁.setTop (mkF m 0 #[.val (.ref a0), .val (.ref a1), .unset] []))) (fun t k => castTop (ef_5 m a0 a1) k) ?_
  refine own_go (B := (s₁.setTop (mkF m 1 #[.val (.ref a0), .val (.ref a1), .unset] [(.ref a1)]))) (fun t k => XS.aloadN X0.here hx rfl (hb hby d5_0) rfl rfl k) ?_
  obtain ⟨T1, X1, e1, st1⟩ := instY X0 hx hZ hown (hw _ (List.mem_of_getElem? (i := 27) rfl)) e0 (Ins.self E_a1) (g := (mkF m 1 #[.val (.ref a0), .val (.ref a1), .unset] [(.ref a1)])) rfl rfl (hb hby d5_1)
  refine own_go (B := (T1.setTop (mkF m 4 #[.val (.ref a0), .val (.ref a1), .unset] [(.int (1 : Int32))]))) (fun t k => st1 _ k) ?_
  refine own_go (B := (T1.setTop (mkF m 9 #[.val (.ref a0), .val (.ref a1), .unset] []))) (fun t k => XS.ifYes X1.here hx rfl (pc0 := 4) (pc' := 9) rfl (hb hby d5_4) rfl ((if0 _ _).trans (feq (by decide)).2) (by decide) (by decide) k) ?_
  refine own_go (B := (T1.setTop (mkF m 10 #[.val (.ref a0), .val (.ref a1), .unset] [(.ref a1)]))) (fun t k => XS.aloadN X1.here hx rfl (hb hby d5_9) rfl rfl k) ?_
  obtain ⟨T2, X2, e2, st2⟩ := castY X1 hx hZ hown (hw _ (List.mem_of_getElem? (i := 27) rfl)) e1 (Ins.self E_a1) (g := (mkF m 10 #[.val (.ref a0), .val (.ref a1), .unset] [(.ref a1)])) rfl rfl (hb hby d5_10)
  refine own_go (B := (T2.setTop (mkF m 13 #[.val (.ref a0), .val (.ref a1), .unset] [(.ref a1)]))) (fun t k => st2 _ k) ?_
  refine own_go (B := (T2.setTop (mkF m 14 #[.val (.ref a0), .val (.ref a1), .val (.ref a1)] []))) (fun t k => XS.astoreN X2.here hx rfl (hb hby d5_13) rfl rfl (l' := #[.val (.ref a0), .val (.ref a1), .val (.ref a1)]) rfl k) ?_
  refine own_go (B := (T2.setTop (mkF m 15 #[.val (.ref a0), .val (.ref a1), .val (.ref a1)] [(.ref a0)]))) (fun t k => XS.aloadN X2.here hx rfl (hb hby d5_14) rfl rfl k) ?_
  obtain ⟨T3, X3, e3, st3⟩ := getF X2 hx hZ hown (host := "") (Or.inl (hw _ (List.mem_of_getElem? (i := 9) rfl))) Via.refl e2 Fq_a0 (g := (mkF m 15 #[.val (.ref a0), .val (.ref a1), .val (.ref a1)] [(.ref a0)])) rfl rfl (hb hby d5_15)
  refine own_go (B := (T3.setTop (mkF m 18 #[.val (.ref a0), .val (.ref a1), .val (.ref a1)] [(.int pa)]))) (fun t k => st3 _ k) ?_
  refine own_go (B := (T3.setTop (mkF m 19 #[.val (.ref a0), .val (.ref a1), .val (.ref a1)] [(.ref a1), (.int pa)]))) (fun t k => XS.aloadN X3.here hx rfl (hb hby d5_18) rfl rfl k) ?_
  obtain ⟨T4, X4, e4, st4⟩ := getF X3 hx hZ hown (host := "") (Or.inl (hw _ (List.mem_of_getElem? (i := 9) rfl))) Via.refl e3 Fq_a1 (g := (mkF m 19 #[.val (.ref a0), .val (.ref a1), .val (.ref a1)] [(.ref a1), (.int pa)])) rfl rfl (hb hby d5_19)
  refine own_go (B := (T4.setTop (mkF m 22 #[.val (.ref a0), .val (.ref a1), .val (.ref a1)] [(.int pb), (.int pa)]))) (fun t k => st4 _ k) ?_
  by_cases hc22 : pa = pb
  · refine own_go (B := (T4.setTop (mkF m 25 #[.val (.ref a0), .val (.ref a1), .val (.ref a1)] []))) (fun t k => XS.icmpNo X4.here hx rfl (hb hby d5_22) rfl (teq hc22).2 k) ?_
    refine own_go (B := (T4.setTop (mkF m 26 #[.val (.ref a0), .val (.ref a1), .val (.ref a1)] [(.ref a0)]))) (fun t k => XS.aloadN X4.here hx rfl (hb hby d5_25) rfl rfl k) ?_
    obtain ⟨T5, X5, e5, st5⟩ := getF X4 hx hZ hown (host := "") (Or.inl (hw _ (List.mem_of_getElem? (i := 11) rfl))) Via.refl e4 Fo_a0 (g := (mkF m 26 #[.val (.ref a0), .val (.ref a1), .val (.ref a1)] [(.ref a0)])) rfl rfl (hb hby d5_26)
    refine own_go (B := (T5.setTop (mkF m 29 #[.val (.ref a0), .val (.ref a1), .val (.ref a1)] [(.long qa)]))) (fun t k => st5 _ k) ?_
    refine own_go (B := (T5.setTop (mkF m 30 #[.val (.ref a0), .val (.ref a1), .val (.ref a1)] [(.ref a1), (.long qa)]))) (fun t k => XS.aloadN X5.here hx rfl (hb hby d5_29) rfl rfl k) ?_
    obtain ⟨T6, X6, e6, st6⟩ := getF X5 hx hZ hown (host := "") (Or.inl (hw _ (List.mem_of_getElem? (i := 11) rfl))) Via.refl e5 Fo_a1 (g := (mkF m 30 #[.val (.ref a0), .val (.ref a1), .val (.ref a1)] [(.ref a1), (.long qa)])) rfl rfl (hb hby d5_30)
    refine own_go (B := (T6.setTop (mkF m 33 #[.val (.ref a0), .val (.ref a1), .val (.ref a1)] [(.long qb), (.long qa)]))) (fun t k => st6 _ k) ?_
    refine own_go (B := (T6.setTop (mkF m 34 #[.val (.ref a0), .val (.ref a1), .val (.ref a1)] [(.int (lcmpW qa qb))]))) (fun t k => XS.lcmp X6.here hx rfl (hb hby d5_33) rfl k) ?_
    by_cases hc34 : qa = qb
    · refine own_go (B := (T6.setTop (mkF m 37 #[.val (.ref a0), .val (.ref a1), .val (.ref a1)] []))) (fun t k => XS.ifNo X6.here hx rfl (hb hby d5_34) rfl ((if0 _ _).trans (teq ((lw_eq _ _).mpr hc34)).2) k) ?_
      refine own_go (B := (T6.setTop (mkF m 38 #[.val (.ref a0), .val (.ref a1), .val (.ref a1)] [(.int (1 : Int32))]))) (fun t k => XS.iconst X6.here hx rfl (hb hby d5_37) k) ?_
      refine own_go (B := (T6.setTop (mkF m 42 #[.val (.ref a0), .val (.ref a1), .val (.ref a1)] [(.int (1 : Int32))]))) (fun t k => XS.goto X6.here hx rfl (pc0 := 38) (pc' := 42) rfl (hb hby d5_38) (by decide) (by decide) k) ?_
      obtain ⟨fs, hr, hrun, hended, hW, hsame⟩ := X6.leave (v := some (.int (1 : Int32))) (fun h => by rw [Bd.returns] at h; cases h)
      exact ⟨_, _, retN X6 hx (t := .boolean) Bd.returns (by simp) (hb hby d5_42) hr, hrun, hended, _, _, rfl, ⟨congrArg (fun z => some (Value.int z)) (by simp only [F5, if_pos hc22, if_pos hc34]), N0, e6⟩, ⟨_, rfl⟩, hW, hsame.mono (by decide) (by decide)⟩
    · refine own_go (B := (T6.setTop (mkF m 41 #[.val (.ref a0), .val (.ref a1), .val (.ref a1)] []))) (fun t k => XS.ifYes X6.here hx rfl (pc0 := 34) (pc' := 41) rfl (hb hby d5_34) rfl ((if0 _ _).trans (feq (fun z => hc34 ((lw_eq _ _).mp z))).2) (by decide) (by decide) k) ?_
      refine own_go (B := (T6.setTop (mkF m 42 #[.val (.ref a0), .val (.ref a1), .val (.ref a1)] [(.int (0 : Int32))]))) (fun t k => XS.iconst X6.here hx rfl (hb hby d5_41) k) ?_
      obtain ⟨fs, hr, hrun, hended, hW, hsame⟩ := X6.leave (v := some (.int (0 : Int32))) (fun h => by rw [Bd.returns] at h; cases h)
      exact ⟨_, _, retN X6 hx (t := .boolean) Bd.returns (by simp) (hb hby d5_42) hr, hrun, hended, _, _, rfl, ⟨congrArg (fun z => some (Value.int z)) (by simp only [F5, if_pos hc22, if_neg hc34]), N0, e6⟩, ⟨_, rfl⟩, hW, hsame.mono (by decide) (by decide)⟩
  · refine own_go (B := (T4.setTop (mkF m 41 #[.val (.ref a0), .val (.ref a1), .val (.ref a1)] []))) (fun t k => XS.icmpYes X4.here hx rfl (pc0 := 22) (pc' := 41) rfl (hb hby d5_22) rfl (feq hc22).2 (by decide) (by decide) k) ?_
    refine own_go (B := (T4.setTop (mkF m 42 #[.val (.ref a0), .val (.ref a1), .val (.ref a1)] [(.int (0 : Int32))]))) (fun t k => XS.iconst X4.here hx rfl (hb hby d5_41) k) ?_
    obtain ⟨fs, hr, hrun, hended, hW, hsame⟩ := X4.leave (v := some (.int (0 : Int32))) (fun h => by rw [Bd.returns] at h; cases h)
    exact ⟨_, _, retN X4 hx (t := .boolean) Bd.returns (by simp) (hb hby d5_42) hr, hrun, hended, _, _, rfl, ⟨congrArg (fun z => some (Value.int z)) (by simp only [F5, if_neg hc22]), N0, e4⟩, ⟨_, rfl⟩, hW, hsame.mono (by decide) (by decide)⟩
theorem own_hash {a b : Addr} {p p' : Int32} {q q' : Int64} (h1 : p = p') (h2 : q = q') : F3 a p q = F3 b p' q' := by subst h1 h2; rfl
theorem own_equ {a b : Addr} {p p' : Int32} {q q' : Int64} (h : ¬ F5 a b p q p' q' = (0 : Int32)) : p = p' ∧ q = q' := by
  unfold F5 at h
  by_cases h1 : p = p'
  · by_cases h2 : q = q'
    · exact ⟨h1, h2⟩
    · simp [h1, h2] at h
  · simp [h1] at h
theorem pn_0 : plainName "com/example/usherd/usherd/PublishedHashCodePinLaw" = true := by first | (simp [plainName, overriddenIn]; done) | decide +kernel
theorem pd_0_0 : parseMethodDescriptor "(IJ)V" = some ⟨[.int, .long], none⟩ := by decide +kernel
theorem pd_0_1 : parseMethodDescriptor "()I" = some ⟨[], some .int⟩ := by decide +kernel
theorem pd_0_2 : parseMethodDescriptor "(Ljava/lang/Object;)Z" = some ⟨[(.object "java/lang/Object")], some .boolean⟩ := by decide +kernel
theorem ef_0 (m : MethodId) (x0 : Int32) (x1 : Int64) (x2 : Int32) (x3 : Int64) (x4 : Int32) : entryFrame m #[(.int x0), (.long x1), (.int x2), (.long x3), (.int x4)] maxLocals = mkF m 0 #[.val (.int x0), .val (.long x1), .second, .val (.int x2), .val (.long x3), .second, .val (.int x4), .unset, .unset, .unset, .unset, .unset, .unset, .unset, .unset, .unset] [] := by first | (simp [entryFrame, mkF, argsToLocals, Value.category, maxLocals]; done) | rfl
def Q0 (Z : State) (p0 : Int32) (q1 : Int64) (p2 : Int32) (q3 : Int64) (p4 : Int32) (h0 : Heap) (n0 : Nat) (v : Option Value) (h : Heap) (L : List Loc) : Prop := v = some (.int (1 : Int32)) ∧ Fr n0 L
set_option maxRecDepth 65536 in
set_option maxHeartbeats 40000000 in
theorem rm0 (l : Launch) (Z : State) (ta : Array Value) (hw : ∀ d ∈ tables_1, d.before ta Z = true) (ws : List Jvm.Cond) (p0 : Int32) (q1 : Int64) (p2 : Int32) (q3 : Int64) (p4 : Int32)  (h0 : Heap) (n0 : Nat) (Z0 : n0 ≤ h0.size) :
    MetFree l x (head1 (Jvm.Cond.code x code maxLocals ret :: ws) room_1) (fun a U => a = #[(.int p0), (.long q1), (.int p2), (.long q3), (.int p4)] ∧ Z.Warmed39 U.vm ∧ U.heap = h0) (fun _ _ _ _ _ => True) (fun _ U o U' => ∃ v L, o = .returned v ∧ Q0 Z p0 q1 p2 q3 p4  h0 n0 v U'.heap L ∧ FrameEnd U o U' L room_1.cells room_1.slots) := by
  refine MetFree.of_bodySF (plainFor_of_name pn_0) hisR ?_
  intro p e s m args below meth c s₁ Bd hml0 hP hK
  obtain ⟨rfl, hZ, hh⟩ := hP
  have hx := Bd.exec
  have hby := Bd.bytes
  have hml : c.maxLocals = 16 := hml0
  have hown : s.vm.findClass "com/example/usherd/usherd/PublishedHashCodePinLaw" = some m.cls := findClass_of_methodNamed Bd.named
  have hnm := (name_of_methodNamed Bd.named Bd.method).1
  have X0 : Stand p l e room_1 s m #[(.int p0), (.long q1), (.int p2), (.long q3), (.int p4)] below meth c s₁ [] 0 0 := Stand.of_body Bd
  have e0 : s₁.heap = h0 := by rw [← hh, Bd.state]; rfl
  have N0 := Fr.nil n0
  refine own_go (B := (s₁.setTop (mkF m 0 #[.val (.int p0), .val (.long q1), .second, .val (.int p2), .val (.long q3), .second, .val (.int p4), .unset, .unset, .unset, .unset, .unset, .unset, .unset, .unset, .unset] []))) (fun t k => castTop (ef_0 m p0 q1 p2 q3 p4) k) ?_
  refine own_go (B := (s₁.setTop (mkF m 2 #[.val (.int p0), .val (.long q1), .second, .val (.int p2), .val (.long q3), .second, .val (.int p4), .unset, .unset, .unset, .unset, .unset, .unset, .unset, .unset, .unset] [(.int p4)]))) (fun t k => XS.iload X0.here hx rfl (hb hby at_0) rfl k) ?_
  refine own_go (B := (s₁.setTop (mkF m 3 #[.val (.int p0), .val (.long q1), .second, .val (.int p2), .val (.long q3), .second, .val (.int p4), .unset, .unset, .unset, .unset, .unset, .unset, .unset, .unset, .unset] [(.int (1 : Int32)), (.int p4)]))) (fun t k => XS.iconst X0.here hx rfl (hb hby at_2) k) ?_
  refine own_go (B := (s₁.setTop (mkF m 4 #[.val (.int p0), .val (.long q1), .second, .val (.int p2), .val (.long q3), .second, .val (.int p4), .unset, .unset, .unset, .unset, .unset, .unset, .unset, .unset, .unset] [(.int (p4 &&& (1 : Int32)))]))) (fun t k => XS.iand X0.here hx rfl (hb hby at_3) rfl k) ?_
  have hj1 : ∀ t, Steps p.tables e below (s₁.setTop (mkF m 12 #[.val (.int p0), .val (.long q1), .second, .val (.int p2), .val (.long q3), .second, .val (.int p4), .unset, .unset, .unset, .unset, .unset, .unset, .unset, .unset, .unset] [(.int (if (p4 &&& (1 : Int32)) = (0 : Int32) then p2 else p0))])) t → Steps p.tables e below (s₁.setTop (mkF m 4 #[.val (.int p0), .val (.long q1), .second, .val (.int p2), .val (.long q3), .second, .val (.int p4), .unset, .unset, .unset, .unset, .unset, .unset, .unset, .unset, .unset] [(.int (p4 &&& (1 : Int32)))])) t := by
    intro t k
    by_cases hc4 : (p4 &&& (1 : Int32)) = (0 : Int32)
    · simp only [if_pos hc4] at k
      refine XS.ifYes X0.here hx rfl (pc0 := 4) (pc' := 11) rfl (hb hby at_4) rfl ((if0 _ _).trans (teq hc4).1) (by decide) (by decide) (?_ : Steps p.tables e below (s₁.setTop (mkF m 11 #[.val (.int p0), .val (.long q1), .second, .val (.int p2), .val (.long q3), .second, .val (.int p4), .unset, .unset, .unset, .unset, .unset, .unset, .unset, .unset, .unset] [])) _)
      refine XS.iloadN X0.here hx rfl (hb hby at_11) rfl (?_ : Steps p.tables e below (s₁.setTop (mkF m 12 #[.val (.int p0), .val (.long q1), .second, .val (.int p2), .val (.long q3), .second, .val (.int p4), .unset, .unset, .unset, .unset, .unset, .unset, .unset, .unset, .unset] [(.int p2)])) _)
      exact k
    · simp only [if_neg hc4] at k
      refine XS.ifNo X0.here hx rfl (hb hby at_4) rfl ((if0 _ _).trans (feq hc4).1) (?_ : Steps p.tables e below (s₁.setTop (mkF m 7 #[.val (.int p0), .val (.long q1), .second, .val (.int p2), .val (.long q3), .second, .val (.int p4), .unset, .unset, .unset, .unset, .unset, .unset, .unset, .unset, .unset] [])) _)
      refine XS.iloadN X0.here hx rfl (hb hby at_7) rfl (?_ : Steps p.tables e below (s₁.setTop (mkF m 8 #[.val (.int p0), .val (.long q1), .second, .val (.int p2), .val (.long q3), .second, .val (.int p4), .unset, .unset, .unset, .unset, .unset, .unset, .unset, .unset, .unset] [(.int p0)])) _)
      refine XS.goto X0.here hx rfl (pc0 := 8) (pc' := 12) rfl (hb hby at_8) (by decide) (by decide) (?_ : Steps p.tables e below (s₁.setTop (mkF m 12 #[.val (.int p0), .val (.long q1), .second, .val (.int p2), .val (.long q3), .second, .val (.int p4), .unset, .unset, .unset, .unset, .unset, .unset, .unset, .unset, .unset] [(.int p0)])) _)
      exact k
  refine own_go (B := (s₁.setTop (mkF m 12 #[.val (.int p0), .val (.long q1), .second, .val (.int p2), .val (.long q3), .second, .val (.int p4), .unset, .unset, .unset, .unset, .unset, .unset, .unset, .unset, .unset] [(.int (if (p4 &&& (1 : Int32)) = (0 : Int32) then p2 else p0))]))) (fun t k => hj1 t k) ?_
  generalize hg_bq : (if (p4 &&& (1 : Int32)) = (0 : Int32) then p2 else p0) = bq
  refine own_go (B := (s₁.setTop (mkF m 14 #[.val (.int p0), .val (.long q1), .second, .val (.int p2), .val (.long q3), .second, .val (.int p4), .val (.int bq), .unset, .unset, .unset, .unset, .unset, .unset, .unset, .unset] []))) (fun t k => XS.istore X0.here hx rfl (hb hby at_12) rfl (l' := #[.val (.int p0), .val (.long q1), .second, .val (.int p2), .val (.long q3), .second, .val (.int p4), .val (.int bq), .unset, .unset, .unset, .unset, .unset, .unset, .unset, .unset]) rfl k) ?_
  refine own_go (B := (s₁.setTop (mkF m 16 #[.val (.int p0), .val (.long q1), .second, .val (.int p2), .val (.long q3), .second, .val (.int p4), .val (.int bq), .unset, .unset, .unset, .unset, .unset, .unset, .unset, .unset] [(.int p4)]))) (fun t k => XS.iload X0.here hx rfl (hb hby at_14) rfl k) ?_
  refine own_go (B := (s₁.setTop (mkF m 17 #[.val (.int p0), .val (.long q1), .second, .val (.int p2), .val (.long q3), .second, .val (.int p4), .val (.int bq), .unset, .unset, .unset, .unset, .unset, .unset, .unset, .unset] [(.int (2 : Int32)), (.int p4)]))) (fun t k => XS.iconst X0.here hx rfl (hb hby at_16) k) ?_
  refine own_go (B := (s₁.setTop (mkF m 18 #[.val (.int p0), .val (.long q1), .second, .val (.int p2), .val (.long q3), .second, .val (.int p4), .val (.int bq), .unset, .unset, .unset, .unset, .unset, .unset, .unset, .unset] [(.int (p4 &&& (2 : Int32)))]))) (fun t k => XS.iand X0.here hx rfl (hb hby at_17) rfl k) ?_
  have hj2 : ∀ t, Steps p.tables e below (s₁.setTop (mkF m 27 #[.val (.int p0), .val (.long q1), .second, .val (.int p2), .val (.long q3), .second, .val (.int p4), .val (.int bq), .unset, .unset, .unset, .unset, .unset, .unset, .unset, .unset] [(.long (if (p4 &&& (2 : Int32)) = (0 : Int32) then q3 else q1))])) t → Steps p.tables e below (s₁.setTop (mkF m 18 #[.val (.int p0), .val (.long q1), .second, .val (.int p2), .val (.long q3), .second, .val (.int p4), .val (.int bq), .unset, .unset, .unset, .unset, .unset, .unset, .unset, .unset] [(.int (p4 &&& (2 : Int32)))])) t := by
    intro t k
    by_cases hc18 : (p4 &&& (2 : Int32)) = (0 : Int32)
    · simp only [if_pos hc18] at k
      refine XS.ifYes X0.here hx rfl (pc0 := 18) (pc' := 25) rfl (hb hby at_18) rfl ((if0 _ _).trans (teq hc18).1) (by decide) (by decide) (?_ : Steps p.tables e below (s₁.setTop (mkF m 25 #[.val (.int p0), .val (.long q1), .second, .val (.int p2), .val (.long q3), .second, .val (.int p4), .val (.int bq), .unset, .unset, .unset, .unset, .unset, .unset, .unset, .unset] [])) _)
      refine XS.lload X0.here hx rfl (hb hby at_25) rfl (?_ : Steps p.tables e below (s₁.setTop (mkF m 27 #[.val (.int p0), .val (.long q1), .second, .val (.int p2), .val (.long q3), .second, .val (.int p4), .val (.int bq), .unset, .unset, .unset, .unset, .unset, .unset, .unset, .unset] [(.long q3)])) _)
      exact k
    · simp only [if_neg hc18] at k
      refine XS.ifNo X0.here hx rfl (hb hby at_18) rfl ((if0 _ _).trans (feq hc18).1) (?_ : Steps p.tables e below (s₁.setTop (mkF m 21 #[.val (.int p0), .val (.long q1), .second, .val (.int p2), .val (.long q3), .second, .val (.int p4), .val (.int bq), .unset, .unset, .unset, .unset, .unset, .unset, .unset, .unset] [])) _)
      refine XS.lloadN X0.here hx rfl (hb hby at_21) rfl (?_ : Steps p.tables e below (s₁.setTop (mkF m 22 #[.val (.int p0), .val (.long q1), .second, .val (.int p2), .val (.long q3), .second, .val (.int p4), .val (.int bq), .unset, .unset, .unset, .unset, .unset, .unset, .unset, .unset] [(.long q1)])) _)
      refine XS.goto X0.here hx rfl (pc0 := 22) (pc' := 27) rfl (hb hby at_22) (by decide) (by decide) (?_ : Steps p.tables e below (s₁.setTop (mkF m 27 #[.val (.int p0), .val (.long q1), .second, .val (.int p2), .val (.long q3), .second, .val (.int p4), .val (.int bq), .unset, .unset, .unset, .unset, .unset, .unset, .unset, .unset] [(.long q1)])) _)
      exact k
  refine own_go (B := (s₁.setTop (mkF m 27 #[.val (.int p0), .val (.long q1), .second, .val (.int p2), .val (.long q3), .second, .val (.int p4), .val (.int bq), .unset, .unset, .unset, .unset, .unset, .unset, .unset, .unset] [(.long (if (p4 &&& (2 : Int32)) = (0 : Int32) then q3 else q1))]))) (fun t k => hj2 t k) ?_
  generalize hg_bo : (if (p4 &&& (2 : Int32)) = (0 : Int32) then q3 else q1) = bo
  refine own_go (B := (s₁.setTop (mkF m 29 #[.val (.int p0), .val (.long q1), .second, .val (.int p2), .val (.long q3), .second, .val (.int p4), .val (.int bq), .val (.long bo), .second, .unset, .unset, .unset, .unset, .unset, .unset] []))) (fun t k => XS.lstore X0.here hx rfl (hb hby at_27) rfl (l' := #[.val (.int p0), .val (.long q1), .second, .val (.int p2), .val (.long q3), .second, .val (.int p4), .val (.int bq), .val (.long bo), .second, .unset, .unset, .unset, .unset, .unset, .unset]) rfl k) ?_
  obtain ⟨T3, h3, X3, e3, E3, A3, D3, -, st3⟩ := newO X0 hx hZ hown (hw _ (List.mem_of_getElem? (i := 0) rfl)) (hw _ (List.mem_of_getElem? (i := 1) rfl)) (hw _ (List.mem_of_getElem? (i := 2) rfl)) e0 (g := (mkF m 29 #[.val (.int p0), .val (.long q1), .second, .val (.int p2), .val (.long q3), .second, .val (.int p4), .val (.int bq), .val (.long bo), .second, .unset, .unset, .unset, .unset, .unset, .unset] [])) rfl (hb hby at_29) (by decide) (by decide)
  obtain ⟨b3, g3⟩ : ∃ z, z = h0.size := ⟨_, rfl⟩
  rw [← g3] at A3 D3 st3
  have g_b3 : n0 ≤ b3 := Nat.le_trans Z0 (Nat.le_of_eq g3.symm)
  have Zs3 : n0 ≤ h3.size := Nat.le_trans Z0 E3.1
  have F_queue_b3 : Fld Z h3 b3 "com/example/usherd/usherd/Published" "queue" "I" (.int (0 : Int32)) := D3 (Or.inr (hw _ (List.mem_of_getElem? (i := 10) rfl))) (ty := .int) (by decide)
  have F_offset_b3 : Fld Z h3 b3 "com/example/usherd/usherd/Published" "offset" "J" (.long (0 : Int64)) := D3 (Or.inr (hw _ (List.mem_of_getElem? (i := 12) rfl))) (ty := .long) (by decide)
  refine own_go (B := (T3.setTop (mkF m 32 #[.val (.int p0), .val (.long q1), .second, .val (.int p2), .val (.long q3), .second, .val (.int p4), .val (.int bq), .val (.long bo), .second, .unset, .unset, .unset, .unset, .unset, .unset] [(.ref b3)]))) (fun t k => st3 _ k) ?_
  refine own_go (B := (T3.setTop (mkF m 33 #[.val (.int p0), .val (.long q1), .second, .val (.int p2), .val (.long q3), .second, .val (.int p4), .val (.int bq), .val (.long bo), .second, .unset, .unset, .unset, .unset, .unset, .unset] [(.ref b3), (.ref b3)]))) (fun t k => XS.dup X3.here hx rfl (hb hby at_32) rfl rfl k) ?_
  refine own_go (B := (T3.setTop (mkF m 34 #[.val (.int p0), .val (.long q1), .second, .val (.int p2), .val (.long q3), .second, .val (.int p4), .val (.int bq), .val (.long bo), .second, .unset, .unset, .unset, .unset, .unset, .unset] [(.int p0), (.ref b3), (.ref b3)]))) (fun t k => XS.iloadN X3.here hx rfl (hb hby at_33) rfl k) ?_
  refine own_go (B := (T3.setTop (mkF m 35 #[.val (.int p0), .val (.long q1), .second, .val (.int p2), .val (.long q3), .second, .val (.int p4), .val (.int bq), .val (.long bo), .second, .unset, .unset, .unset, .unset, .unset, .unset] [(.long q1), (.int p0), (.ref b3), (.ref b3)]))) (fun t k => XS.lloadN X3.here hx rfl (hb hby at_34) rfl k) ?_
  obtain ⟨_, _, ⟨T4, L4, k4, n4⟩, -, X4, ⟨Lc4, hQ4, l4, y4, z4⟩, st4⟩ := X3.specialBack hx (y := (⟨"com/example/usherd/usherd/Published", "<init>", "(IJ)V"⟩ : MethodName)) rfl hown (mvT hZ (hw _ (List.mem_of_getElem? (i := 3) rfl))) (mvT hZ (hw _ (List.mem_of_getElem? (i := 4) rfl))) (mvT hZ (hw _ (List.mem_of_getElem? (i := 5) rfl))) (by decide) (backOf (W := 1) (rm1 l Z ta hw [] b3 p0 q1  h3 n0 Zs3 A3 F_queue_b3 F_offset_b3 g_b3) hZ (hw _ (List.mem_of_getElem? (i := 5) rfl)) (hw _ (List.mem_of_getElem? (i := 2) rfl)) (by decide) (by decide)) (g := (mkF m 35 #[.val (.int p0), .val (.long q1), .second, .val (.int p2), .val (.long q3), .second, .val (.int p4), .val (.int bq), .val (.long bo), .second, .unset, .unset, .unset, .unset, .unset, .unset] [(.long q1), (.int p0), (.ref b3), (.ref b3)])) rfl (by rw [hml]; rfl) (Steps.refl _) (a := b3) (argsL := [(.int p0), (.long q1)]) (rest := [(.ref b3)]) (lenOf pd_0_0 rfl) rfl (by show 2 * 0 + _ ≤ _; exact Nat.le_of_eq rfl) (hb hby at_35) (fun _ _ => ⟨rfl, e3, (by decide : (0 + 1) + 0 ≤ _), (by decide : (0 + 2) + 0 ≤ _)⟩)
  dsimp only [Pt.U, Pt.locs, Pt.cells, Pt.slots] at X4 l4 y4 z4 st4 hQ4
  subst l4 y4 z4
  obtain ⟨rfl, N4q, K4, Fq4_0, Fq4_1⟩ := hQ4
  have E_b3_4 := A3.keep K4
  have Zs4 : n0 ≤ T4.heap.size := Nat.le_trans Zs3 K4.1
  have N4 := Fr.app N0 N4q
  refine own_go (B := (T4.setTop (mkF m 38 #[.val (.int p0), .val (.long q1), .second, .val (.int p2), .val (.long q3), .second, .val (.int p4), .val (.int bq), .val (.long bo), .second, .unset, .unset, .unset, .unset, .unset, .unset] [(.ref b3)]))) (fun t k => st4.trans k) ?_
  refine own_go (B := (T4.setTop (mkF m 40 #[.val (.int p0), .val (.long q1), .second, .val (.int p2), .val (.long q3), .second, .val (.int p4), .val (.int bq), .val (.long bo), .second, .val (.ref b3), .unset, .unset, .unset, .unset, .unset] []))) (fun t k => XS.astore X4.here hx rfl (hb hby at_38) rfl rfl (l' := #[.val (.int p0), .val (.long q1), .second, .val (.int p2), .val (.long q3), .second, .val (.int p4), .val (.int bq), .val (.long bo), .second, .val (.ref b3), .unset, .unset, .unset, .unset, .unset]) rfl k) ?_
  obtain ⟨T5, h5, X5, e5, E5, A5, D5, -, st5⟩ := newO X4 hx hZ hown (hw _ (List.mem_of_getElem? (i := 0) rfl)) (hw _ (List.mem_of_getElem? (i := 1) rfl)) (hw _ (List.mem_of_getElem? (i := 2) rfl)) rfl (g := (mkF m 40 #[.val (.int p0), .val (.long q1), .second, .val (.int p2), .val (.long q3), .second, .val (.int p4), .val (.int bq), .val (.long bo), .second, .val (.ref b3), .unset, .unset, .unset, .unset, .unset] [])) rfl (hb hby at_40) (by decide) (by decide)
  obtain ⟨b5, g5⟩ : ∃ z, z = T4.heap.size := ⟨_, rfl⟩
  rw [← g5] at A5 D5 st5
  have ne_b3_b5 : b3 ≠ b5 := Nat.ne_of_lt (Nat.lt_of_lt_of_le E_b3_4.lt (Nat.le_of_eq g5.symm))
  have g_b5 : n0 ≤ b5 := Nat.le_trans Zs4 (Nat.le_of_eq g5.symm)
  have Zs5 : n0 ≤ h5.size := Nat.le_trans Zs4 E5.1
  have E_b3_5 := E_b3_4.ext E5
  have F_b3_queue_5 := Fq4_0.ext E5
  have F_b3_offset_5 := Fq4_1.ext E5
  have F_queue_b5 : Fld Z h5 b5 "com/example/usherd/usherd/Published" "queue" "I" (.int (0 : Int32)) := D5 (Or.inr (hw _ (List.mem_of_getElem? (i := 10) rfl))) (ty := .int) (by decide)
  have F_offset_b5 : Fld Z h5 b5 "com/example/usherd/usherd/Published" "offset" "J" (.long (0 : Int64)) := D5 (Or.inr (hw _ (List.mem_of_getElem? (i := 12) rfl))) (ty := .long) (by decide)
  refine own_go (B := (T5.setTop (mkF m 43 #[.val (.int p0), .val (.long q1), .second, .val (.int p2), .val (.long q3), .second, .val (.int p4), .val (.int bq), .val (.long bo), .second, .val (.ref b3), .unset, .unset, .unset, .unset, .unset] [(.ref b5)]))) (fun t k => st5 _ k) ?_
  refine own_go (B := (T5.setTop (mkF m 44 #[.val (.int p0), .val (.long q1), .second, .val (.int p2), .val (.long q3), .second, .val (.int p4), .val (.int bq), .val (.long bo), .second, .val (.ref b3), .unset, .unset, .unset, .unset, .unset] [(.ref b5), (.ref b5)]))) (fun t k => XS.dup X5.here hx rfl (hb hby at_43) rfl rfl k) ?_
  refine own_go (B := (T5.setTop (mkF m 46 #[.val (.int p0), .val (.long q1), .second, .val (.int p2), .val (.long q3), .second, .val (.int p4), .val (.int bq), .val (.long bo), .second, .val (.ref b3), .unset, .unset, .unset, .unset, .unset] [(.int bq), (.ref b5), (.ref b5)]))) (fun t k => XS.iload X5.here hx rfl (hb hby at_44) rfl k) ?_
  refine own_go (B := (T5.setTop (mkF m 48 #[.val (.int p0), .val (.long q1), .second, .val (.int p2), .val (.long q3), .second, .val (.int p4), .val (.int bq), .val (.long bo), .second, .val (.ref b3), .unset, .unset, .unset, .unset, .unset] [(.long bo), (.int bq), (.ref b5), (.ref b5)]))) (fun t k => XS.lload X5.here hx rfl (hb hby at_46) rfl k) ?_
  obtain ⟨_, _, ⟨T6, L6, k6, n6⟩, -, X6, ⟨Lc6, hQ6, l6, y6, z6⟩, st6⟩ := X5.specialBack hx (y := (⟨"com/example/usherd/usherd/Published", "<init>", "(IJ)V"⟩ : MethodName)) rfl hown (mvT hZ (hw _ (List.mem_of_getElem? (i := 3) rfl))) (mvT hZ (hw _ (List.mem_of_getElem? (i := 4) rfl))) (mvT hZ (hw _ (List.mem_of_getElem? (i := 5) rfl))) (by decide) (backOf (W := 1) (rm1 l Z ta hw [] b5 bq bo  h5 n0 Zs5 A5 F_queue_b5 F_offset_b5 g_b5) hZ (hw _ (List.mem_of_getElem? (i := 5) rfl)) (hw _ (List.mem_of_getElem? (i := 2) rfl)) (by decide) (by decide)) (g := (mkF m 48 #[.val (.int p0), .val (.long q1), .second, .val (.int p2), .val (.long q3), .second, .val (.int p4), .val (.int bq), .val (.long bo), .second, .val (.ref b3), .unset, .unset, .unset, .unset, .unset] [(.long bo), (.int bq), (.ref b5), (.ref b5)])) rfl (by rw [hml]; rfl) (Steps.refl _) (a := b5) (argsL := [(.int bq), (.long bo)]) (rest := [(.ref b5)]) (lenOf pd_0_0 rfl) rfl (by show 2 * 0 + _ ≤ _; exact Nat.le_of_eq rfl) (hb hby at_48) (fun _ _ => ⟨rfl, e5, (by decide : (((0 + 1) + 0) + 1) + 0 ≤ _), (by decide : (((0 + 2) + 0) + 2) + 0 ≤ _)⟩)
  dsimp only [Pt.U, Pt.locs, Pt.cells, Pt.slots] at X6 l6 y6 z6 st6 hQ6
  subst l6 y6 z6
  obtain ⟨rfl, N6q, K6, Fq6_0, Fq6_1⟩ := hQ6
  have E_b3_6 := E_b3_5.keep K6
  have F_b3_queue_6 := F_b3_queue_5.keep K6 (ninS ne_b3_b5 nin0)
  have F_b3_offset_6 := F_b3_offset_5.keep K6 (ninS ne_b3_b5 nin0)
  have E_b5_6 := A5.keep K6
  have Zs6 : n0 ≤ T6.heap.size := Nat.le_trans Zs5 K6.1
  have N6 := Fr.app N4 N6q
  refine own_go (B := (T6.setTop (mkF m 51 #[.val (.int p0), .val (.long q1), .second, .val (.int p2), .val (.long q3), .second, .val (.int p4), .val (.int bq), .val (.long bo), .second, .val (.ref b3), .unset, .unset, .unset, .unset, .unset] [(.ref b5)]))) (fun t k => st6.trans k) ?_
  refine own_go (B := (T6.setTop (mkF m 53 #[.val (.int p0), .val (.long q1), .second, .val (.int p2), .val (.long q3), .second, .val (.int p4), .val (.int bq), .val (.long bo), .second, .val (.ref b3), .val (.ref b5), .unset, .unset, .unset, .unset] []))) (fun t k => XS.astore X6.here hx rfl (hb hby at_51) rfl rfl (l' := #[.val (.int p0), .val (.long q1), .second, .val (.int p2), .val (.long q3), .second, .val (.int p4), .val (.int bq), .val (.long bo), .second, .val (.ref b3), .val (.ref b5), .unset, .unset, .unset, .unset]) rfl k) ?_
  refine own_go (B := (T6.setTop (mkF m 55 #[.val (.int p0), .val (.long q1), .second, .val (.int p2), .val (.long q3), .second, .val (.int p4), .val (.int bq), .val (.long bo), .second, .val (.ref b3), .val (.ref b5), .unset, .unset, .unset, .unset] [(.ref b3)]))) (fun t k => XS.aload X6.here hx rfl (hb hby at_53) rfl rfl k) ?_
  obtain ⟨cq7, kq7, q7a, q7b, q7c⟩ := isOf hZ rfl E_b3_6
  obtain ⟨_, _, ⟨T7, L7, k7, n7⟩, -, X7, ⟨Lc7, hQ7, l7, y7, z7⟩, st7⟩ := X6.virtualBack hx (y := (⟨"com/example/usherd/usherd/Published", "hashCode", "()I"⟩ : MethodName)) (z := (⟨"com/example/usherd/usherd/Published", "hashCode", "()I"⟩ : MethodName)) hown (mvT hZ (hw _ (List.mem_of_getElem? (i := 13) rfl))) (mvT hZ (hw _ (List.mem_of_getElem? (i := 14) rfl))) (notFace_of_selects (args := #[]) (mvT hZ (hw _ (List.mem_of_getElem? (i := 16) rfl)))) (mvT hZ (hw _ (List.mem_of_getElem? (i := 16) rfl))) (mvT hZ (hw _ (List.mem_of_getElem? (i := 15) rfl))) (by decide) (backOf (W := 0) (rm3 l Z ta hw [] b3 p0 q1 T6.heap n0 F_b3_queue_6 F_b3_offset_6) hZ (hw _ (List.mem_of_getElem? (i := 17) rfl)) (hw _ (List.mem_of_getElem? (i := 2) rfl)) (by decide) (by decide)) q7a q7c (g := (mkF m 55 #[.val (.int p0), .val (.long q1), .second, .val (.int p2), .val (.long q3), .second, .val (.int p4), .val (.int bq), .val (.long bo), .second, .val (.ref b3), .val (.ref b5), .unset, .unset, .unset, .unset] [(.ref b3)])) rfl (by rw [hml]; rfl) (Steps.refl _) (argsL := []) (rest := []) (lenOf pd_0_1 rfl) rfl (by show 2 * 0 + _ ≤ _; exact Nat.le_of_eq rfl) (hb hby at_55) (fun _ _ => ⟨rfl, rfl, (by decide : ((((0 + 1) + 0) + 1) + 0) + 0 ≤ _), (by decide : ((((0 + 2) + 0) + 2) + 0) + 0 ≤ _)⟩)
  dsimp only [Pt.U, Pt.locs, Pt.cells, Pt.slots] at X7 l7 y7 z7 st7 hQ7
  subst l7 y7 z7
  obtain ⟨rfl, N7q, e7⟩ := hQ7
  replace e7 := e7
  have N7 := Fr.app N6 N7q
  refine own_go (B := (T7.setTop (mkF m 58 #[.val (.int p0), .val (.long q1), .second, .val (.int p2), .val (.long q3), .second, .val (.int p4), .val (.int bq), .val (.long bo), .second, .val (.ref b3), .val (.ref b5), .unset, .unset, .unset, .unset] [(.int (F3 b3 p0 q1))]))) (fun t k => st7.trans k) ?_
  refine own_go (B := (T7.setTop (mkF m 60 #[.val (.int p0), .val (.long q1), .second, .val (.int p2), .val (.long q3), .second, .val (.int p4), .val (.int bq), .val (.long bo), .second, .val (.ref b3), .val (.ref b5), .val (.int (F3 b3 p0 q1)), .unset, .unset, .unset] []))) (fun t k => XS.istore X7.here hx rfl (hb hby at_58) rfl (l' := #[.val (.int p0), .val (.long q1), .second, .val (.int p2), .val (.long q3), .second, .val (.int p4), .val (.int bq), .val (.long bo), .second, .val (.ref b3), .val (.ref b5), .val (.int (F3 b3 p0 q1)), .unset, .unset, .unset]) rfl k) ?_
  refine own_go (B := (T7.setTop (mkF m 62 #[.val (.int p0), .val (.long q1), .second, .val (.int p2), .val (.long q3), .second, .val (.int p4), .val (.int bq), .val (.long bo), .second, .val (.ref b3), .val (.ref b5), .val (.int (F3 b3 p0 q1)), .unset, .unset, .unset] [(.ref b3)]))) (fun t k => XS.aload X7.here hx rfl (hb hby at_60) rfl rfl k) ?_
  obtain ⟨cq8, kq8, q8a, q8b, q8c⟩ := isOf hZ e7 E_b3_6
  obtain ⟨_, _, ⟨T8, L8, k8, n8⟩, -, X8, ⟨Lc8, hQ8, l8, y8, z8⟩, st8⟩ := X7.virtualBack hx (y := (⟨"com/example/usherd/usherd/Published", "hashCode", "()I"⟩ : MethodName)) (z := (⟨"com/example/usherd/usherd/Published", "hashCode", "()I"⟩ : MethodName)) hown (mvT hZ (hw _ (List.mem_of_getElem? (i := 13) rfl))) (mvT hZ (hw _ (List.mem_of_getElem? (i := 14) rfl))) (notFace_of_selects (args := #[]) (mvT hZ (hw _ (List.mem_of_getElem? (i := 16) rfl)))) (mvT hZ (hw _ (List.mem_of_getElem? (i := 16) rfl))) (mvT hZ (hw _ (List.mem_of_getElem? (i := 15) rfl))) (by decide) (backOf (W := 0) (rm3 l Z ta hw [] b3 p0 q1 T6.heap n0 F_b3_queue_6 F_b3_offset_6) hZ (hw _ (List.mem_of_getElem? (i := 17) rfl)) (hw _ (List.mem_of_getElem? (i := 2) rfl)) (by decide) (by decide)) q8a q8c (g := (mkF m 62 #[.val (.int p0), .val (.long q1), .second, .val (.int p2), .val (.long q3), .second, .val (.int p4), .val (.int bq), .val (.long bo), .second, .val (.ref b3), .val (.ref b5), .val (.int (F3 b3 p0 q1)), .unset, .unset, .unset] [(.ref b3)])) rfl (by rw [hml]; rfl) (Steps.refl _) (argsL := []) (rest := []) (lenOf pd_0_1 rfl) rfl (by show 2 * 0 + _ ≤ _; exact Nat.le_of_eq rfl) (hb hby at_62) (fun _ _ => ⟨rfl, e7, (by decide : (((((0 + 1) + 0) + 1) + 0) + 0) + 0 ≤ _), (by decide : (((((0 + 2) + 0) + 2) + 0) + 0) + 0 ≤ _)⟩)
  dsimp only [Pt.U, Pt.locs, Pt.cells, Pt.slots] at X8 l8 y8 z8 st8 hQ8
  subst l8 y8 z8
  obtain ⟨rfl, N8q, e8⟩ := hQ8
  replace e8 := e8
  have N8 := Fr.app N7 N8q
  refine own_go (B := (T8.setTop (mkF m 65 #[.val (.int p0), .val (.long q1), .second, .val (.int p2), .val (.long q3), .second, .val (.int p4), .val (.int bq), .val (.long bo), .second, .val (.ref b3), .val (.ref b5), .val (.int (F3 b3 p0 q1)), .unset, .unset, .unset] [(.int (F3 b3 p0 q1))]))) (fun t k => st8.trans k) ?_
  refine own_go (B := (T8.setTop (mkF m 67 #[.val (.int p0), .val (.long q1), .second, .val (.int p2), .val (.long q3), .second, .val (.int p4), .val (.int bq), .val (.long bo), .second, .val (.ref b3), .val (.ref b5), .val (.int (F3 b3 p0 q1)), .val (.int (F3 b3 p0 q1)), .unset, .unset] []))) (fun t k => XS.istore X8.here hx rfl (hb hby at_65) rfl (l' := #[.val (.int p0), .val (.long q1), .second, .val (.int p2), .val (.long q3), .second, .val (.int p4), .val (.int bq), .val (.long bo), .second, .val (.ref b3), .val (.ref b5), .val (.int (F3 b3 p0 q1)), .val (.int (F3 b3 p0 q1)), .unset, .unset]) rfl k) ?_
  refine own_go (B := (T8.setTop (mkF m 69 #[.val (.int p0), .val (.long q1), .second, .val (.int p2), .val (.long q3), .second, .val (.int p4), .val (.int bq), .val (.long bo), .second, .val (.ref b3), .val (.ref b5), .val (.int (F3 b3 p0 q1)), .val (.int (F3 b3 p0 q1)), .unset, .unset] [(.ref b5)]))) (fun t k => XS.aload X8.here hx rfl (hb hby at_67) rfl rfl k) ?_
  obtain ⟨cq9, kq9, q9a, q9b, q9c⟩ := isOf hZ e8 E_b5_6
  obtain ⟨_, _, ⟨T9, L9, k9, n9⟩, -, X9, ⟨Lc9, hQ9, l9, y9, z9⟩, st9⟩ := X8.virtualBack hx (y := (⟨"com/example/usherd/usherd/Published", "hashCode", "()I"⟩ : MethodName)) (z := (⟨"com/example/usherd/usherd/Published", "hashCode", "()I"⟩ : MethodName)) hown (mvT hZ (hw _ (List.mem_of_getElem? (i := 13) rfl))) (mvT hZ (hw _ (List.mem_of_getElem? (i := 14) rfl))) (notFace_of_selects (args := #[]) (mvT hZ (hw _ (List.mem_of_getElem? (i := 16) rfl)))) (mvT hZ (hw _ (List.mem_of_getElem? (i := 16) rfl))) (mvT hZ (hw _ (List.mem_of_getElem? (i := 15) rfl))) (by decide) (backOf (W := 0) (rm3 l Z ta hw [] b5 bq bo T6.heap n0 Fq6_0 Fq6_1) hZ (hw _ (List.mem_of_getElem? (i := 17) rfl)) (hw _ (List.mem_of_getElem? (i := 2) rfl)) (by decide) (by decide)) q9a q9c (g := (mkF m 69 #[.val (.int p0), .val (.long q1), .second, .val (.int p2), .val (.long q3), .second, .val (.int p4), .val (.int bq), .val (.long bo), .second, .val (.ref b3), .val (.ref b5), .val (.int (F3 b3 p0 q1)), .val (.int (F3 b3 p0 q1)), .unset, .unset] [(.ref b5)])) rfl (by rw [hml]; rfl) (Steps.refl _) (argsL := []) (rest := []) (lenOf pd_0_1 rfl) rfl (by show 2 * 0 + _ ≤ _; exact Nat.le_of_eq rfl) (hb hby at_69) (fun _ _ => ⟨rfl, e8, (by decide : ((((((0 + 1) + 0) + 1) + 0) + 0) + 0) + 0 ≤ _), (by decide : ((((((0 + 2) + 0) + 2) + 0) + 0) + 0) + 0 ≤ _)⟩)
  dsimp only [Pt.U, Pt.locs, Pt.cells, Pt.slots] at X9 l9 y9 z9 st9 hQ9
  subst l9 y9 z9
  obtain ⟨rfl, N9q, e9⟩ := hQ9
  replace e9 := e9
  have N9 := Fr.app N8 N9q
  refine own_go (B := (T9.setTop (mkF m 72 #[.val (.int p0), .val (.long q1), .second, .val (.int p2), .val (.long q3), .second, .val (.int p4), .val (.int bq), .val (.long bo), .second, .val (.ref b3), .val (.ref b5), .val (.int (F3 b3 p0 q1)), .val (.int (F3 b3 p0 q1)), .unset, .unset] [(.int (F3 b5 bq bo))]))) (fun t k => st9.trans k) ?_
  refine own_go (B := (T9.setTop (mkF m 74 #[.val (.int p0), .val (.long q1), .second, .val (.int p2), .val (.long q3), .second, .val (.int p4), .val (.int bq), .val (.long bo), .second, .val (.ref b3), .val (.ref b5), .val (.int (F3 b3 p0 q1)), .val (.int (F3 b3 p0 q1)), .val (.int (F3 b5 bq bo)), .unset] []))) (fun t k => XS.istore X9.here hx rfl (hb hby at_72) rfl (l' := #[.val (.int p0), .val (.long q1), .second, .val (.int p2), .val (.long q3), .second, .val (.int p4), .val (.int bq), .val (.long bo), .second, .val (.ref b3), .val (.ref b5), .val (.int (F3 b3 p0 q1)), .val (.int (F3 b3 p0 q1)), .val (.int (F3 b5 bq bo)), .unset]) rfl k) ?_
  refine own_go (B := (T9.setTop (mkF m 75 #[.val (.int p0), .val (.long q1), .second, .val (.int p2), .val (.long q3), .second, .val (.int p4), .val (.int bq), .val (.long bo), .second, .val (.ref b3), .val (.ref b5), .val (.int (F3 b3 p0 q1)), .val (.int (F3 b3 p0 q1)), .val (.int (F3 b5 bq bo)), .unset] [(.int p0)]))) (fun t k => XS.iloadN X9.here hx rfl (hb hby at_74) rfl k) ?_
  refine own_go (B := (T9.setTop (mkF m 77 #[.val (.int p0), .val (.long q1), .second, .val (.int p2), .val (.long q3), .second, .val (.int p4), .val (.int bq), .val (.long bo), .second, .val (.ref b3), .val (.ref b5), .val (.int (F3 b3 p0 q1)), .val (.int (F3 b3 p0 q1)), .val (.int (F3 b5 bq bo)), .unset] [(.int bq), (.int p0)]))) (fun t k => XS.iload X9.here hx rfl (hb hby at_75) rfl k) ?_
  by_cases hc77 : p0 = bq
  · refine own_go (B := (T9.setTop (mkF m 80 #[.val (.int p0), .val (.long q1), .second, .val (.int p2), .val (.long q3), .second, .val (.int p4), .val (.int bq), .val (.long bo), .second, .val (.ref b3), .val (.ref b5), .val (.int (F3 b3 p0 q1)), .val (.int (F3 b3 p0 q1)), .val (.int (F3 b5 bq bo)), .unset] []))) (fun t k => XS.icmpNo X9.here hx rfl (hb hby at_77) rfl (teq hc77).2 k) ?_
    refine own_go (B := (T9.setTop (mkF m 81 #[.val (.int p0), .val (.long q1), .second, .val (.int p2), .val (.long q3), .second, .val (.int p4), .val (.int bq), .val (.long bo), .second, .val (.ref b3), .val (.ref b5), .val (.int (F3 b3 p0 q1)), .val (.int (F3 b3 p0 q1)), .val (.int (F3 b5 bq bo)), .unset] [(.long q1)]))) (fun t k => XS.lloadN X9.here hx rfl (hb hby at_80) rfl k) ?_
    refine own_go (B := (T9.setTop (mkF m 83 #[.val (.int p0), .val (.long q1), .second, .val (.int p2), .val (.long q3), .second, .val (.int p4), .val (.int bq), .val (.long bo), .second, .val (.ref b3), .val (.ref b5), .val (.int (F3 b3 p0 q1)), .val (.int (F3 b3 p0 q1)), .val (.int (F3 b5 bq bo)), .unset] [(.long bo), (.long q1)]))) (fun t k => XS.lload X9.here hx rfl (hb hby at_81) rfl k) ?_
    refine own_go (B := (T9.setTop (mkF m 84 #[.val (.int p0), .val (.long q1), .second, .val (.int p2), .val (.long q3), .second, .val (.int p4), .val (.int bq), .val (.long bo), .second, .val (.ref b3), .val (.ref b5), .val (.int (F3 b3 p0 q1)), .val (.int (F3 b3 p0 q1)), .val (.int (F3 b5 bq bo)), .unset] [(.int (lcmpW q1 bo))]))) (fun t k => XS.lcmp X9.here hx rfl (hb hby at_83) rfl k) ?_
    by_cases hc84 : q1 = bo
    · refine own_go (B := (T9.setTop (mkF m 87 #[.val (.int p0), .val (.long q1), .second, .val (.int p2), .val (.long q3), .second, .val (.int p4), .val (.int bq), .val (.long bo), .second, .val (.ref b3), .val (.ref b5), .val (.int (F3 b3 p0 q1)), .val (.int (F3 b3 p0 q1)), .val (.int (F3 b5 bq bo)), .unset] []))) (fun t k => XS.ifNo X9.here hx rfl (hb hby at_84) rfl ((if0 _ _).trans (teq ((lw_eq _ _).mpr hc84)).2) k) ?_
      refine own_go (B := (T9.setTop (mkF m 88 #[.val (.int p0), .val (.long q1), .second, .val (.int p2), .val (.long q3), .second, .val (.int p4), .val (.int bq), .val (.long bo), .second, .val (.ref b3), .val (.ref b5), .val (.int (F3 b3 p0 q1)), .val (.int (F3 b3 p0 q1)), .val (.int (F3 b5 bq bo)), .unset] [(.int (1 : Int32))]))) (fun t k => XS.iconst X9.here hx rfl (hb hby at_87) k) ?_
      refine own_go (B := (T9.setTop (mkF m 92 #[.val (.int p0), .val (.long q1), .second, .val (.int p2), .val (.long q3), .second, .val (.int p4), .val (.int bq), .val (.long bo), .second, .val (.ref b3), .val (.ref b5), .val (.int (F3 b3 p0 q1)), .val (.int (F3 b3 p0 q1)), .val (.int (F3 b5 bq bo)), .unset] [(.int (1 : Int32))]))) (fun t k => XS.goto X9.here hx rfl (pc0 := 88) (pc' := 92) rfl (hb hby at_88) (by decide) (by decide) k) ?_
      refine own_go (B := (T9.setTop (mkF m 94 #[.val (.int p0), .val (.long q1), .second, .val (.int p2), .val (.long q3), .second, .val (.int p4), .val (.int bq), .val (.long bo), .second, .val (.ref b3), .val (.ref b5), .val (.int (F3 b3 p0 q1)), .val (.int (F3 b3 p0 q1)), .val (.int (F3 b5 bq bo)), .val (.int (1 : Int32))] []))) (fun t k => XS.istore X9.here hx rfl (hb hby at_92) rfl (l' := #[.val (.int p0), .val (.long q1), .second, .val (.int p2), .val (.long q3), .second, .val (.int p4), .val (.int bq), .val (.long bo), .second, .val (.ref b3), .val (.ref b5), .val (.int (F3 b3 p0 q1)), .val (.int (F3 b3 p0 q1)), .val (.int (F3 b5 bq bo)), .val (.int (1 : Int32))]) rfl k) ?_
      refine own_go (B := (T9.setTop (mkF m 96 #[.val (.int p0), .val (.long q1), .second, .val (.int p2), .val (.long q3), .second, .val (.int p4), .val (.int bq), .val (.long bo), .second, .val (.ref b3), .val (.ref b5), .val (.int (F3 b3 p0 q1)), .val (.int (F3 b3 p0 q1)), .val (.int (F3 b5 bq bo)), .val (.int (1 : Int32))] [(.int (F3 b3 p0 q1))]))) (fun t k => XS.iload X9.here hx rfl (hb hby at_94) rfl k) ?_
      refine own_go (B := (T9.setTop (mkF m 98 #[.val (.int p0), .val (.long q1), .second, .val (.int p2), .val (.long q3), .second, .val (.int p4), .val (.int bq), .val (.long bo), .second, .val (.ref b3), .val (.ref b5), .val (.int (F3 b3 p0 q1)), .val (.int (F3 b3 p0 q1)), .val (.int (F3 b5 bq bo)), .val (.int (1 : Int32))] [(.int (F3 b3 p0 q1)), (.int (F3 b3 p0 q1))]))) (fun t k => XS.iload X9.here hx rfl (hb hby at_96) rfl k) ?_
      refine own_go (B := (T9.setTop (mkF m 103 #[.val (.int p0), .val (.long q1), .second, .val (.int p2), .val (.long q3), .second, .val (.int p4), .val (.int bq), .val (.long bo), .second, .val (.ref b3), .val (.ref b5), .val (.int (F3 b3 p0 q1)), .val (.int (F3 b3 p0 q1)), .val (.int (F3 b5 bq bo)), .val (.int (1 : Int32))] []))) (fun t k => XS.icmpYes X9.here hx rfl (pc0 := 98) (pc' := 103) rfl (hb hby at_98) rfl (teq rfl).1 (by decide) (by decide) k) ?_
      refine own_go (B := (T9.setTop (mkF m 105 #[.val (.int p0), .val (.long q1), .second, .val (.int p2), .val (.long q3), .second, .val (.int p4), .val (.int bq), .val (.long bo), .second, .val (.ref b3), .val (.ref b5), .val (.int (F3 b3 p0 q1)), .val (.int (F3 b3 p0 q1)), .val (.int (F3 b5 bq bo)), .val (.int (1 : Int32))] [(.int (1 : Int32))]))) (fun t k => XS.iload X9.here hx rfl (hb hby at_103) rfl k) ?_
      refine own_go (B := (T9.setTop (mkF m 108 #[.val (.int p0), .val (.long q1), .second, .val (.int p2), .val (.long q3), .second, .val (.int p4), .val (.int bq), .val (.long bo), .second, .val (.ref b3), .val (.ref b5), .val (.int (F3 b3 p0 q1)), .val (.int (F3 b3 p0 q1)), .val (.int (F3 b5 bq bo)), .val (.int (1 : Int32))] []))) (fun t k => XS.ifNo X9.here hx rfl (hb hby at_105) rfl ((if0 _ _).trans (feq (by decide)).1) k) ?_
      refine own_go (B := (T9.setTop (mkF m 110 #[.val (.int p0), .val (.long q1), .second, .val (.int p2), .val (.long q3), .second, .val (.int p4), .val (.int bq), .val (.long bo), .second, .val (.ref b3), .val (.ref b5), .val (.int (F3 b3 p0 q1)), .val (.int (F3 b3 p0 q1)), .val (.int (F3 b5 bq bo)), .val (.int (1 : Int32))] [(.int (F3 b3 p0 q1))]))) (fun t k => XS.iload X9.here hx rfl (hb hby at_108) rfl k) ?_
      refine own_go (B := (T9.setTop (mkF m 112 #[.val (.int p0), .val (.long q1), .second, .val (.int p2), .val (.long q3), .second, .val (.int p4), .val (.int bq), .val (.long bo), .second, .val (.ref b3), .val (.ref b5), .val (.int (F3 b3 p0 q1)), .val (.int (F3 b3 p0 q1)), .val (.int (F3 b5 bq bo)), .val (.int (1 : Int32))] [(.int (F3 b5 bq bo)), (.int (F3 b3 p0 q1))]))) (fun t k => XS.iload X9.here hx rfl (hb hby at_110) rfl k) ?_
      refine own_go (B := (T9.setTop (mkF m 117 #[.val (.int p0), .val (.long q1), .second, .val (.int p2), .val (.long q3), .second, .val (.int p4), .val (.int bq), .val (.long bo), .second, .val (.ref b3), .val (.ref b5), .val (.int (F3 b3 p0 q1)), .val (.int (F3 b3 p0 q1)), .val (.int (F3 b5 bq bo)), .val (.int (1 : Int32))] []))) (fun t k => XS.icmpYes X9.here hx rfl (pc0 := 112) (pc' := 117) rfl (hb hby at_112) rfl (teq (own_hash hc77 hc84)).1 (by decide) (by decide) k) ?_
      refine own_go (B := (T9.setTop (mkF m 119 #[.val (.int p0), .val (.long q1), .second, .val (.int p2), .val (.long q3), .second, .val (.int p4), .val (.int bq), .val (.long bo), .second, .val (.ref b3), .val (.ref b5), .val (.int (F3 b3 p0 q1)), .val (.int (F3 b3 p0 q1)), .val (.int (F3 b5 bq bo)), .val (.int (1 : Int32))] [(.ref b3)]))) (fun t k => XS.aload X9.here hx rfl (hb hby at_117) rfl rfl k) ?_
      refine own_go (B := (T9.setTop (mkF m 121 #[.val (.int p0), .val (.long q1), .second, .val (.int p2), .val (.long q3), .second, .val (.int p4), .val (.int bq), .val (.long bo), .second, .val (.ref b3), .val (.ref b5), .val (.int (F3 b3 p0 q1)), .val (.int (F3 b3 p0 q1)), .val (.int (F3 b5 bq bo)), .val (.int (1 : Int32))] [(.ref b5), (.ref b3)]))) (fun t k => XS.aload X9.here hx rfl (hb hby at_119) rfl rfl k) ?_
      obtain ⟨cq10, kq10, q10a, q10b, q10c⟩ := isOf hZ e9 E_b3_6
      obtain ⟨_, _, ⟨T10, L10, k10, n10⟩, -, X10, ⟨Lc10, hQ10, l10, y10, z10⟩, st10⟩ := X9.virtualBack hx (y := (⟨"com/example/usherd/usherd/Published", "equals", "(Ljava/lang/Object;)Z"⟩ : MethodName)) (z := (⟨"com/example/usherd/usherd/Published", "equals", "(Ljava/lang/Object;)Z"⟩ : MethodName)) hown (mvT hZ (hw _ (List.mem_of_getElem? (i := 22) rfl))) (mvT hZ (hw _ (List.mem_of_getElem? (i := 23) rfl))) (notFace_of_selects (args := #[]) (mvT hZ (hw _ (List.mem_of_getElem? (i := 25) rfl)))) (mvT hZ (hw _ (List.mem_of_getElem? (i := 25) rfl))) (mvT hZ (hw _ (List.mem_of_getElem? (i := 24) rfl))) (by decide) (backOf (W := 0) (rm5 l Z ta hw [] b3 b5 p0 q1 bq bo T6.heap n0 F_b3_queue_6 F_b3_offset_6 Fq6_0 Fq6_1 E_b5_6) hZ (hw _ (List.mem_of_getElem? (i := 26) rfl)) (hw _ (List.mem_of_getElem? (i := 2) rfl)) (by decide) (by decide)) q10a q10c (g := (mkF m 121 #[.val (.int p0), .val (.long q1), .second, .val (.int p2), .val (.long q3), .second, .val (.int p4), .val (.int bq), .val (.long bo), .second, .val (.ref b3), .val (.ref b5), .val (.int (F3 b3 p0 q1)), .val (.int (F3 b3 p0 q1)), .val (.int (F3 b5 bq bo)), .val (.int (1 : Int32))] [(.ref b5), (.ref b3)])) rfl (by rw [hml]; rfl) (Steps.refl _) (argsL := [(.ref b5)]) (rest := []) (lenOf pd_0_2 rfl) rfl (by show 2 * 0 + _ ≤ _; exact Nat.le_of_eq rfl) (hb hby at_121) (fun _ _ => ⟨rfl, e9, (by decide : (((((((0 + 1) + 0) + 1) + 0) + 0) + 0) + 0) + 0 ≤ _), (by decide : (((((((0 + 2) + 0) + 2) + 0) + 0) + 0) + 0) + 0 ≤ _)⟩)
      dsimp only [Pt.U, Pt.locs, Pt.cells, Pt.slots] at X10 l10 y10 z10 st10 hQ10
      subst l10 y10 z10
      obtain ⟨rfl, N10q, e10⟩ := hQ10
      replace e10 := e10
      have N10 := Fr.app N9 N10q
      refine own_go (B := (T10.setTop (mkF m 124 #[.val (.int p0), .val (.long q1), .second, .val (.int p2), .val (.long q3), .second, .val (.int p4), .val (.int bq), .val (.long bo), .second, .val (.ref b3), .val (.ref b5), .val (.int (F3 b3 p0 q1)), .val (.int (F3 b3 p0 q1)), .val (.int (F3 b5 bq bo)), .val (.int (1 : Int32))] [(.int (F5 b3 b5 p0 q1 bq bo))]))) (fun t k => st10.trans k) ?_
      by_cases hc124 : (F5 b3 b5 p0 q1 bq bo) = (0 : Int32)
      · refine own_go (B := (T10.setTop (mkF m 136 #[.val (.int p0), .val (.long q1), .second, .val (.int p2), .val (.long q3), .second, .val (.int p4), .val (.int bq), .val (.long bo), .second, .val (.ref b3), .val (.ref b5), .val (.int (F3 b3 p0 q1)), .val (.int (F3 b3 p0 q1)), .val (.int (F3 b5 bq bo)), .val (.int (1 : Int32))] []))) (fun t k => XS.ifYes X10.here hx rfl (pc0 := 124) (pc' := 136) rfl (hb hby at_124) rfl ((if0 _ _).trans (teq hc124).1) (by decide) (by decide) k) ?_
        refine own_go (B := (T10.setTop (mkF m 137 #[.val (.int p0), .val (.long q1), .second, .val (.int p2), .val (.long q3), .second, .val (.int p4), .val (.int bq), .val (.long bo), .second, .val (.ref b3), .val (.ref b5), .val (.int (F3 b3 p0 q1)), .val (.int (F3 b3 p0 q1)), .val (.int (F3 b5 bq bo)), .val (.int (1 : Int32))] [(.int (1 : Int32))]))) (fun t k => XS.iconst X10.here hx rfl (hb hby at_136) k) ?_
        obtain ⟨fs, hr, hrun, hended, hW, hsame⟩ := X10.leave (v := some (.int (1 : Int32))) (fun h => by rw [Bd.returns] at h; cases h)
        exact ⟨_, _, retN X10 hx (t := .boolean) Bd.returns (by simp) (hb hby at_137) hr, hrun, hended, _, _, rfl, ⟨rfl, N10⟩, ⟨_, rfl⟩, hW, hsame.mono (by decide) (by decide)⟩
      · refine own_go (B := (T10.setTop (mkF m 127 #[.val (.int p0), .val (.long q1), .second, .val (.int p2), .val (.long q3), .second, .val (.int p4), .val (.int bq), .val (.long bo), .second, .val (.ref b3), .val (.ref b5), .val (.int (F3 b3 p0 q1)), .val (.int (F3 b3 p0 q1)), .val (.int (F3 b5 bq bo)), .val (.int (1 : Int32))] []))) (fun t k => XS.ifNo X10.here hx rfl (hb hby at_124) rfl ((if0 _ _).trans (feq hc124).1) k) ?_
        refine own_go (B := (T10.setTop (mkF m 129 #[.val (.int p0), .val (.long q1), .second, .val (.int p2), .val (.long q3), .second, .val (.int p4), .val (.int bq), .val (.long bo), .second, .val (.ref b3), .val (.ref b5), .val (.int (F3 b3 p0 q1)), .val (.int (F3 b3 p0 q1)), .val (.int (F3 b5 bq bo)), .val (.int (1 : Int32))] [(.int (F3 b3 p0 q1))]))) (fun t k => XS.iload X10.here hx rfl (hb hby at_127) rfl k) ?_
        refine own_go (B := (T10.setTop (mkF m 131 #[.val (.int p0), .val (.long q1), .second, .val (.int p2), .val (.long q3), .second, .val (.int p4), .val (.int bq), .val (.long bo), .second, .val (.ref b3), .val (.ref b5), .val (.int (F3 b3 p0 q1)), .val (.int (F3 b3 p0 q1)), .val (.int (F3 b5 bq bo)), .val (.int (1 : Int32))] [(.int (F3 b5 bq bo)), (.int (F3 b3 p0 q1))]))) (fun t k => XS.iload X10.here hx rfl (hb hby at_129) rfl k) ?_
        refine own_go (B := (T10.setTop (mkF m 136 #[.val (.int p0), .val (.long q1), .second, .val (.int p2), .val (.long q3), .second, .val (.int p4), .val (.int bq), .val (.long bo), .second, .val (.ref b3), .val (.ref b5), .val (.int (F3 b3 p0 q1)), .val (.int (F3 b3 p0 q1)), .val (.int (F3 b5 bq bo)), .val (.int (1 : Int32))] []))) (fun t k => XS.icmpYes X10.here hx rfl (pc0 := 131) (pc' := 136) rfl (hb hby at_131) rfl (teq (own_hash (own_equ hc124).1 (own_equ hc124).2)).1 (by decide) (by decide) k) ?_
        refine own_go (B := (T10.setTop (mkF m 137 #[.val (.int p0), .val (.long q1), .second, .val (.int p2), .val (.long q3), .second, .val (.int p4), .val (.int bq), .val (.long bo), .second, .val (.ref b3), .val (.ref b5), .val (.int (F3 b3 p0 q1)), .val (.int (F3 b3 p0 q1)), .val (.int (F3 b5 bq bo)), .val (.int (1 : Int32))] [(.int (1 : Int32))]))) (fun t k => XS.iconst X10.here hx rfl (hb hby at_136) k) ?_
        obtain ⟨fs, hr, hrun, hended, hW, hsame⟩ := X10.leave (v := some (.int (1 : Int32))) (fun h => by rw [Bd.returns] at h; cases h)
        exact ⟨_, _, retN X10 hx (t := .boolean) Bd.returns (by simp) (hb hby at_137) hr, hrun, hended, _, _, rfl, ⟨rfl, N10⟩, ⟨_, rfl⟩, hW, hsame.mono (by decide) (by decide)⟩
    · refine own_go (B := (T9.setTop (mkF m 91 #[.val (.int p0), .val (.long q1), .second, .val (.int p2), .val (.long q3), .second, .val (.int p4), .val (.int bq), .val (.long bo), .second, .val (.ref b3), .val (.ref b5), .val (.int (F3 b3 p0 q1)), .val (.int (F3 b3 p0 q1)), .val (.int (F3 b5 bq bo)), .unset] []))) (fun t k => XS.ifYes X9.here hx rfl (pc0 := 84) (pc' := 91) rfl (hb hby at_84) rfl ((if0 _ _).trans (feq (fun z => hc84 ((lw_eq _ _).mp z))).2) (by decide) (by decide) k) ?_
      refine own_go (B := (T9.setTop (mkF m 92 #[.val (.int p0), .val (.long q1), .second, .val (.int p2), .val (.long q3), .second, .val (.int p4), .val (.int bq), .val (.long bo), .second, .val (.ref b3), .val (.ref b5), .val (.int (F3 b3 p0 q1)), .val (.int (F3 b3 p0 q1)), .val (.int (F3 b5 bq bo)), .unset] [(.int (0 : Int32))]))) (fun t k => XS.iconst X9.here hx rfl (hb hby at_91) k) ?_
      refine own_go (B := (T9.setTop (mkF m 94 #[.val (.int p0), .val (.long q1), .second, .val (.int p2), .val (.long q3), .second, .val (.int p4), .val (.int bq), .val (.long bo), .second, .val (.ref b3), .val (.ref b5), .val (.int (F3 b3 p0 q1)), .val (.int (F3 b3 p0 q1)), .val (.int (F3 b5 bq bo)), .val (.int (0 : Int32))] []))) (fun t k => XS.istore X9.here hx rfl (hb hby at_92) rfl (l' := #[.val (.int p0), .val (.long q1), .second, .val (.int p2), .val (.long q3), .second, .val (.int p4), .val (.int bq), .val (.long bo), .second, .val (.ref b3), .val (.ref b5), .val (.int (F3 b3 p0 q1)), .val (.int (F3 b3 p0 q1)), .val (.int (F3 b5 bq bo)), .val (.int (0 : Int32))]) rfl k) ?_
      refine own_go (B := (T9.setTop (mkF m 96 #[.val (.int p0), .val (.long q1), .second, .val (.int p2), .val (.long q3), .second, .val (.int p4), .val (.int bq), .val (.long bo), .second, .val (.ref b3), .val (.ref b5), .val (.int (F3 b3 p0 q1)), .val (.int (F3 b3 p0 q1)), .val (.int (F3 b5 bq bo)), .val (.int (0 : Int32))] [(.int (F3 b3 p0 q1))]))) (fun t k => XS.iload X9.here hx rfl (hb hby at_94) rfl k) ?_
      refine own_go (B := (T9.setTop (mkF m 98 #[.val (.int p0), .val (.long q1), .second, .val (.int p2), .val (.long q3), .second, .val (.int p4), .val (.int bq), .val (.long bo), .second, .val (.ref b3), .val (.ref b5), .val (.int (F3 b3 p0 q1)), .val (.int (F3 b3 p0 q1)), .val (.int (F3 b5 bq bo)), .val (.int (0 : Int32))] [(.int (F3 b3 p0 q1)), (.int (F3 b3 p0 q1))]))) (fun t k => XS.iload X9.here hx rfl (hb hby at_96) rfl k) ?_
      refine own_go (B := (T9.setTop (mkF m 103 #[.val (.int p0), .val (.long q1), .second, .val (.int p2), .val (.long q3), .second, .val (.int p4), .val (.int bq), .val (.long bo), .second, .val (.ref b3), .val (.ref b5), .val (.int (F3 b3 p0 q1)), .val (.int (F3 b3 p0 q1)), .val (.int (F3 b5 bq bo)), .val (.int (0 : Int32))] []))) (fun t k => XS.icmpYes X9.here hx rfl (pc0 := 98) (pc' := 103) rfl (hb hby at_98) rfl (teq rfl).1 (by decide) (by decide) k) ?_
      refine own_go (B := (T9.setTop (mkF m 105 #[.val (.int p0), .val (.long q1), .second, .val (.int p2), .val (.long q3), .second, .val (.int p4), .val (.int bq), .val (.long bo), .second, .val (.ref b3), .val (.ref b5), .val (.int (F3 b3 p0 q1)), .val (.int (F3 b3 p0 q1)), .val (.int (F3 b5 bq bo)), .val (.int (0 : Int32))] [(.int (0 : Int32))]))) (fun t k => XS.iload X9.here hx rfl (hb hby at_103) rfl k) ?_
      refine own_go (B := (T9.setTop (mkF m 117 #[.val (.int p0), .val (.long q1), .second, .val (.int p2), .val (.long q3), .second, .val (.int p4), .val (.int bq), .val (.long bo), .second, .val (.ref b3), .val (.ref b5), .val (.int (F3 b3 p0 q1)), .val (.int (F3 b3 p0 q1)), .val (.int (F3 b5 bq bo)), .val (.int (0 : Int32))] []))) (fun t k => XS.ifYes X9.here hx rfl (pc0 := 105) (pc' := 117) rfl (hb hby at_105) rfl ((if0 _ _).trans (teq (by decide)).1) (by decide) (by decide) k) ?_
      refine own_go (B := (T9.setTop (mkF m 119 #[.val (.int p0), .val (.long q1), .second, .val (.int p2), .val (.long q3), .second, .val (.int p4), .val (.int bq), .val (.long bo), .second, .val (.ref b3), .val (.ref b5), .val (.int (F3 b3 p0 q1)), .val (.int (F3 b3 p0 q1)), .val (.int (F3 b5 bq bo)), .val (.int (0 : Int32))] [(.ref b3)]))) (fun t k => XS.aload X9.here hx rfl (hb hby at_117) rfl rfl k) ?_
      refine own_go (B := (T9.setTop (mkF m 121 #[.val (.int p0), .val (.long q1), .second, .val (.int p2), .val (.long q3), .second, .val (.int p4), .val (.int bq), .val (.long bo), .second, .val (.ref b3), .val (.ref b5), .val (.int (F3 b3 p0 q1)), .val (.int (F3 b3 p0 q1)), .val (.int (F3 b5 bq bo)), .val (.int (0 : Int32))] [(.ref b5), (.ref b3)]))) (fun t k => XS.aload X9.here hx rfl (hb hby at_119) rfl rfl k) ?_
      obtain ⟨cq11, kq11, q11a, q11b, q11c⟩ := isOf hZ e9 E_b3_6
      obtain ⟨_, _, ⟨T11, L11, k11, n11⟩, -, X11, ⟨Lc11, hQ11, l11, y11, z11⟩, st11⟩ := X9.virtualBack hx (y := (⟨"com/example/usherd/usherd/Published", "equals", "(Ljava/lang/Object;)Z"⟩ : MethodName)) (z := (⟨"com/example/usherd/usherd/Published", "equals", "(Ljava/lang/Object;)Z"⟩ : MethodName)) hown (mvT hZ (hw _ (List.mem_of_getElem? (i := 22) rfl))) (mvT hZ (hw _ (List.mem_of_getElem? (i := 23) rfl))) (notFace_of_selects (args := #[]) (mvT hZ (hw _ (List.mem_of_getElem? (i := 25) rfl)))) (mvT hZ (hw _ (List.mem_of_getElem? (i := 25) rfl))) (mvT hZ (hw _ (List.mem_of_getElem? (i := 24) rfl))) (by decide) (backOf (W := 0) (rm5 l Z ta hw [] b3 b5 p0 q1 bq bo T6.heap n0 F_b3_queue_6 F_b3_offset_6 Fq6_0 Fq6_1 E_b5_6) hZ (hw _ (List.mem_of_getElem? (i := 26) rfl)) (hw _ (List.mem_of_getElem? (i := 2) rfl)) (by decide) (by decide)) q11a q11c (g := (mkF m 121 #[.val (.int p0), .val (.long q1), .second, .val (.int p2), .val (.long q3), .second, .val (.int p4), .val (.int bq), .val (.long bo), .second, .val (.ref b3), .val (.ref b5), .val (.int (F3 b3 p0 q1)), .val (.int (F3 b3 p0 q1)), .val (.int (F3 b5 bq bo)), .val (.int (0 : Int32))] [(.ref b5), (.ref b3)])) rfl (by rw [hml]; rfl) (Steps.refl _) (argsL := [(.ref b5)]) (rest := []) (lenOf pd_0_2 rfl) rfl (by show 2 * 0 + _ ≤ _; exact Nat.le_of_eq rfl) (hb hby at_121) (fun _ _ => ⟨rfl, e9, (by decide : (((((((0 + 1) + 0) + 1) + 0) + 0) + 0) + 0) + 0 ≤ _), (by decide : (((((((0 + 2) + 0) + 2) + 0) + 0) + 0) + 0) + 0 ≤ _)⟩)
      dsimp only [Pt.U, Pt.locs, Pt.cells, Pt.slots] at X11 l11 y11 z11 st11 hQ11
      subst l11 y11 z11
      obtain ⟨rfl, N11q, e11⟩ := hQ11
      replace e11 := e11
      have N11 := Fr.app N9 N11q
      refine own_go (B := (T11.setTop (mkF m 124 #[.val (.int p0), .val (.long q1), .second, .val (.int p2), .val (.long q3), .second, .val (.int p4), .val (.int bq), .val (.long bo), .second, .val (.ref b3), .val (.ref b5), .val (.int (F3 b3 p0 q1)), .val (.int (F3 b3 p0 q1)), .val (.int (F3 b5 bq bo)), .val (.int (0 : Int32))] [(.int (F5 b3 b5 p0 q1 bq bo))]))) (fun t k => st11.trans k) ?_
      by_cases hc124 : (F5 b3 b5 p0 q1 bq bo) = (0 : Int32)
      · refine own_go (B := (T11.setTop (mkF m 136 #[.val (.int p0), .val (.long q1), .second, .val (.int p2), .val (.long q3), .second, .val (.int p4), .val (.int bq), .val (.long bo), .second, .val (.ref b3), .val (.ref b5), .val (.int (F3 b3 p0 q1)), .val (.int (F3 b3 p0 q1)), .val (.int (F3 b5 bq bo)), .val (.int (0 : Int32))] []))) (fun t k => XS.ifYes X11.here hx rfl (pc0 := 124) (pc' := 136) rfl (hb hby at_124) rfl ((if0 _ _).trans (teq hc124).1) (by decide) (by decide) k) ?_
        refine own_go (B := (T11.setTop (mkF m 137 #[.val (.int p0), .val (.long q1), .second, .val (.int p2), .val (.long q3), .second, .val (.int p4), .val (.int bq), .val (.long bo), .second, .val (.ref b3), .val (.ref b5), .val (.int (F3 b3 p0 q1)), .val (.int (F3 b3 p0 q1)), .val (.int (F3 b5 bq bo)), .val (.int (0 : Int32))] [(.int (1 : Int32))]))) (fun t k => XS.iconst X11.here hx rfl (hb hby at_136) k) ?_
        obtain ⟨fs, hr, hrun, hended, hW, hsame⟩ := X11.leave (v := some (.int (1 : Int32))) (fun h => by rw [Bd.returns] at h; cases h)
        exact ⟨_, _, retN X11 hx (t := .boolean) Bd.returns (by simp) (hb hby at_137) hr, hrun, hended, _, _, rfl, ⟨rfl, N11⟩, ⟨_, rfl⟩, hW, hsame.mono (by decide) (by decide)⟩
      · refine own_go (B := (T11.setTop (mkF m 127 #[.val (.int p0), .val (.long q1), .second, .val (.int p2), .val (.long q3), .second, .val (.int p4), .val (.int bq), .val (.long bo), .second, .val (.ref b3), .val (.ref b5), .val (.int (F3 b3 p0 q1)), .val (.int (F3 b3 p0 q1)), .val (.int (F3 b5 bq bo)), .val (.int (0 : Int32))] []))) (fun t k => XS.ifNo X11.here hx rfl (hb hby at_124) rfl ((if0 _ _).trans (feq hc124).1) k) ?_
        refine own_go (B := (T11.setTop (mkF m 129 #[.val (.int p0), .val (.long q1), .second, .val (.int p2), .val (.long q3), .second, .val (.int p4), .val (.int bq), .val (.long bo), .second, .val (.ref b3), .val (.ref b5), .val (.int (F3 b3 p0 q1)), .val (.int (F3 b3 p0 q1)), .val (.int (F3 b5 bq bo)), .val (.int (0 : Int32))] [(.int (F3 b3 p0 q1))]))) (fun t k => XS.iload X11.here hx rfl (hb hby at_127) rfl k) ?_
        refine own_go (B := (T11.setTop (mkF m 131 #[.val (.int p0), .val (.long q1), .second, .val (.int p2), .val (.long q3), .second, .val (.int p4), .val (.int bq), .val (.long bo), .second, .val (.ref b3), .val (.ref b5), .val (.int (F3 b3 p0 q1)), .val (.int (F3 b3 p0 q1)), .val (.int (F3 b5 bq bo)), .val (.int (0 : Int32))] [(.int (F3 b5 bq bo)), (.int (F3 b3 p0 q1))]))) (fun t k => XS.iload X11.here hx rfl (hb hby at_129) rfl k) ?_
        refine own_go (B := (T11.setTop (mkF m 136 #[.val (.int p0), .val (.long q1), .second, .val (.int p2), .val (.long q3), .second, .val (.int p4), .val (.int bq), .val (.long bo), .second, .val (.ref b3), .val (.ref b5), .val (.int (F3 b3 p0 q1)), .val (.int (F3 b3 p0 q1)), .val (.int (F3 b5 bq bo)), .val (.int (0 : Int32))] []))) (fun t k => XS.icmpYes X11.here hx rfl (pc0 := 131) (pc' := 136) rfl (hb hby at_131) rfl (teq (own_hash (own_equ hc124).1 (own_equ hc124).2)).1 (by decide) (by decide) k) ?_
        refine own_go (B := (T11.setTop (mkF m 137 #[.val (.int p0), .val (.long q1), .second, .val (.int p2), .val (.long q3), .second, .val (.int p4), .val (.int bq), .val (.long bo), .second, .val (.ref b3), .val (.ref b5), .val (.int (F3 b3 p0 q1)), .val (.int (F3 b3 p0 q1)), .val (.int (F3 b5 bq bo)), .val (.int (0 : Int32))] [(.int (1 : Int32))]))) (fun t k => XS.iconst X11.here hx rfl (hb hby at_136) k) ?_
        obtain ⟨fs, hr, hrun, hended, hW, hsame⟩ := X11.leave (v := some (.int (1 : Int32))) (fun h => by rw [Bd.returns] at h; cases h)
        exact ⟨_, _, retN X11 hx (t := .boolean) Bd.returns (by simp) (hb hby at_137) hr, hrun, hended, _, _, rfl, ⟨rfl, N11⟩, ⟨_, rfl⟩, hW, hsame.mono (by decide) (by decide)⟩
  · refine own_go (B := (T9.setTop (mkF m 91 #[.val (.int p0), .val (.long q1), .second, .val (.int p2), .val (.long q3), .second, .val (.int p4), .val (.int bq), .val (.long bo), .second, .val (.ref b3), .val (.ref b5), .val (.int (F3 b3 p0 q1)), .val (.int (F3 b3 p0 q1)), .val (.int (F3 b5 bq bo)), .unset] []))) (fun t k => XS.icmpYes X9.here hx rfl (pc0 := 77) (pc' := 91) rfl (hb hby at_77) rfl (feq hc77).2 (by decide) (by decide) k) ?_
    refine own_go (B := (T9.setTop (mkF m 92 #[.val (.int p0), .val (.long q1), .second, .val (.int p2), .val (.long q3), .second, .val (.int p4), .val (.int bq), .val (.long bo), .second, .val (.ref b3), .val (.ref b5), .val (.int (F3 b3 p0 q1)), .val (.int (F3 b3 p0 q1)), .val (.int (F3 b5 bq bo)), .unset] [(.int (0 : Int32))]))) (fun t k => XS.iconst X9.here hx rfl (hb hby at_91) k) ?_
    refine own_go (B := (T9.setTop (mkF m 94 #[.val (.int p0), .val (.long q1), .second, .val (.int p2), .val (.long q3), .second, .val (.int p4), .val (.int bq), .val (.long bo), .second, .val (.ref b3), .val (.ref b5), .val (.int (F3 b3 p0 q1)), .val (.int (F3 b3 p0 q1)), .val (.int (F3 b5 bq bo)), .val (.int (0 : Int32))] []))) (fun t k => XS.istore X9.here hx rfl (hb hby at_92) rfl (l' := #[.val (.int p0), .val (.long q1), .second, .val (.int p2), .val (.long q3), .second, .val (.int p4), .val (.int bq), .val (.long bo), .second, .val (.ref b3), .val (.ref b5), .val (.int (F3 b3 p0 q1)), .val (.int (F3 b3 p0 q1)), .val (.int (F3 b5 bq bo)), .val (.int (0 : Int32))]) rfl k) ?_
    refine own_go (B := (T9.setTop (mkF m 96 #[.val (.int p0), .val (.long q1), .second, .val (.int p2), .val (.long q3), .second, .val (.int p4), .val (.int bq), .val (.long bo), .second, .val (.ref b3), .val (.ref b5), .val (.int (F3 b3 p0 q1)), .val (.int (F3 b3 p0 q1)), .val (.int (F3 b5 bq bo)), .val (.int (0 : Int32))] [(.int (F3 b3 p0 q1))]))) (fun t k => XS.iload X9.here hx rfl (hb hby at_94) rfl k) ?_
    refine own_go (B := (T9.setTop (mkF m 98 #[.val (.int p0), .val (.long q1), .second, .val (.int p2), .val (.long q3), .second, .val (.int p4), .val (.int bq), .val (.long bo), .second, .val (.ref b3), .val (.ref b5), .val (.int (F3 b3 p0 q1)), .val (.int (F3 b3 p0 q1)), .val (.int (F3 b5 bq bo)), .val (.int (0 : Int32))] [(.int (F3 b3 p0 q1)), (.int (F3 b3 p0 q1))]))) (fun t k => XS.iload X9.here hx rfl (hb hby at_96) rfl k) ?_
    refine own_go (B := (T9.setTop (mkF m 103 #[.val (.int p0), .val (.long q1), .second, .val (.int p2), .val (.long q3), .second, .val (.int p4), .val (.int bq), .val (.long bo), .second, .val (.ref b3), .val (.ref b5), .val (.int (F3 b3 p0 q1)), .val (.int (F3 b3 p0 q1)), .val (.int (F3 b5 bq bo)), .val (.int (0 : Int32))] []))) (fun t k => XS.icmpYes X9.here hx rfl (pc0 := 98) (pc' := 103) rfl (hb hby at_98) rfl (teq rfl).1 (by decide) (by decide) k) ?_
    refine own_go (B := (T9.setTop (mkF m 105 #[.val (.int p0), .val (.long q1), .second, .val (.int p2), .val (.long q3), .second, .val (.int p4), .val (.int bq), .val (.long bo), .second, .val (.ref b3), .val (.ref b5), .val (.int (F3 b3 p0 q1)), .val (.int (F3 b3 p0 q1)), .val (.int (F3 b5 bq bo)), .val (.int (0 : Int32))] [(.int (0 : Int32))]))) (fun t k => XS.iload X9.here hx rfl (hb hby at_103) rfl k) ?_
    refine own_go (B := (T9.setTop (mkF m 117 #[.val (.int p0), .val (.long q1), .second, .val (.int p2), .val (.long q3), .second, .val (.int p4), .val (.int bq), .val (.long bo), .second, .val (.ref b3), .val (.ref b5), .val (.int (F3 b3 p0 q1)), .val (.int (F3 b3 p0 q1)), .val (.int (F3 b5 bq bo)), .val (.int (0 : Int32))] []))) (fun t k => XS.ifYes X9.here hx rfl (pc0 := 105) (pc' := 117) rfl (hb hby at_105) rfl ((if0 _ _).trans (teq (by decide)).1) (by decide) (by decide) k) ?_
    refine own_go (B := (T9.setTop (mkF m 119 #[.val (.int p0), .val (.long q1), .second, .val (.int p2), .val (.long q3), .second, .val (.int p4), .val (.int bq), .val (.long bo), .second, .val (.ref b3), .val (.ref b5), .val (.int (F3 b3 p0 q1)), .val (.int (F3 b3 p0 q1)), .val (.int (F3 b5 bq bo)), .val (.int (0 : Int32))] [(.ref b3)]))) (fun t k => XS.aload X9.here hx rfl (hb hby at_117) rfl rfl k) ?_
    refine own_go (B := (T9.setTop (mkF m 121 #[.val (.int p0), .val (.long q1), .second, .val (.int p2), .val (.long q3), .second, .val (.int p4), .val (.int bq), .val (.long bo), .second, .val (.ref b3), .val (.ref b5), .val (.int (F3 b3 p0 q1)), .val (.int (F3 b3 p0 q1)), .val (.int (F3 b5 bq bo)), .val (.int (0 : Int32))] [(.ref b5), (.ref b3)]))) (fun t k => XS.aload X9.here hx rfl (hb hby at_119) rfl rfl k) ?_
    obtain ⟨cq12, kq12, q12a, q12b, q12c⟩ := isOf hZ e9 E_b3_6
    obtain ⟨_, _, ⟨T12, L12, k12, n12⟩, -, X12, ⟨Lc12, hQ12, l12, y12, z12⟩, st12⟩ := X9.virtualBack hx (y := (⟨"com/example/usherd/usherd/Published", "equals", "(Ljava/lang/Object;)Z"⟩ : MethodName)) (z := (⟨"com/example/usherd/usherd/Published", "equals", "(Ljava/lang/Object;)Z"⟩ : MethodName)) hown (mvT hZ (hw _ (List.mem_of_getElem? (i := 22) rfl))) (mvT hZ (hw _ (List.mem_of_getElem? (i := 23) rfl))) (notFace_of_selects (args := #[]) (mvT hZ (hw _ (List.mem_of_getElem? (i := 25) rfl)))) (mvT hZ (hw _ (List.mem_of_getElem? (i := 25) rfl))) (mvT hZ (hw _ (List.mem_of_getElem? (i := 24) rfl))) (by decide) (backOf (W := 0) (rm5 l Z ta hw [] b3 b5 p0 q1 bq bo T6.heap n0 F_b3_queue_6 F_b3_offset_6 Fq6_0 Fq6_1 E_b5_6) hZ (hw _ (List.mem_of_getElem? (i := 26) rfl)) (hw _ (List.mem_of_getElem? (i := 2) rfl)) (by decide) (by decide)) q12a q12c (g := (mkF m 121 #[.val (.int p0), .val (.long q1), .second, .val (.int p2), .val (.long q3), .second, .val (.int p4), .val (.int bq), .val (.long bo), .second, .val (.ref b3), .val (.ref b5), .val (.int (F3 b3 p0 q1)), .val (.int (F3 b3 p0 q1)), .val (.int (F3 b5 bq bo)), .val (.int (0 : Int32))] [(.ref b5), (.ref b3)])) rfl (by rw [hml]; rfl) (Steps.refl _) (argsL := [(.ref b5)]) (rest := []) (lenOf pd_0_2 rfl) rfl (by show 2 * 0 + _ ≤ _; exact Nat.le_of_eq rfl) (hb hby at_121) (fun _ _ => ⟨rfl, e9, (by decide : (((((((0 + 1) + 0) + 1) + 0) + 0) + 0) + 0) + 0 ≤ _), (by decide : (((((((0 + 2) + 0) + 2) + 0) + 0) + 0) + 0) + 0 ≤ _)⟩)
    dsimp only [Pt.U, Pt.locs, Pt.cells, Pt.slots] at X12 l12 y12 z12 st12 hQ12
    subst l12 y12 z12
    obtain ⟨rfl, N12q, e12⟩ := hQ12
    replace e12 := e12
    have N12 := Fr.app N9 N12q
    refine own_go (B := (T12.setTop (mkF m 124 #[.val (.int p0), .val (.long q1), .second, .val (.int p2), .val (.long q3), .second, .val (.int p4), .val (.int bq), .val (.long bo), .second, .val (.ref b3), .val (.ref b5), .val (.int (F3 b3 p0 q1)), .val (.int (F3 b3 p0 q1)), .val (.int (F3 b5 bq bo)), .val (.int (0 : Int32))] [(.int (F5 b3 b5 p0 q1 bq bo))]))) (fun t k => st12.trans k) ?_
    by_cases hc124 : (F5 b3 b5 p0 q1 bq bo) = (0 : Int32)
    · refine own_go (B := (T12.setTop (mkF m 136 #[.val (.int p0), .val (.long q1), .second, .val (.int p2), .val (.long q3), .second, .val (.int p4), .val (.int bq), .val (.long bo), .second, .val (.ref b3), .val (.ref b5), .val (.int (F3 b3 p0 q1)), .val (.int (F3 b3 p0 q1)), .val (.int (F3 b5 bq bo)), .val (.int (0 : Int32))] []))) (fun t k => XS.ifYes X12.here hx rfl (pc0 := 124) (pc' := 136) rfl (hb hby at_124) rfl ((if0 _ _).trans (teq hc124).1) (by decide) (by decide) k) ?_
      refine own_go (B := (T12.setTop (mkF m 137 #[.val (.int p0), .val (.long q1), .second, .val (.int p2), .val (.long q3), .second, .val (.int p4), .val (.int bq), .val (.long bo), .second, .val (.ref b3), .val (.ref b5), .val (.int (F3 b3 p0 q1)), .val (.int (F3 b3 p0 q1)), .val (.int (F3 b5 bq bo)), .val (.int (0 : Int32))] [(.int (1 : Int32))]))) (fun t k => XS.iconst X12.here hx rfl (hb hby at_136) k) ?_
      obtain ⟨fs, hr, hrun, hended, hW, hsame⟩ := X12.leave (v := some (.int (1 : Int32))) (fun h => by rw [Bd.returns] at h; cases h)
      exact ⟨_, _, retN X12 hx (t := .boolean) Bd.returns (by simp) (hb hby at_137) hr, hrun, hended, _, _, rfl, ⟨rfl, N12⟩, ⟨_, rfl⟩, hW, hsame.mono (by decide) (by decide)⟩
    · refine own_go (B := (T12.setTop (mkF m 127 #[.val (.int p0), .val (.long q1), .second, .val (.int p2), .val (.long q3), .second, .val (.int p4), .val (.int bq), .val (.long bo), .second, .val (.ref b3), .val (.ref b5), .val (.int (F3 b3 p0 q1)), .val (.int (F3 b3 p0 q1)), .val (.int (F3 b5 bq bo)), .val (.int (0 : Int32))] []))) (fun t k => XS.ifNo X12.here hx rfl (hb hby at_124) rfl ((if0 _ _).trans (feq hc124).1) k) ?_
      refine own_go (B := (T12.setTop (mkF m 129 #[.val (.int p0), .val (.long q1), .second, .val (.int p2), .val (.long q3), .second, .val (.int p4), .val (.int bq), .val (.long bo), .second, .val (.ref b3), .val (.ref b5), .val (.int (F3 b3 p0 q1)), .val (.int (F3 b3 p0 q1)), .val (.int (F3 b5 bq bo)), .val (.int (0 : Int32))] [(.int (F3 b3 p0 q1))]))) (fun t k => XS.iload X12.here hx rfl (hb hby at_127) rfl k) ?_
      refine own_go (B := (T12.setTop (mkF m 131 #[.val (.int p0), .val (.long q1), .second, .val (.int p2), .val (.long q3), .second, .val (.int p4), .val (.int bq), .val (.long bo), .second, .val (.ref b3), .val (.ref b5), .val (.int (F3 b3 p0 q1)), .val (.int (F3 b3 p0 q1)), .val (.int (F3 b5 bq bo)), .val (.int (0 : Int32))] [(.int (F3 b5 bq bo)), (.int (F3 b3 p0 q1))]))) (fun t k => XS.iload X12.here hx rfl (hb hby at_129) rfl k) ?_
      refine own_go (B := (T12.setTop (mkF m 136 #[.val (.int p0), .val (.long q1), .second, .val (.int p2), .val (.long q3), .second, .val (.int p4), .val (.int bq), .val (.long bo), .second, .val (.ref b3), .val (.ref b5), .val (.int (F3 b3 p0 q1)), .val (.int (F3 b3 p0 q1)), .val (.int (F3 b5 bq bo)), .val (.int (0 : Int32))] []))) (fun t k => XS.icmpYes X12.here hx rfl (pc0 := 131) (pc' := 136) rfl (hb hby at_131) rfl (teq (own_hash (own_equ hc124).1 (own_equ hc124).2)).1 (by decide) (by decide) k) ?_
      refine own_go (B := (T12.setTop (mkF m 137 #[.val (.int p0), .val (.long q1), .second, .val (.int p2), .val (.long q3), .second, .val (.int p4), .val (.int bq), .val (.long bo), .second, .val (.ref b3), .val (.ref b5), .val (.int (F3 b3 p0 q1)), .val (.int (F3 b3 p0 q1)), .val (.int (F3 b5 bq bo)), .val (.int (0 : Int32))] [(.int (1 : Int32))]))) (fun t k => XS.iconst X12.here hx rfl (hb hby at_136) k) ?_
      obtain ⟨fs, hr, hrun, hended, hW, hsame⟩ := X12.leave (v := some (.int (1 : Int32))) (fun h => by rw [Bd.returns] at h; cases h)
      exact ⟨_, _, retN X12 hx (t := .boolean) Bd.returns (by simp) (hb hby at_137) hr, hrun, hended, _, _, rfl, ⟨rfl, N12⟩, ⟨_, rfl⟩, hW, hsame.mono (by decide) (by decide)⟩
set_option maxRecDepth 65536 in
set_option maxHeartbeats 40000000 in
theorem comes_1 {Post : Tables → Env → Array Value → State → Outcome → State → Prop} (hpost : ∀ tb e args s v u, (limb_1_1.after args s (.returned v) u = true ∧ limb_1_2.after args s (.returned v) u = true ∧ True) → FrameEnd s (.returned v) u (Jvm.fieldLocs frame_1_writes args s ++ Jvm.arrayLocs frame_1_arrays args s ++ Jvm.staticLocs frame_1_statics s) 16 128 → Post tb e args s (.returned v) u) :
    ArmFor flags0 classFile x code maxLocals ret World_1 tables_1 room_1 Calls_1 rest_1 Pre_1 Post := by
  intro l hfl _ _ p e ha hc hk s m args below hf hA hF happ hP
  obtain ⟨hcalls, hrest, hpre⟩ := hP
  obtain ⟨-, -, -, hnamed, -, -, -, hat⟩ := (Spec.applies_iff hf).mp happ
  obtain ⟨hg, hn⟩ := and_e (Cond.before_iff.mp (show (Jvm.Cond.and given_1 narrow_1).before args s = true from hpre))
  obtain ⟨gc, g0⟩ := and_e hg
  obtain ⟨gg0, g1⟩ := and_e g0
  obtain ⟨gg1, g2⟩ := and_e g1
  obtain ⟨gg2, g3⟩ := and_e g2
  obtain ⟨gg3, g4⟩ := and_e g3
  obtain ⟨w0, w1, w2, w3, w4, rfl⟩ : ∃ w0 w1 w2 w3 w4 : Value, args = #[w0, w1, w2, w3, w4] := by
    have hs : args.size = 5 := by simpa [Cond.value, given_1] using gc
    obtain ⟨L⟩ := args
    match L, hs with
    | [w0, w1, w2, w3, w4], _ => exact ⟨w0, w1, w2, w3, w4, rfl⟩
  have hw := fun d (hd : d ∈ tables_1) => atoms_spec (ws := Jvm.Cond.code x code maxLocals ret :: tables_1) hat d (List.mem_cons_of_mem _ hd)
  have hfit : Fit s := fun {y c} hc i hi => by
    obtain ⟨ha, rfl⟩ := Array.getElem?_eq_some_iff.mp hc
    have q := List.all_eq_true.mp ((Array.all_eq_true_iff_forall_mem.mp hF) _ (Array.getElem_mem ha)) i (List.mem_range.mpr hi)
    simpa [Array.getElem?_eq_getElem hi] using q
  obtain ⟨i0, ei0⟩ := is_v gg0
  obtain rfl : w0 = (.int i0) := Option.some.inj ei0
  obtain ⟨i1, ei1⟩ := isL_v gg1
  obtain rfl : w1 = (.long i1) := Option.some.inj ei1
  obtain ⟨i2, ei2⟩ := is_v gg2
  obtain rfl : w2 = (.int i2) := Option.some.inj ei2
  obtain ⟨i3, ei3⟩ := isL_v gg3
  obtain rfl : w3 = (.long i3) := Option.some.inj ei3
  obtain ⟨i4, ei4⟩ := is_v g4
  obtain rfl : w4 = (.int i4) := Option.some.inj ei4
  obtain ⟨n, o, h1, h2, h3, _, L, rfl, ⟨rfl, N⟩, hq⟩ := rm0 l s _ hw tables_1 i0 i1 i2 i3 i4 s.heap s.heap.size (Nat.le_refl _) p e ha hc hk s m _ below hf ((Spec.applies_iff_loose hf).mp happ).1 ⟨rfl, State.Warmed39.refl s, rfl⟩ trivial
  refine ⟨n, _, h1, h2, h3, hpost _ _ _ _ _ _ ⟨Cond.after_iff.mpr rfl, Cond.after_iff.mpr (eq_i res_at (Term.int_eval (1)) rfl), trivial⟩ ⟨hq.1, hq.2.1, (hq.2.2.sift fun y hy => Or.inr (N y hy)).mono (by decide) (by decide)⟩⟩
theorem main_1_1 : Claimed_1_1 := comes_1 fun _ _ _ _ _ _ h hF => ⟨h.1, hF⟩
theorem main_1_2 : Claimed_1_2 := comes_1 fun _ _ _ _ _ _ h hF => ⟨h.2.1, hF⟩
end Jvm.Pilot.@@N@@
namespace Jvm.Pilot.@@N@@
open Jvm Jvm.ClassFile Sem Op Lib Jvm.Free Jvm.Stand Jvm.Pilot.@@N@@.Jvm.D
/-! MADE BY PROGRAM (witnessworld.py) out of the Statement's table words and the real class files: 14 classes; the members and pool entries that the words name. The judged class is class 1, her method 1. -/
namespace start1
open Jvm.ClassFile
def u (s : String) : CpInfo := .utf8 (stringToUtf16 s)
/-- a pool by its gaps: so many unusable entries, then the entry; so many at the end -/
def gap : Nat → List CpInfo → List CpInfo
  | 0, r => r
  | n + 1, r => .unusable :: gap n r
def poolList (es : List (Nat × CpInfo)) (last : Nat) : List CpInfo := es.foldr (fun e r => gap e.1 (e.2 :: r)) (gap last [])
def pool (es : List (Nat × CpInfo)) (last : Nat) : Array CpInfo := ⟨poolList es last⟩
def fileOf (pool : Array CpInfo) (this : Nat) (attrs : Array Attribute := #[]) (ms : Array MethodInfo := #[]) (fl : Nat := 33) (sup : Nat := 0) (ifs : Array Nat := #[]) (fds : Array FieldInfo := #[]) : ClassFile where
  minorVersion := 0
  majorVersion := 65
  constantPool := pool
  accessFlags := fl
  thisClass := this
  superClass := sup
  interfaces := ifs
  fields := fds
  methods := ms
  attributes := attrs
def plain (name : String) (sup : Option ClassId) : Class where
  name := name
  kind := .ordinary
  loader := none
  accessFlags := 33
  super := sup
  interfaces := #[]
  cf := none
  fields := #[]
  methods := #[]
  instanceTypes := #[]
  staticTypes := #[]
  resolved := #[]
  callSites := []
  init := .initialized
  statics := none
  mirror := none

def pool0 : Array CpInfo := pool [(5, u "<init>"), (0, u "()V"), (1, .class_ 10), (1, u "java/lang/Object")] 113

def k0c0 : Code := { maxStack := 0, maxLocals := 1, code := object_method_1_code, exceptionTable := #[], attributes := #[] }
def k0m0 : Method := { name := "<init>", desc := "()V", sig := { parameters := [], returnType := none }, accessFlags := 1, code := some k0c0 }
/-- java/lang/Object -/
def k0 : Class := { plain "java/lang/Object" none with
  accessFlags := 33
  interfaces := #[]
  cf := some (fileOf pool0 8 #[] #[{ accessFlags := 1, nameIndex := 5, descriptorIndex := 6, attributes := #[] }] 33 0 #[] #[])
  fields := #[]
  methods := #[k0m0]
  instanceTypes := #[]
  staticTypes := #[]
  resolved := Array.replicate 124 none
  statics := none }

def pool1 : Array CpInfo := pool [(2, .class_ 4), (1, u "java/lang/Object"), (0, u "<init>"), (0, u "()V"), (0, .class_ 8), (0, u "com/example/usherd/usherd/Published"), (0, .methodref 7 10), (0, .nameAndType 5 11), (0, u "(IJ)V"), (0, .methodref 7 13), (0, .nameAndType 14 15), (0, u "hashCode"), (0, u "()I"), (0, .methodref 7 17), (0, .nameAndType 18 19), (0, u "equals"), (0, u "(Ljava/lang/Object;)Z"), (0, .class_ 21), (0, u "com/example/usherd/usherd/PublishedHashCodePinLaw"), (2, u "law"), (0, u "(IJIJI)Z")] 3

def k1m0 : Method := { name := "<init>", desc := "()V", sig := { parameters := [], returnType := none }, accessFlags := 1, code := none }
def k1c1 : Code := { maxStack := 5, maxLocals := 16, code := code, exceptionTable := #[], attributes := #[] }
def k1m1 : Method := { name := "law", desc := "(IJIJI)Z", sig := { parameters := [.int, .long, .int, .long, .int], returnType := some .boolean }, accessFlags := 9, code := some k1c1 }
/-- com/example/usherd/usherd/PublishedHashCodePinLaw -/
def k1 : Class := { plain "com/example/usherd/usherd/PublishedHashCodePinLaw" (some 0) with
  accessFlags := 49
  interfaces := #[]
  cf := some (fileOf pool1 20 #[] #[{ accessFlags := 1, nameIndex := 5, descriptorIndex := 6, attributes := #[] }, { accessFlags := 9, nameIndex := 24, descriptorIndex := 25, attributes := #[] }] 49 2 #[] #[])
  fields := #[]
  methods := #[k1m0, k1m1]
  instanceTypes := #[]
  staticTypes := #[]
  resolved := Array.replicate 29 none
  statics := none }

def pool2 : Array CpInfo := pool [(1, .methodref 2 3), (0, .class_ 4), (0, .nameAndType 5 6), (0, u "java/lang/Object"), (0, u "<init>"), (0, u "()V"), (0, .fieldref 8 9), (0, .class_ 10), (0, .nameAndType 11 12), (0, u "com/example/usherd/usherd/Published"), (0, u "queue"), (0, u "I"), (0, .fieldref 8 14), (0, .nameAndType 15 16), (0, u "offset"), (0, u "J"), (0, .methodref 18 19), (0, .class_ 20), (0, .nameAndType 21 22), (0, u "java/lang/Long"), (0, u "hashCode"), (0, u "(J)I"), (4, u "(IJ)V"), (2, u "()I"), (1, u "equals"), (0, u "(Ljava/lang/Object;)Z")] 20

def k2c0 : Code := { maxStack := 3, maxLocals := 4, code := prog_19_method_1_code, exceptionTable := #[], attributes := #[] }
def k2m0 : Method := { name := "<init>", desc := "(IJ)V", sig := { parameters := [.int, .long], returnType := none }, accessFlags := 0, code := some k2c0 }
def k2c1 : Code := { maxStack := 4, maxLocals := 3, code := prog_19_method_4_code, exceptionTable := #[], attributes := #[] }
def k2m1 : Method := { name := "equals", desc := "(Ljava/lang/Object;)Z", sig := { parameters := [(.object "java/lang/Object")], returnType := some .boolean }, accessFlags := 1, code := some k2c1 }
def k2c2 : Code := { maxStack := 3, maxLocals := 1, code := prog_19_method_5_code, exceptionTable := #[], attributes := #[] }
def k2m2 : Method := { name := "hashCode", desc := "()I", sig := { parameters := [], returnType := some .int }, accessFlags := 1, code := some k2c2 }
/-- com/example/usherd/usherd/Published -/
def k2 : Class := { plain "com/example/usherd/usherd/Published" (some 0) with
  accessFlags := 49
  interfaces := #[]
  cf := some (fileOf pool2 8 #[] #[{ accessFlags := 0, nameIndex := 5, descriptorIndex := 27, attributes := #[] }, { accessFlags := 1, nameIndex := 32, descriptorIndex := 33, attributes := #[] }, { accessFlags := 1, nameIndex := 21, descriptorIndex := 30, attributes := #[] }] 49 2 #[] #[{ accessFlags := 18, nameIndex := 11, descriptorIndex := 12, attributes := #[] }, { accessFlags := 18, nameIndex := 15, descriptorIndex := 16, attributes := #[] }])
  fields := #[{ name := "queue", type := .int, accessFlags := 18, slot := 0, constantValue := 0 }, { name := "offset", type := .long, accessFlags := 18, slot := 1, constantValue := 0 }]
  methods := #[k2m0, k2m1, k2m2]
  instanceTypes := #[.int, .long]
  staticTypes := #[]
  resolved := Array.replicate 54 none
  statics := none }

def pool3 : Array CpInfo := pool [(1, .class_ 2), (0, u "java/io/Serializable"), (0, .class_ 4), (0, u "java/lang/Object")] 2

/-- java/io/Serializable -/
def k3 : Class := { plain "java/io/Serializable" (some 0) with
  accessFlags := 1537
  interfaces := #[]
  cf := some (fileOf pool3 1 #[] #[] 1537 3 #[] #[])
  fields := #[]
  methods := #[]
  instanceTypes := #[]
  staticTypes := #[]
  resolved := Array.replicate 7 none
  statics := none }

def pool4 : Array CpInfo := pool [(2, .class_ 4), (1, u "java/lang/Object"), (0, u "<init>"), (0, u "()V"), (1, .class_ 10), (1, u "java/lang/Number"), (2, .class_ 14), (0, u "java/io/Serializable"), (0, u "serialVersionUID"), (0, u "J")] 20

def k4m0 : Method := { name := "<init>", desc := "()V", sig := { parameters := [], returnType := none }, accessFlags := 1, code := none }
/-- java/lang/Number -/
def k4 : Class := { plain "java/lang/Number" (some 0) with
  accessFlags := 1057
  interfaces := #[3]
  cf := some (fileOf pool4 8 #[] #[{ accessFlags := 1, nameIndex := 5, descriptorIndex := 6, attributes := #[] }] 1057 2 #[13] #[{ accessFlags := 26, nameIndex := 15, descriptorIndex := 16, attributes := #[] }])
  fields := #[{ name := "serialVersionUID", type := .long, accessFlags := 26, slot := 0, constantValue := 0 }]
  methods := #[k4m0]
  instanceTypes := #[]
  staticTypes := #[.long]
  resolved := Array.replicate 37 none
  statics := none }

def pool5 : Array CpInfo := pool [(1, .class_ 2), (0, u "java/lang/Comparable"), (0, .class_ 4), (0, u "java/lang/Object")] 7

/-- java/lang/Comparable -/
def k5 : Class := { plain "java/lang/Comparable" (some 0) with
  accessFlags := 1537
  interfaces := #[]
  cf := some (fileOf pool5 1 #[] #[] 1537 3 #[] #[])
  fields := #[]
  methods := #[]
  instanceTypes := #[]
  staticTypes := #[]
  resolved := Array.replicate 12 none
  statics := none }

def pool6 : Array CpInfo := pool [(1, .class_ 2), (0, u "java/lang/constant/Constable"), (0, .class_ 4), (0, u "java/lang/Object")] 6

/-- java/lang/constant/Constable -/
def k6 : Class := { plain "java/lang/constant/Constable" (some 0) with
  accessFlags := 1537
  interfaces := #[]
  cf := some (fileOf pool6 1 #[] #[] 1537 3 #[] #[])
  fields := #[]
  methods := #[]
  instanceTypes := #[]
  staticTypes := #[]
  resolved := Array.replicate 11 none
  statics := none }

def pool7 : Array CpInfo := pool [(1, .class_ 2), (0, u "java/lang/constant/ConstantDesc"), (0, .class_ 4), (0, u "java/lang/Object")] 32

/-- java/lang/constant/ConstantDesc -/
def k7 : Class := { plain "java/lang/constant/ConstantDesc" (some 0) with
  accessFlags := 1537
  interfaces := #[]
  cf := some (fileOf pool7 1 #[] #[] 1537 3 #[] #[])
  fields := #[]
  methods := #[]
  instanceTypes := #[]
  staticTypes := #[]
  resolved := Array.replicate 37 none
  statics := none }

def pool8 : Array CpInfo := pool [(1, .class_ 2), (0, u "java/lang/Long"), (98, u "(J)I"), (133, .class_ 237), (1, u "java/lang/Long$LongCache"), (33, .class_ 272), (0, u "java/lang/Number"), (2, u "value"), (0, u "J"), (2, u "hashCode"), (81, u "TYPE"), (0, u "Ljava/lang/Class;"), (0, .class_ 364), (0, u "java/lang/Comparable"), (0, .class_ 366), (0, u "java/lang/constant/Constable"), (0, .class_ 368), (0, u "java/lang/constant/ConstantDesc"), (0, u "MIN_VALUE"), (1, u "MAX_VALUE"), (4, u "SIZE"), (0, u "I"), (1, u "BYTES"), (1, u "serialVersionUID")] 142

def k8c0 : Code := { maxStack := 5, maxLocals := 2, code := jdk_35_method_36_code, exceptionTable := #[], attributes := #[] }
def k8m0 : Method := { name := "hashCode", desc := "(J)I", sig := { parameters := [.long], returnType := some .int }, accessFlags := 9, code := some k8c0 }
/-- java/lang/Long -/
def k8 : Class := { plain "java/lang/Long" (some 4) with
  accessFlags := 49
  interfaces := #[5, 6, 7]
  cf := some (fileOf pool8 1 #[.nestMembers #[235]] #[{ accessFlags := 9, nameIndex := 279, descriptorIndex := 101, attributes := #[] }] 49 271 #[363, 365, 367] #[{ accessFlags := 25, nameIndex := 369, descriptorIndex := 276, attributes := #[] }, { accessFlags := 25, nameIndex := 371, descriptorIndex := 276, attributes := #[] }, { accessFlags := 25, nameIndex := 361, descriptorIndex := 362, attributes := #[] }, { accessFlags := 18, nameIndex := 275, descriptorIndex := 276, attributes := #[] }, { accessFlags := 25, nameIndex := 376, descriptorIndex := 377, attributes := #[] }, { accessFlags := 25, nameIndex := 379, descriptorIndex := 377, attributes := #[] }, { accessFlags := 26, nameIndex := 381, descriptorIndex := 276, attributes := #[] }])
  fields := #[{ name := "MIN_VALUE", type := .long, accessFlags := 25, slot := 0, constantValue := 0 }, { name := "MAX_VALUE", type := .long, accessFlags := 25, slot := 1, constantValue := 0 }, { name := "TYPE", type := (.object "java/lang/Class"), accessFlags := 25, slot := 2, constantValue := 0 }, { name := "value", type := .long, accessFlags := 18, slot := 0, constantValue := 0 }, { name := "SIZE", type := .int, accessFlags := 25, slot := 3, constantValue := 0 }, { name := "BYTES", type := .int, accessFlags := 25, slot := 4, constantValue := 0 }, { name := "serialVersionUID", type := .long, accessFlags := 26, slot := 5, constantValue := 0 }]
  methods := #[k8m0]
  instanceTypes := #[.long]
  staticTypes := #[.long, .long, (.object "java/lang/Class"), .int, .int, .long]
  resolved := Array.replicate 524 none
  statics := none }

def pool9 : Array CpInfo := pool [(1, u "java/lang/Cloneable"), (0, .class_ 1), (0, u "java/lang/Object"), (0, .class_ 3)] 3

/-- java/lang/Cloneable -/
def k9 : Class := { plain "java/lang/Cloneable" (some 0) with
  accessFlags := 1537
  interfaces := #[]
  cf := some (fileOf pool9 2 #[] #[] 1537 4 #[] #[])
  fields := #[]
  methods := #[]
  instanceTypes := #[]
  staticTypes := #[]
  resolved := Array.replicate 8 none
  statics := none }

/-- the primitive byte -/
def k10 : Class := { plain "byte" none with kind := .primitive 'B', accessFlags := 0x411 }
/-- [B -/
def k11 : Class := { plain "[B" (some 0) with kind := .array 10 .byte, interfaces := #[9, 3], accessFlags := 1041 }

/-- the primitive int -/
def k12 : Class := { plain "int" none with kind := .primitive 'I', accessFlags := 0x411 }
/-- [I -/
def k13 : Class := { plain "[I" (some 0) with kind := .array 12 .int, interfaces := #[9, 3], accessFlags := 1041 }

def heap : Heap := #[]
def classes : Array Class := #[k0, k1, k2, k3, k4, k5, k6, k7, k8, k9, k10, k11, k12, k13]
def interned : List (Array UInt16 × Addr) := []
def slotsUsed : Nat := 0
def theMethod : MethodId := ⟨1, 1⟩
def args0 : Array Value := #[.int 5, .long 7, .int 3, .long 4, .int 1]
def aboutOver (below : List Frame) : State where
  vm := { classes := classes, interned := interned.toArray }
  heap := heap
  slotsUsed := slotsUsed
  threads := #[{ frames := .invoking theMethod args0 :: below }]
def below0 : List Frame := [.native { method := ⟨0, 0⟩, args := #[] }]
def about1 : State := aboutOver below0
def p0 : Program := .bare "" "" ""
def e0 : Env := launch0.env 0 0 0
theorem w_frames : about1.frames = Frame.invoking theMethod args0 :: below0 := rfl
set_option maxRecDepth 65536 in
theorem w_args : argsFit about1.vm theMethod args0 = true := by decide +kernel
set_option maxRecDepth 65536 in
theorem w_heap : heapFits about1 = true := by decide +kernel
set_option maxRecDepth 65536 in
theorem w_runnable : about1.curStatus? = some .runnable := by decide +kernel
set_option maxRecDepth 65536 in
theorem w_alone : about1.alone = true := by decide +kernel
set_option maxRecDepth 65536 in
theorem w_named : about1.methodNamed? x = some theMethod := by decide +kernel
set_option maxRecDepth 65536 in
theorem w_hears : about1.hears theMethod below0 = true := by decide +kernel
set_option maxRecDepth 65536 in
theorem w_ripe : about1.ripe theMethod args0 below0 = true := by decide +kernel
theorem w_running : about1.status = .running := rfl
set_option maxRecDepth 65536 in
theorem w_room : about1.hasRoom e0.platform room_1 = true :=
  launch0.hasRoom_least _ room_1 (by decide +kernel) (by decide +kernel) (by decide +kernel) (by decide +kernel) (by decide +kernel) (by decide +kernel)
theorem allAtoms_all (ts : List Jvm.Cond) (a : Array Jvm.Value) (st : Jvm.State) : (allAtoms ts).before a st = ts.all (fun c => c.before a st) := by
  induction ts with
  | nil => rfl
  | cons c t ih =>
    show (Jvm.Cond.and c (allAtoms t)).before a st = _
    rw [Jvm.Cond.before_and, ih, List.all_cons]
def words1 : List Jvm.Cond := Jvm.Cond.code x code maxLocals ret :: tables_1
/-- a 'code' word, met by the world's own term for the bytes: nothing is compared byte by byte -/
theorem code_word {y : MethodName} {bytes : ByteArray} {mx : Nat} {rt : Option FieldType} {a : Array Value} {s : State} {m : MethodId} {meth : Method} {c : Code} (h1 : s.methodNamed? y = some m) (h2 : s.vm.method? m = some meth) (h3 : meth.code = some c) (h4 : c.code = bytes)
    (h5 : (c.maxLocals == mx && c.exceptionTable.isEmpty && decide (c.maxStack ≤ mostOperands) && decide (meth.sig.returnType = rt) && !meth.locks && decide (parseMethodDescriptor y.desc = some meth.sig)) = true) : (Jvm.Cond.code y bytes mx rt).before a s = true := by
  simp only [Bool.and_eq_true, beq_iff_eq, Bool.not_eq_true', decide_eq_true_eq] at h5
  obtain ⟨⟨⟨⟨⟨g1, g2⟩, g3⟩, g4⟩, g5⟩, g6⟩ := h5
  simp [Cond.before, Cond.holds, Cond.value, h1, h2, h3, h4, g1, g2, g3, g4, g5, g6]
def isCode : Jvm.Cond → Bool
  | .code _ _ _ _ => true
  | _ => false
theorem all_split {L : List Jvm.Cond} {P : Jvm.Cond → Bool} (h1 : L.all (fun c => isCode c || P c) = true) (h2 : ∀ c ∈ L.filter isCode, P c = true) : L.all P = true := by
  refine List.all_eq_true.mpr fun c hc => ?_
  have h := List.all_eq_true.mp h1 c hc
  rcases Bool.eq_false_or_eq_true (isCode c) with hi | hi
  · exact h2 c (List.mem_filter.mpr ⟨hc, hi⟩)
  · simpa [hi] using h
set_option maxRecDepth 65536 in
theorem w_c0 : (Jvm.Cond.code x code maxLocals ret).before args0 about1 = true := code_word (m := ⟨1, 1⟩) (meth := k1m1) (c := k1c1) (by decide +kernel) rfl rfl rfl (by decide +kernel)
set_option maxRecDepth 65536 in
theorem w_c1 : (Jvm.Cond.code ({ cls := "com/example/usherd/usherd/Published", name := "<init>", desc := "(IJ)V" } : Jvm.MethodName) prog_19_method_1_code (4 : Nat) (Option.none : Option Jvm.ClassFile.FieldType)).before args0 about1 = true := code_word (m := ⟨2, 0⟩) (meth := k2m0) (c := k2c0) (by decide +kernel) rfl rfl rfl (by decide +kernel)
set_option maxRecDepth 65536 in
theorem w_c2 : (Jvm.Cond.code ({ cls := "java/lang/Object", name := "<init>", desc := "()V" } : Jvm.MethodName) object_method_1_code (1 : Nat) (Option.none : Option Jvm.ClassFile.FieldType)).before args0 about1 = true := code_word (m := ⟨0, 0⟩) (meth := k0m0) (c := k0c0) (by decide +kernel) rfl rfl rfl (by decide +kernel)
set_option maxRecDepth 65536 in
theorem w_c3 : (Jvm.Cond.code ({ cls := "com/example/usherd/usherd/Published", name := "hashCode", desc := "()I" } : Jvm.MethodName) prog_19_method_5_code (1 : Nat) (Option.some Jvm.ClassFile.FieldType.int)).before args0 about1 = true := code_word (m := ⟨2, 2⟩) (meth := k2m2) (c := k2c2) (by decide +kernel) rfl rfl rfl (by decide +kernel)
set_option maxRecDepth 65536 in
theorem w_c4 : (Jvm.Cond.code ({ cls := "java/lang/Long", name := "hashCode", desc := "(J)I" } : Jvm.MethodName) jdk_35_method_36_code (2 : Nat) (Option.some Jvm.ClassFile.FieldType.int)).before args0 about1 = true := code_word (m := ⟨8, 0⟩) (meth := k8m0) (c := k8c0) (by decide +kernel) rfl rfl rfl (by decide +kernel)
set_option maxRecDepth 65536 in
theorem w_c5 : (Jvm.Cond.code ({ cls := "com/example/usherd/usherd/Published", name := "equals", desc := "(Ljava/lang/Object;)Z" } : Jvm.MethodName) prog_19_method_4_code (3 : Nat) (Option.some Jvm.ClassFile.FieldType.boolean)).before args0 about1 = true := code_word (m := ⟨2, 1⟩) (meth := k2m1) (c := k2c1) (by decide +kernel) rfl rfl rfl (by decide +kernel)
def codes1 : List Jvm.Cond := [Jvm.Cond.code x code maxLocals ret, Jvm.Cond.code ({ cls := "com/example/usherd/usherd/Published", name := "<init>", desc := "(IJ)V" } : Jvm.MethodName) prog_19_method_1_code (4 : Nat) (Option.none : Option Jvm.ClassFile.FieldType), Jvm.Cond.code ({ cls := "java/lang/Object", name := "<init>", desc := "()V" } : Jvm.MethodName) object_method_1_code (1 : Nat) (Option.none : Option Jvm.ClassFile.FieldType), Jvm.Cond.code ({ cls := "com/example/usherd/usherd/Published", name := "hashCode", desc := "()I" } : Jvm.MethodName) prog_19_method_5_code (1 : Nat) (Option.some Jvm.ClassFile.FieldType.int), Jvm.Cond.code ({ cls := "java/lang/Long", name := "hashCode", desc := "(J)I" } : Jvm.MethodName) jdk_35_method_36_code (2 : Nat) (Option.some Jvm.ClassFile.FieldType.int), Jvm.Cond.code ({ cls := "com/example/usherd/usherd/Published", name := "equals", desc := "(Ljava/lang/Object;)Z" } : Jvm.MethodName) prog_19_method_4_code (3 : Nat) (Option.some Jvm.ClassFile.FieldType.boolean)]
set_option maxRecDepth 65536 in
theorem codes_eq : words1.filter isCode = codes1 := rfl
theorem w_codes : ∀ c ∈ words1.filter isCode, c.before args0 about1 = true := by
  rw [codes_eq]
  intro c hc
  simp only [codes1, List.mem_cons, List.not_mem_nil, or_false] at hc
  rcases hc with rfl | rfl | rfl | rfl | rfl | rfl
  · exact w_c0
  · exact w_c1
  · exact w_c2
  · exact w_c3
  · exact w_c4
  · exact w_c5
set_option maxRecDepth 65536 in
theorem w_t1 : (words1.take 24).all (fun c => isCode c || c.before args0 about1) = true := by decide +kernel
set_option maxRecDepth 65536 in
theorem w_t2 : (words1.drop 24).all (fun c => isCode c || c.before args0 about1) = true := by decide +kernel
theorem w_tables : (allAtoms (Jvm.Cond.code x code maxLocals ret :: tables_1)).before args0 about1 = true := by
  rw [allAtoms_all]
  show words1.all (fun c => c.before args0 about1) = true
  refine all_split ?_ w_codes
  rw [← List.take_append_drop 24 words1, List.all_append, w_t1, w_t2]
  rfl
set_option maxRecDepth 65536 in
theorem w_case : (Jvm.Cond.and given_1 narrow_1).before args0 about1 = true := by decide +kernel
theorem w_applies : (headSpec (Jvm.Cond.code x code maxLocals ret :: tables_1) room_1).applies x e0.platform about1 = true :=
  (Spec.applies_iff w_frames).mpr ⟨w_running, w_runnable, w_alone, w_named, w_hears, w_ripe, w_room, w_tables⟩
theorem atStart : AtStart classFile x code maxLocals ret World_1 tables_1 room_1 Calls_1 rest_1 Pre_1 launch0 p0 e0 about1 theMethod args0 below0 :=
  ⟨lists_1, trivial, launch0.admits_env _ _ _, launch0.least_env, fairChoices_fair.cas, fairChoices_fair.clock, w_frames, w_args, w_heap, w_applies, trivial, trivial, w_case⟩
end start1
theorem witness_1 : WitnessClaimed_1 := ⟨start1.p0, start1.e0, start1.about1, start1.theMethod, start1.args0, start1.below0, start1.atStart⟩
end Jvm.Pilot.@@N@@
