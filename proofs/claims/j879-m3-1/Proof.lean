import JvmDerived
import JvmDerived.Pilot.@@N@@Statement
import JvmDerived.Pilot.@@N@@Code
set_option linter.unusedVariables false
set_option linter.unusedSimpArgs false

namespace Jvm.RoadKit
open Sem ClassFile Op Lib Jvm.Stand Jvm.Free Jvm.LawKit
section New
variable {p : Program} {l : Launch} {e : Env} {R : Room} {s : State} {m : MethodId} {args : Array Value} {below : List Frame} {meth : Method} {c : Code} {T : State} {locs : List Loc} {cells slots : Nat}
theorem retI (X : Stand p l e R s m args below meth c T locs cells slots) (hx : p.tables.exec = Jvm.exec) {pc : Nat} {Ls : Array Slot} {z : Int32} {rest : List Value} (hret : meth.sig.returnType = some .int) (hd : decode c.code pc = .ok (.ireturn, 1)) {fs : List Frame}
    (hl : ∀ (f : JFrame) (acts : List Action), f.method = m → f.locked = none → f.entered = [] → (doReturn e (T.setTop f) acts (some (.int z))).1 = T.setFrames fs) : Steps p.tables e below (T.setTop (mkF m pc Ls (.int z :: rest))) (T.setFrames fs) := by
  have hm' : T.vm.method? m = some meth := X.method'
  have hn : narrow .int (.int z) = .int z := rfl
  show Steps p.tables e below (T.setTop { method := m, pc := pc, locals := Ls, stack := _ :: rest, locked := none }) _
  jvm_step X.here [X.here.top, hx, hd, hm', hret, hn]
  first | (intro acts; rw [hl _ acts rfl rfl rfl]) | rw [hl _ _ rfl rfl rfl]
  exact Steps.refl _
end New
end Jvm.RoadKit
namespace Jvm.Pilot.@@N@@
open Jvm Jvm.ClassFile Sem Op Lib Jvm.Free Jvm.Stand Jvm.LawKit Jvm.RoadKit Bundle Jvm.Pilot.@@N@@.Jvm.D
abbrev own_Goes (tb : Tables) (e : Env) (below : List Frame) (A : State) (R : State → Outcome → Prop) : Prop := ∃ s₂ o, Steps tb e below A s₂ ∧ R s₂ o
theorem own_go {tb : Tables} {e : Env} {below : List Frame} {A B : State} {R : State → Outcome → Prop} (f : ∀ t, Steps tb e below B t → Steps tb e below A t) (h : own_Goes tb e below B R) : own_Goes tb e below A R := by
  obtain ⟨s₂, o, h1, h2⟩ := h
  exact ⟨s₂, o, f _ h1, h2⟩
theorem d1_0 : decode prog_43_method_5_code 0 = .ok (.aload_n 0, 1) := by decide +kernel
theorem d1_1 : decode prog_43_method_5_code 1 = .ok (.getfield 45, 3) := by decide +kernel
theorem d1_4 : decode prog_43_method_5_code 4 = .ok (.ifCond .eq 11, 3) := by decide +kernel
theorem d1_7 : decode prog_43_method_5_code 7 = .ok (.aload_n 0, 1) := by decide +kernel
theorem d1_8 : decode prog_43_method_5_code 8 = .ok (.getfield 49, 3) := by decide +kernel
theorem d1_11 : decode prog_43_method_5_code 11 = .ok (.arraylength, 1) := by decide +kernel
theorem d1_12 : decode prog_43_method_5_code 12 = .ok (.goto 4, 3) := by decide +kernel
theorem d1_15 : decode prog_43_method_5_code 15 = .ok (.iconst 0, 1) := by decide +kernel
theorem d1_16 : decode prog_43_method_5_code 16 = .ok (.ireturn, 1) := by decide +kernel
theorem pn_1 : plainName "com/example/platemark/platemark/records/EncodingSignature" = true := by first | (simp [plainName, overriddenIn]; done) | decide +kernel
theorem ef_1 (m : MethodId) (x0 : Addr) : entryFrame m #[(.ref x0)] 1 = mkF m 0 #[.val (.ref x0)] [] := by first | (simp [entryFrame, mkF, argsToLocals, Value.category]; done) | rfl
def F1 (a0 : Addr) (mk : Int32) (cl : Cell) : Int32 := if mk = (0 : Int32) then (0 : Int32) else cl.slots.size.toInt32
def Q1 (Z : State) (a0 : Addr) (mk : Int32) (ba : Addr) (cl : Cell) (h0 : Heap) (n0 : Nat) (v : Option Value) (h : Heap) (L : List Loc) : Prop := v = some (.int (F1 a0 mk cl)) ∧ Fr n0 L ∧ h = h0
set_option maxRecDepth 65536 in
set_option maxHeartbeats 40000000 in
theorem rm1 (l : Launch) (Z : State) (ta : Array Value) (hw : ∀ d ∈ tables_1, d.before ta Z = true) (ws : List Jvm.Cond) (a0 : Addr) (mk : Int32) (ba : Addr) (cl : Cell) (h0 : Heap) (n0 : Nat) (Fm : Fld Z h0 a0 "com/example/platemark/platemark/records/EncodingSignature" "marked" "Z" (.int mk)) (Fb : Fld Z h0 a0 "com/example/platemark/platemark/records/EncodingSignature" "bytes" "[B" (.ref ba)) (Ar : Arr Z h0 ba cl .byte) :
    MetFree l (⟨"com/example/platemark/platemark/records/EncodingSignature", "markLength", "()I"⟩ : MethodName) (head1 (Jvm.Cond.code (⟨"com/example/platemark/platemark/records/EncodingSignature", "markLength", "()I"⟩ : MethodName) prog_43_method_5_code 1 (some .int) :: ws) ({ frames := 0, cells := 0, slots := 0, locals := 0 } : Room)) (fun a U => a = #[(.ref a0)] ∧ Z.Warmed39 U.vm ∧ U.heap = h0) (fun _ _ _ _ _ => True) (fun _ U o U' => ∃ v L, o = .returned v ∧ Q1 Z a0 mk ba cl h0 n0 v U'.heap L ∧ FrameEnd U o U' L ({ frames := 0, cells := 0, slots := 0, locals := 0 } : Room).cells ({ frames := 0, cells := 0, slots := 0, locals := 0 } : Room).slots) := by
  refine MetFree.of_bodySF (plainFor_of_name pn_1) hisR ?_
  intro p e s m args below meth c s₁ Bd hml0 hP hK
  obtain ⟨rfl, hZ, hh⟩ := hP
  have hx := Bd.exec
  have hby := Bd.bytes
  have hml : c.maxLocals = 1 := hml0
  have hown : s.vm.findClass "com/example/platemark/platemark/records/EncodingSignature" = some m.cls := findClass_of_methodNamed Bd.named
  have hnm := (name_of_methodNamed Bd.named Bd.method).1
  have X0 : Stand p l e ({ frames := 0, cells := 0, slots := 0, locals := 0 } : Room) s m #[(.ref a0)] below meth c s₁ [] 0 0 := Stand.of_body Bd
  have e0 : s₁.heap = h0 := by rw [← hh, Bd.state]; rfl
  have N0 := Fr.nil n0
  refine own_go (B := (s₁.setTop (mkF m 0 #[.val (.ref a0)] []))) (fun t k => castTop (ef_1 m a0) k) ?_
  refine own_go (B := (s₁.setTop (mkF m 1 #[.val (.ref a0)] [(.ref a0)]))) (fun t k => XS.aloadN X0.here hx rfl (hb hby d1_0) rfl rfl k) ?_
  obtain ⟨T1, X1, e1, st1⟩ := getF X0 hx hZ hown (host := "") (Or.inl (hw _ (List.mem_of_getElem? (i := 9) rfl))) Via.refl e0 Fm (g := (mkF m 1 #[.val (.ref a0)] [(.ref a0)])) rfl rfl (hb hby d1_1)
  refine own_go (B := (T1.setTop (mkF m 4 #[.val (.ref a0)] [(.int mk)]))) (fun t k => st1 _ k) ?_
  by_cases hc4 : mk = (0 : Int32)
  · refine own_go (B := (T1.setTop (mkF m 15 #[.val (.ref a0)] []))) (fun t k => XS.ifYes X1.here hx rfl (pc0 := 4) (pc' := 15) rfl (hb hby d1_4) rfl ((if0 _ _).trans (teq hc4).1) (by decide) (by decide) k) ?_
    refine own_go (B := (T1.setTop (mkF m 16 #[.val (.ref a0)] [(.int (0 : Int32))]))) (fun t k => XS.iconst X1.here hx rfl (hb hby d1_15) k) ?_
    obtain ⟨fs, hr, hrun, hended, hW, hsame⟩ := X1.leave (v := some (.int (0 : Int32))) (fun h => by rw [Bd.returns] at h; cases h)
    exact ⟨_, _, retI X1 hx Bd.returns (hb hby d1_16) hr, hrun, hended, _, _, rfl, ⟨congrArg (fun z => some (Value.int z)) (by simp only [F1, if_pos hc4]), N0, e1⟩, ⟨_, rfl⟩, hW, hsame.mono (by decide) (by decide)⟩
  · refine own_go (B := (T1.setTop (mkF m 7 #[.val (.ref a0)] []))) (fun t k => XS.ifNo X1.here hx rfl (hb hby d1_4) rfl ((if0 _ _).trans (feq hc4).1) k) ?_
    refine own_go (B := (T1.setTop (mkF m 8 #[.val (.ref a0)] [(.ref a0)]))) (fun t k => XS.aloadN X1.here hx rfl (hb hby d1_7) rfl rfl k) ?_
    obtain ⟨T2, X2, e2, st2⟩ := getF X1 hx hZ hown (host := "") (Or.inl (hw _ (List.mem_of_getElem? (i := 11) rfl))) Via.refl e1 Fb (g := (mkF m 8 #[.val (.ref a0)] [(.ref a0)])) rfl rfl (hb hby d1_8)
    refine own_go (B := (T2.setTop (mkF m 11 #[.val (.ref a0)] [(.ref ba)]))) (fun t k => st2 _ k) ?_
    refine own_go (B := (T2.setTop (mkF m 12 #[.val (.ref a0)] [(.int cl.slots.size.toInt32)]))) (fun t k => X2.arraylength hx (by rw [e2]; exact Ar.1) (State.isArrayOf_alike hZ.alike Ar.2.1) (g := (mkF m 11 #[.val (.ref a0)] [(.ref ba)])) rfl rfl (hb hby d1_11) _ k) ?_
    refine own_go (B := (T2.setTop (mkF m 16 #[.val (.ref a0)] [(.int cl.slots.size.toInt32)]))) (fun t k => XS.goto X2.here hx rfl (pc0 := 12) (pc' := 16) rfl (hb hby d1_12) (by decide) (by decide) k) ?_
    obtain ⟨fs, hr, hrun, hended, hW, hsame⟩ := X2.leave (v := some (.int cl.slots.size.toInt32)) (fun h => by rw [Bd.returns] at h; cases h)
    exact ⟨_, _, retI X2 hx Bd.returns (hb hby d1_16) hr, hrun, hended, _, _, rfl, ⟨congrArg (fun z => some (Value.int z)) (by simp only [F1, if_neg hc4]), N0, e2⟩, ⟨_, rfl⟩, hW, hsame.mono (by decide) (by decide)⟩
theorem pn_0 : plainName "com/example/platemark/platemark/records/EncodingSignatureMarkLengthPinLaw" = true := by first | (simp [plainName, overriddenIn]; done) | decide +kernel
theorem pd_0_0 : parseMethodDescriptor "()I" = some ⟨[], some .int⟩ := by decide +kernel
theorem ef_0 (m : MethodId) (x0 : Int32) : entryFrame m #[(.int x0)] maxLocals = mkF m 0 #[.val (.int x0), .unset, .unset, .unset] [] := by first | (simp [entryFrame, mkF, argsToLocals, Value.category, maxLocals]; done) | rfl
def Q0 (Z : State) (p0 : Int32) (x0 : Addr) (b0 : Addr) (c0 : Cell) (x1 : Addr) (b1 : Addr) (c1 : Cell) (x2 : Addr) (b2 : Addr) (c2 : Cell) (x3 : Addr) (b3 : Addr) (c3 : Cell) (x4 : Addr) (b4 : Addr) (c4 : Cell) (x5 : Addr) (b5 : Addr) (c5 : Cell) (h0 : Heap) (n0 : Nat) (v : Option Value) (h : Heap) (L : List Loc) : Prop := v = some (.int (1 : Int32)) ∧ Fr n0 L
set_option maxRecDepth 65536 in
set_option maxHeartbeats 40000000 in
theorem rm0 (l : Launch) (Z : State) (ta : Array Value) (hw : ∀ d ∈ tables_1, d.before ta Z = true) (ws : List Jvm.Cond) (p0 : Int32) (x0 : Addr) (b0 : Addr) (c0 : Cell) (x1 : Addr) (b1 : Addr) (c1 : Cell) (x2 : Addr) (b2 : Addr) (c2 : Cell) (x3 : Addr) (b3 : Addr) (c3 : Cell) (x4 : Addr) (b4 : Addr) (c4 : Cell) (x5 : Addr) (b5 : Addr) (c5 : Cell) (h0 : Heap) (n0 : Nat) (S0 : Sta Z h0 "com/example/platemark/platemark/records/EncodingSignature" "UTF_8_MARK" "Lcom/example/platemark/platemark/records/EncodingSignature;" (.ref x0)) (E0 : Exa Z h0 x0 "com/example/platemark/platemark/records/EncodingSignature") (M0 : Fld Z h0 x0 "com/example/platemark/platemark/records/EncodingSignature" "marked" "Z" (.int (1 : Int32))) (B0 : Fld Z h0 x0 "com/example/platemark/platemark/records/EncodingSignature" "bytes" "[B" (.ref b0)) (R0 : Arr Z h0 b0 c0 .byte) (L0 : c0.slots.size.toInt32 = (3 : Int32)) (S1 : Sta Z h0 "com/example/platemark/platemark/records/EncodingSignature" "UTF_16BE_MARK" "Lcom/example/platemark/platemark/records/EncodingSignature;" (.ref x1)) (E1 : Exa Z h0 x1 "com/example/platemark/platemark/records/EncodingSignature") (M1 : Fld Z h0 x1 "com/example/platemark/platemark/records/EncodingSignature" "marked" "Z" (.int (1 : Int32))) (B1 : Fld Z h0 x1 "com/example/platemark/platemark/records/EncodingSignature" "bytes" "[B" (.ref b1)) (R1 : Arr Z h0 b1 c1 .byte) (L1 : c1.slots.size.toInt32 = (2 : Int32)) (S2 : Sta Z h0 "com/example/platemark/platemark/records/EncodingSignature" "UTF_16LE_MARK" "Lcom/example/platemark/platemark/records/EncodingSignature;" (.ref x2)) (E2 : Exa Z h0 x2 "com/example/platemark/platemark/records/EncodingSignature") (M2 : Fld Z h0 x2 "com/example/platemark/platemark/records/EncodingSignature" "marked" "Z" (.int (1 : Int32))) (B2 : Fld Z h0 x2 "com/example/platemark/platemark/records/EncodingSignature" "bytes" "[B" (.ref b2)) (R2 : Arr Z h0 b2 c2 .byte) (L2 : c2.slots.size.toInt32 = (2 : Int32)) (S3 : Sta Z h0 "com/example/platemark/platemark/records/EncodingSignature" "UTF_16BE" "Lcom/example/platemark/platemark/records/EncodingSignature;" (.ref x3)) (E3 : Exa Z h0 x3 "com/example/platemark/platemark/records/EncodingSignature") (M3 : Fld Z h0 x3 "com/example/platemark/platemark/records/EncodingSignature" "marked" "Z" (.int (0 : Int32))) (B3 : Fld Z h0 x3 "com/example/platemark/platemark/records/EncodingSignature" "bytes" "[B" (.ref b3)) (R3 : Arr Z h0 b3 c3 .byte) (L3 : c3.slots.size.toInt32 = (4 : Int32)) (S4 : Sta Z h0 "com/example/platemark/platemark/records/EncodingSignature" "UTF_16LE" "Lcom/example/platemark/platemark/records/EncodingSignature;" (.ref x4)) (E4 : Exa Z h0 x4 "com/example/platemark/platemark/records/EncodingSignature") (M4 : Fld Z h0 x4 "com/example/platemark/platemark/records/EncodingSignature" "marked" "Z" (.int (0 : Int32))) (B4 : Fld Z h0 x4 "com/example/platemark/platemark/records/EncodingSignature" "bytes" "[B" (.ref b4)) (R4 : Arr Z h0 b4 c4 .byte) (L4 : c4.slots.size.toInt32 = (4 : Int32)) (S5 : Sta Z h0 "com/example/platemark/platemark/records/EncodingSignature" "NONE" "Lcom/example/platemark/platemark/records/EncodingSignature;" (.ref x5)) (E5 : Exa Z h0 x5 "com/example/platemark/platemark/records/EncodingSignature") (M5 : Fld Z h0 x5 "com/example/platemark/platemark/records/EncodingSignature" "marked" "Z" (.int (0 : Int32))) (B5 : Fld Z h0 x5 "com/example/platemark/platemark/records/EncodingSignature" "bytes" "[B" (.ref b5)) (R5 : Arr Z h0 b5 c5 .byte) (L5 : c5.slots.size.toInt32 = (0 : Int32)) :
    MetFree l x (head1 (Jvm.Cond.code x code maxLocals ret :: ws) room_1) (fun a U => a = #[(.int p0)] ∧ Z.Warmed39 U.vm ∧ U.heap = h0) (fun _ _ _ _ _ => True) (fun _ U o U' => ∃ v L, o = .returned v ∧ Q0 Z p0 x0 b0 c0 x1 b1 c1 x2 b2 c2 x3 b3 c3 x4 b4 c4 x5 b5 c5 h0 n0 v U'.heap L ∧ FrameEnd U o U' L room_1.cells room_1.slots) := by
  refine MetFree.of_bodySF (plainFor_of_name pn_0) hisR ?_
  intro p e s m args below meth c s₁ Bd hml0 hP hK
  obtain ⟨rfl, hZ, hh⟩ := hP
  have hx := Bd.exec
  have hby := Bd.bytes
  have hml : c.maxLocals = 4 := hml0
  have hown : s.vm.findClass "com/example/platemark/platemark/records/EncodingSignatureMarkLengthPinLaw" = some m.cls := findClass_of_methodNamed Bd.named
  have hnm := (name_of_methodNamed Bd.named Bd.method).1
  have X0 : Stand p l e room_1 s m #[(.int p0)] below meth c s₁ [] 0 0 := Stand.of_body Bd
  have e0 : s₁.heap = h0 := by rw [← hh, Bd.state]; rfl
  have N0 := Fr.nil n0
  refine own_go (B := (s₁.setTop (mkF m 0 #[.val (.int p0), .unset, .unset, .unset] []))) (fun t k => castTop (ef_0 m p0) k) ?_
  refine own_go (B := (s₁.setTop (mkF m 1 #[.val (.int p0), .unset, .unset, .unset] [(.int p0)]))) (fun t k => XS.iloadN X0.here hx rfl (hb hby at_0) rfl k) ?_
  refine own_go (B := (s₁.setTop (mkF m 3 #[.val (.int p0), .unset, .unset, .unset] [(.int (2147483647 : Int32)), (.int p0)]))) (fun t k => X0.ldcInt hx hown (mvT hZ (hw _ (List.mem_of_getElem? (i := 0) rfl))) (g := (mkF m 1 #[.val (.int p0), .unset, .unset, .unset] [(.int p0)])) rfl (hb hby at_1) _ k) ?_
  refine own_go (B := (s₁.setTop (mkF m 4 #[.val (.int p0), .unset, .unset, .unset] [(.int (p0 &&& (2147483647 : Int32)))]))) (fun t k => XS.iand X0.here hx rfl (hb hby at_3) rfl k) ?_
  refine own_go (B := (s₁.setTop (mkF m 6 #[.val (.int p0), .unset, .unset, .unset] [(.int (6 : Int32)), (.int (p0 &&& (2147483647 : Int32)))]))) (fun t k => XS.bipush X0.here hx rfl (hb hby at_4) k) ?_
  refine own_go (B := (s₁.setTop (mkF m 7 #[.val (.int p0), .unset, .unset, .unset] [(.int ((p0 &&& (2147483647 : Int32)) % (6 : Int32)))]))) (fun t k => iremM X0 hx rfl (hb hby at_6) rfl (by decide) k) ?_
  refine own_go (B := (s₁.setTop (mkF m 8 #[.val (.int p0), .val (.int ((p0 &&& (2147483647 : Int32)) % (6 : Int32))), .unset, .unset] []))) (fun t k => XS.istoreN X0.here hx rfl (hb hby at_7) rfl (l' := #[.val (.int p0), .val (.int ((p0 &&& (2147483647 : Int32)) % (6 : Int32))), .unset, .unset]) rfl k) ?_
  refine own_go (B := (s₁.setTop (mkF m 9 #[.val (.int p0), .val (.int ((p0 &&& (2147483647 : Int32)) % (6 : Int32))), .unset, .unset] [(.int ((p0 &&& (2147483647 : Int32)) % (6 : Int32)))]))) (fun t k => XS.iloadN X0.here hx rfl (hb hby at_8) rfl k) ?_
  by_cases hc9 : ((p0 &&& (2147483647 : Int32)) % (6 : Int32)) = (0 : Int32)
  · refine own_go (B := (s₁.setTop (mkF m 12 #[.val (.int p0), .val (.int ((p0 &&& (2147483647 : Int32)) % (6 : Int32))), .unset, .unset] []))) (fun t k => XS.ifNo X0.here hx rfl (hb hby at_9) rfl ((if0 _ _).trans (teq hc9).2) k) ?_
    obtain ⟨T1, X1, e1, st1⟩ := getS2 X0 hx hZ hown (host := "") (Or.inl (hw _ (List.mem_of_getElem? (i := 1) rfl))) Via.refl e0 S0 (g := (mkF m 12 #[.val (.int p0), .val (.int ((p0 &&& (2147483647 : Int32)) % (6 : Int32))), .unset, .unset] [])) rfl (hb hby at_12)
    refine own_go (B := (T1.setTop (mkF m 15 #[.val (.int p0), .val (.int ((p0 &&& (2147483647 : Int32)) % (6 : Int32))), .unset, .unset] [(.ref x0)]))) (fun t k => st1 _ k) ?_
    refine own_go (B := (T1.setTop (mkF m 16 #[.val (.int p0), .val (.int ((p0 &&& (2147483647 : Int32)) % (6 : Int32))), .val (.ref x0), .unset] []))) (fun t k => XS.astoreN X1.here hx rfl (hb hby at_15) rfl rfl (l' := #[.val (.int p0), .val (.int ((p0 &&& (2147483647 : Int32)) % (6 : Int32))), .val (.ref x0), .unset]) rfl k) ?_
    refine own_go (B := (T1.setTop (mkF m 17 #[.val (.int p0), .val (.int ((p0 &&& (2147483647 : Int32)) % (6 : Int32))), .val (.ref x0), .unset] [(.int (3 : Int32))]))) (fun t k => XS.iconst X1.here hx rfl (hb hby at_16) k) ?_
    refine own_go (B := (T1.setTop (mkF m 18 #[.val (.int p0), .val (.int ((p0 &&& (2147483647 : Int32)) % (6 : Int32))), .val (.ref x0), .val (.int (3 : Int32))] []))) (fun t k => XS.istoreN X1.here hx rfl (hb hby at_17) rfl (l' := #[.val (.int p0), .val (.int ((p0 &&& (2147483647 : Int32)) % (6 : Int32))), .val (.ref x0), .val (.int (3 : Int32))]) rfl k) ?_
    refine own_go (B := (T1.setTop (mkF m 83 #[.val (.int p0), .val (.int ((p0 &&& (2147483647 : Int32)) % (6 : Int32))), .val (.ref x0), .val (.int (3 : Int32))] []))) (fun t k => XS.goto X1.here hx rfl (pc0 := 18) (pc' := 83) rfl (hb hby at_18) (by decide) (by decide) k) ?_
    refine own_go (B := (T1.setTop (mkF m 84 #[.val (.int p0), .val (.int ((p0 &&& (2147483647 : Int32)) % (6 : Int32))), .val (.ref x0), .val (.int (3 : Int32))] [(.ref x0)]))) (fun t k => XS.aloadN X1.here hx rfl (hb hby at_83) rfl rfl k) ?_
    obtain ⟨cq2, kq2, q2a, q2b, q2c⟩ := isOf hZ e1 E0
    obtain ⟨_, _, ⟨T2, L2, k2, n2⟩, -, X2, ⟨Lc2, hQ2, l2, y2, z2⟩, st2⟩ := X1.virtualBack hx (y := (⟨"com/example/platemark/platemark/records/EncodingSignature", "markLength", "()I"⟩ : MethodName)) (z := (⟨"com/example/platemark/platemark/records/EncodingSignature", "markLength", "()I"⟩ : MethodName)) hown (mvT hZ (hw _ (List.mem_of_getElem? (i := 4) rfl))) (mvT hZ (hw _ (List.mem_of_getElem? (i := 5) rfl))) (notFace_of_selects (args := #[]) (mvT hZ (hw _ (List.mem_of_getElem? (i := 7) rfl)))) (mvT hZ (hw _ (List.mem_of_getElem? (i := 7) rfl))) (mvT hZ (hw _ (List.mem_of_getElem? (i := 6) rfl))) (by decide) (backOf (W := 0) (rm1 l Z ta hw [] x0 (1 : Int32) b0 c0 h0 n0 M0 B0 R0) hZ (hw _ (List.mem_of_getElem? (i := 8) rfl)) (hw _ (List.mem_of_getElem? (i := 2) rfl)) (by decide) (by decide)) q2a q2c (g := (mkF m 84 #[.val (.int p0), .val (.int ((p0 &&& (2147483647 : Int32)) % (6 : Int32))), .val (.ref x0), .val (.int (3 : Int32))] [(.ref x0)])) rfl (by rw [hml]; rfl) (Steps.refl _) (argsL := []) (rest := []) (lenOf pd_0_0 rfl) rfl (by show 2 * 0 + _ ≤ _; exact Nat.le_of_eq rfl) (hb hby at_84) (fun _ _ => ⟨rfl, e1, (by decide : 0 + 0 ≤ _), (by decide : 0 + 0 ≤ _)⟩)
    dsimp only [Pt.U, Pt.locs, Pt.cells, Pt.slots] at X2 l2 y2 z2 st2 hQ2
    subst l2 y2 z2
    obtain ⟨rfl, N2q, e2⟩ := hQ2
    replace e2 := e2
    have N2 := Fr.app N0 N2q
    refine own_go (B := (T2.setTop (mkF m 87 #[.val (.int p0), .val (.int ((p0 &&& (2147483647 : Int32)) % (6 : Int32))), .val (.ref x0), .val (.int (3 : Int32))] [(.int (F1 x0 (1 : Int32) c0))]))) (fun t k => st2.trans k) ?_
    refine own_go (B := (T2.setTop (mkF m 88 #[.val (.int p0), .val (.int ((p0 &&& (2147483647 : Int32)) % (6 : Int32))), .val (.ref x0), .val (.int (3 : Int32))] [(.int (3 : Int32)), (.int (F1 x0 (1 : Int32) c0))]))) (fun t k => XS.iloadN X2.here hx rfl (hb hby at_87) rfl k) ?_
    refine own_go (B := (T2.setTop (mkF m 91 #[.val (.int p0), .val (.int ((p0 &&& (2147483647 : Int32)) % (6 : Int32))), .val (.ref x0), .val (.int (3 : Int32))] []))) (fun t k => XS.icmpNo X2.here hx rfl (hb hby at_88) rfl (teq (by simp [F1, L0])).2 k) ?_
    refine own_go (B := (T2.setTop (mkF m 92 #[.val (.int p0), .val (.int ((p0 &&& (2147483647 : Int32)) % (6 : Int32))), .val (.ref x0), .val (.int (3 : Int32))] [(.int (1 : Int32))]))) (fun t k => XS.iconst X2.here hx rfl (hb hby at_91) k) ?_
    refine own_go (B := (T2.setTop (mkF m 96 #[.val (.int p0), .val (.int ((p0 &&& (2147483647 : Int32)) % (6 : Int32))), .val (.ref x0), .val (.int (3 : Int32))] [(.int (1 : Int32))]))) (fun t k => XS.goto X2.here hx rfl (pc0 := 92) (pc' := 96) rfl (hb hby at_92) (by decide) (by decide) k) ?_
    obtain ⟨fs, hr, hrun, hended, hW, hsame⟩ := X2.leave (v := some (.int (1 : Int32))) (fun h => by rw [Bd.returns] at h; cases h)
    exact ⟨_, _, retN X2 hx (t := .boolean) Bd.returns (by simp) (hb hby at_96) hr, hrun, hended, _, _, rfl, ⟨rfl, N2⟩, ⟨_, rfl⟩, hW, hsame.mono (by decide) (by decide)⟩
  · refine own_go (B := (s₁.setTop (mkF m 21 #[.val (.int p0), .val (.int ((p0 &&& (2147483647 : Int32)) % (6 : Int32))), .unset, .unset] []))) (fun t k => XS.ifYes X0.here hx rfl (pc0 := 9) (pc' := 21) rfl (hb hby at_9) rfl ((if0 _ _).trans (feq hc9).2) (by decide) (by decide) k) ?_
    refine own_go (B := (s₁.setTop (mkF m 22 #[.val (.int p0), .val (.int ((p0 &&& (2147483647 : Int32)) % (6 : Int32))), .unset, .unset] [(.int ((p0 &&& (2147483647 : Int32)) % (6 : Int32)))]))) (fun t k => XS.iloadN X0.here hx rfl (hb hby at_21) rfl k) ?_
    refine own_go (B := (s₁.setTop (mkF m 23 #[.val (.int p0), .val (.int ((p0 &&& (2147483647 : Int32)) % (6 : Int32))), .unset, .unset] [(.int (1 : Int32)), (.int ((p0 &&& (2147483647 : Int32)) % (6 : Int32)))]))) (fun t k => XS.iconst X0.here hx rfl (hb hby at_22) k) ?_
    by_cases hc23 : ((p0 &&& (2147483647 : Int32)) % (6 : Int32)) = (1 : Int32)
    · refine own_go (B := (s₁.setTop (mkF m 26 #[.val (.int p0), .val (.int ((p0 &&& (2147483647 : Int32)) % (6 : Int32))), .unset, .unset] []))) (fun t k => XS.icmpNo X0.here hx rfl (hb hby at_23) rfl (teq hc23).2 k) ?_
      obtain ⟨T3, X3, e3, st3⟩ := getS2 X0 hx hZ hown (host := "") (Or.inl (hw _ (List.mem_of_getElem? (i := 17) rfl))) Via.refl e0 S1 (g := (mkF m 26 #[.val (.int p0), .val (.int ((p0 &&& (2147483647 : Int32)) % (6 : Int32))), .unset, .unset] [])) rfl (hb hby at_26)
      refine own_go (B := (T3.setTop (mkF m 29 #[.val (.int p0), .val (.int ((p0 &&& (2147483647 : Int32)) % (6 : Int32))), .unset, .unset] [(.ref x1)]))) (fun t k => st3 _ k) ?_
      refine own_go (B := (T3.setTop (mkF m 30 #[.val (.int p0), .val (.int ((p0 &&& (2147483647 : Int32)) % (6 : Int32))), .val (.ref x1), .unset] []))) (fun t k => XS.astoreN X3.here hx rfl (hb hby at_29) rfl rfl (l' := #[.val (.int p0), .val (.int ((p0 &&& (2147483647 : Int32)) % (6 : Int32))), .val (.ref x1), .unset]) rfl k) ?_
      refine own_go (B := (T3.setTop (mkF m 31 #[.val (.int p0), .val (.int ((p0 &&& (2147483647 : Int32)) % (6 : Int32))), .val (.ref x1), .unset] [(.int (2 : Int32))]))) (fun t k => XS.iconst X3.here hx rfl (hb hby at_30) k) ?_
      refine own_go (B := (T3.setTop (mkF m 32 #[.val (.int p0), .val (.int ((p0 &&& (2147483647 : Int32)) % (6 : Int32))), .val (.ref x1), .val (.int (2 : Int32))] []))) (fun t k => XS.istoreN X3.here hx rfl (hb hby at_31) rfl (l' := #[.val (.int p0), .val (.int ((p0 &&& (2147483647 : Int32)) % (6 : Int32))), .val (.ref x1), .val (.int (2 : Int32))]) rfl k) ?_
      refine own_go (B := (T3.setTop (mkF m 83 #[.val (.int p0), .val (.int ((p0 &&& (2147483647 : Int32)) % (6 : Int32))), .val (.ref x1), .val (.int (2 : Int32))] []))) (fun t k => XS.goto X3.here hx rfl (pc0 := 32) (pc' := 83) rfl (hb hby at_32) (by decide) (by decide) k) ?_
      refine own_go (B := (T3.setTop (mkF m 84 #[.val (.int p0), .val (.int ((p0 &&& (2147483647 : Int32)) % (6 : Int32))), .val (.ref x1), .val (.int (2 : Int32))] [(.ref x1)]))) (fun t k => XS.aloadN X3.here hx rfl (hb hby at_83) rfl rfl k) ?_
      obtain ⟨cq4, kq4, q4a, q4b, q4c⟩ := isOf hZ e3 E1
      obtain ⟨_, _, ⟨T4, L4, k4, n4⟩, -, X4, ⟨Lc4, hQ4, l4, y4, z4⟩, st4⟩ := X3.virtualBack hx (y := (⟨"com/example/platemark/platemark/records/EncodingSignature", "markLength", "()I"⟩ : MethodName)) (z := (⟨"com/example/platemark/platemark/records/EncodingSignature", "markLength", "()I"⟩ : MethodName)) hown (mvT hZ (hw _ (List.mem_of_getElem? (i := 4) rfl))) (mvT hZ (hw _ (List.mem_of_getElem? (i := 5) rfl))) (notFace_of_selects (args := #[]) (mvT hZ (hw _ (List.mem_of_getElem? (i := 7) rfl)))) (mvT hZ (hw _ (List.mem_of_getElem? (i := 7) rfl))) (mvT hZ (hw _ (List.mem_of_getElem? (i := 6) rfl))) (by decide) (backOf (W := 0) (rm1 l Z ta hw [] x1 (1 : Int32) b1 c1 h0 n0 M1 B1 R1) hZ (hw _ (List.mem_of_getElem? (i := 8) rfl)) (hw _ (List.mem_of_getElem? (i := 2) rfl)) (by decide) (by decide)) q4a q4c (g := (mkF m 84 #[.val (.int p0), .val (.int ((p0 &&& (2147483647 : Int32)) % (6 : Int32))), .val (.ref x1), .val (.int (2 : Int32))] [(.ref x1)])) rfl (by rw [hml]; rfl) (Steps.refl _) (argsL := []) (rest := []) (lenOf pd_0_0 rfl) rfl (by show 2 * 0 + _ ≤ _; exact Nat.le_of_eq rfl) (hb hby at_84) (fun _ _ => ⟨rfl, e3, (by decide : 0 + 0 ≤ _), (by decide : 0 + 0 ≤ _)⟩)
      dsimp only [Pt.U, Pt.locs, Pt.cells, Pt.slots] at X4 l4 y4 z4 st4 hQ4
      subst l4 y4 z4
      obtain ⟨rfl, N4q, e4⟩ := hQ4
      replace e4 := e4
      have N4 := Fr.app N0 N4q
      refine own_go (B := (T4.setTop (mkF m 87 #[.val (.int p0), .val (.int ((p0 &&& (2147483647 : Int32)) % (6 : Int32))), .val (.ref x1), .val (.int (2 : Int32))] [(.int (F1 x1 (1 : Int32) c1))]))) (fun t k => st4.trans k) ?_
      refine own_go (B := (T4.setTop (mkF m 88 #[.val (.int p0), .val (.int ((p0 &&& (2147483647 : Int32)) % (6 : Int32))), .val (.ref x1), .val (.int (2 : Int32))] [(.int (2 : Int32)), (.int (F1 x1 (1 : Int32) c1))]))) (fun t k => XS.iloadN X4.here hx rfl (hb hby at_87) rfl k) ?_
      refine own_go (B := (T4.setTop (mkF m 91 #[.val (.int p0), .val (.int ((p0 &&& (2147483647 : Int32)) % (6 : Int32))), .val (.ref x1), .val (.int (2 : Int32))] []))) (fun t k => XS.icmpNo X4.here hx rfl (hb hby at_88) rfl (teq (by simp [F1, L1])).2 k) ?_
      refine own_go (B := (T4.setTop (mkF m 92 #[.val (.int p0), .val (.int ((p0 &&& (2147483647 : Int32)) % (6 : Int32))), .val (.ref x1), .val (.int (2 : Int32))] [(.int (1 : Int32))]))) (fun t k => XS.iconst X4.here hx rfl (hb hby at_91) k) ?_
      refine own_go (B := (T4.setTop (mkF m 96 #[.val (.int p0), .val (.int ((p0 &&& (2147483647 : Int32)) % (6 : Int32))), .val (.ref x1), .val (.int (2 : Int32))] [(.int (1 : Int32))]))) (fun t k => XS.goto X4.here hx rfl (pc0 := 92) (pc' := 96) rfl (hb hby at_92) (by decide) (by decide) k) ?_
      obtain ⟨fs, hr, hrun, hended, hW, hsame⟩ := X4.leave (v := some (.int (1 : Int32))) (fun h => by rw [Bd.returns] at h; cases h)
      exact ⟨_, _, retN X4 hx (t := .boolean) Bd.returns (by simp) (hb hby at_96) hr, hrun, hended, _, _, rfl, ⟨rfl, N4⟩, ⟨_, rfl⟩, hW, hsame.mono (by decide) (by decide)⟩
    · refine own_go (B := (s₁.setTop (mkF m 35 #[.val (.int p0), .val (.int ((p0 &&& (2147483647 : Int32)) % (6 : Int32))), .unset, .unset] []))) (fun t k => XS.icmpYes X0.here hx rfl (pc0 := 23) (pc' := 35) rfl (hb hby at_23) rfl (feq hc23).2 (by decide) (by decide) k) ?_
      refine own_go (B := (s₁.setTop (mkF m 36 #[.val (.int p0), .val (.int ((p0 &&& (2147483647 : Int32)) % (6 : Int32))), .unset, .unset] [(.int ((p0 &&& (2147483647 : Int32)) % (6 : Int32)))]))) (fun t k => XS.iloadN X0.here hx rfl (hb hby at_35) rfl k) ?_
      refine own_go (B := (s₁.setTop (mkF m 37 #[.val (.int p0), .val (.int ((p0 &&& (2147483647 : Int32)) % (6 : Int32))), .unset, .unset] [(.int (2 : Int32)), (.int ((p0 &&& (2147483647 : Int32)) % (6 : Int32)))]))) (fun t k => XS.iconst X0.here hx rfl (hb hby at_36) k) ?_
      by_cases hc37 : ((p0 &&& (2147483647 : Int32)) % (6 : Int32)) = (2 : Int32)
      · refine own_go (B := (s₁.setTop (mkF m 40 #[.val (.int p0), .val (.int ((p0 &&& (2147483647 : Int32)) % (6 : Int32))), .unset, .unset] []))) (fun t k => XS.icmpNo X0.here hx rfl (hb hby at_37) rfl (teq hc37).2 k) ?_
        obtain ⟨T5, X5, e5, st5⟩ := getS2 X0 hx hZ hown (host := "") (Or.inl (hw _ (List.mem_of_getElem? (i := 15) rfl))) Via.refl e0 S2 (g := (mkF m 40 #[.val (.int p0), .val (.int ((p0 &&& (2147483647 : Int32)) % (6 : Int32))), .unset, .unset] [])) rfl (hb hby at_40)
        refine own_go (B := (T5.setTop (mkF m 43 #[.val (.int p0), .val (.int ((p0 &&& (2147483647 : Int32)) % (6 : Int32))), .unset, .unset] [(.ref x2)]))) (fun t k => st5 _ k) ?_
        refine own_go (B := (T5.setTop (mkF m 44 #[.val (.int p0), .val (.int ((p0 &&& (2147483647 : Int32)) % (6 : Int32))), .val (.ref x2), .unset] []))) (fun t k => XS.astoreN X5.here hx rfl (hb hby at_43) rfl rfl (l' := #[.val (.int p0), .val (.int ((p0 &&& (2147483647 : Int32)) % (6 : Int32))), .val (.ref x2), .unset]) rfl k) ?_
        refine own_go (B := (T5.setTop (mkF m 45 #[.val (.int p0), .val (.int ((p0 &&& (2147483647 : Int32)) % (6 : Int32))), .val (.ref x2), .unset] [(.int (2 : Int32))]))) (fun t k => XS.iconst X5.here hx rfl (hb hby at_44) k) ?_
        refine own_go (B := (T5.setTop (mkF m 46 #[.val (.int p0), .val (.int ((p0 &&& (2147483647 : Int32)) % (6 : Int32))), .val (.ref x2), .val (.int (2 : Int32))] []))) (fun t k => XS.istoreN X5.here hx rfl (hb hby at_45) rfl (l' := #[.val (.int p0), .val (.int ((p0 &&& (2147483647 : Int32)) % (6 : Int32))), .val (.ref x2), .val (.int (2 : Int32))]) rfl k) ?_
        refine own_go (B := (T5.setTop (mkF m 83 #[.val (.int p0), .val (.int ((p0 &&& (2147483647 : Int32)) % (6 : Int32))), .val (.ref x2), .val (.int (2 : Int32))] []))) (fun t k => XS.goto X5.here hx rfl (pc0 := 46) (pc' := 83) rfl (hb hby at_46) (by decide) (by decide) k) ?_
        refine own_go (B := (T5.setTop (mkF m 84 #[.val (.int p0), .val (.int ((p0 &&& (2147483647 : Int32)) % (6 : Int32))), .val (.ref x2), .val (.int (2 : Int32))] [(.ref x2)]))) (fun t k => XS.aloadN X5.here hx rfl (hb hby at_83) rfl rfl k) ?_
        obtain ⟨cq6, kq6, q6a, q6b, q6c⟩ := isOf hZ e5 E2
        obtain ⟨_, _, ⟨T6, L6, k6, n6⟩, -, X6, ⟨Lc6, hQ6, l6, y6, z6⟩, st6⟩ := X5.virtualBack hx (y := (⟨"com/example/platemark/platemark/records/EncodingSignature", "markLength", "()I"⟩ : MethodName)) (z := (⟨"com/example/platemark/platemark/records/EncodingSignature", "markLength", "()I"⟩ : MethodName)) hown (mvT hZ (hw _ (List.mem_of_getElem? (i := 4) rfl))) (mvT hZ (hw _ (List.mem_of_getElem? (i := 5) rfl))) (notFace_of_selects (args := #[]) (mvT hZ (hw _ (List.mem_of_getElem? (i := 7) rfl)))) (mvT hZ (hw _ (List.mem_of_getElem? (i := 7) rfl))) (mvT hZ (hw _ (List.mem_of_getElem? (i := 6) rfl))) (by decide) (backOf (W := 0) (rm1 l Z ta hw [] x2 (1 : Int32) b2 c2 h0 n0 M2 B2 R2) hZ (hw _ (List.mem_of_getElem? (i := 8) rfl)) (hw _ (List.mem_of_getElem? (i := 2) rfl)) (by decide) (by decide)) q6a q6c (g := (mkF m 84 #[.val (.int p0), .val (.int ((p0 &&& (2147483647 : Int32)) % (6 : Int32))), .val (.ref x2), .val (.int (2 : Int32))] [(.ref x2)])) rfl (by rw [hml]; rfl) (Steps.refl _) (argsL := []) (rest := []) (lenOf pd_0_0 rfl) rfl (by show 2 * 0 + _ ≤ _; exact Nat.le_of_eq rfl) (hb hby at_84) (fun _ _ => ⟨rfl, e5, (by decide : 0 + 0 ≤ _), (by decide : 0 + 0 ≤ _)⟩)
        dsimp only [Pt.U, Pt.locs, Pt.cells, Pt.slots] at X6 l6 y6 z6 st6 hQ6
        subst l6 y6 z6
        obtain ⟨rfl, N6q, e6⟩ := hQ6
        replace e6 := e6
        have N6 := Fr.app N0 N6q
        refine own_go (B := (T6.setTop (mkF m 87 #[.val (.int p0), .val (.int ((p0 &&& (2147483647 : Int32)) % (6 : Int32))), .val (.ref x2), .val (.int (2 : Int32))] [(.int (F1 x2 (1 : Int32) c2))]))) (fun t k => st6.trans k) ?_
        refine own_go (B := (T6.setTop (mkF m 88 #[.val (.int p0), .val (.int ((p0 &&& (2147483647 : Int32)) % (6 : Int32))), .val (.ref x2), .val (.int (2 : Int32))] [(.int (2 : Int32)), (.int (F1 x2 (1 : Int32) c2))]))) (fun t k => XS.iloadN X6.here hx rfl (hb hby at_87) rfl k) ?_
        refine own_go (B := (T6.setTop (mkF m 91 #[.val (.int p0), .val (.int ((p0 &&& (2147483647 : Int32)) % (6 : Int32))), .val (.ref x2), .val (.int (2 : Int32))] []))) (fun t k => XS.icmpNo X6.here hx rfl (hb hby at_88) rfl (teq (by simp [F1, L2])).2 k) ?_
        refine own_go (B := (T6.setTop (mkF m 92 #[.val (.int p0), .val (.int ((p0 &&& (2147483647 : Int32)) % (6 : Int32))), .val (.ref x2), .val (.int (2 : Int32))] [(.int (1 : Int32))]))) (fun t k => XS.iconst X6.here hx rfl (hb hby at_91) k) ?_
        refine own_go (B := (T6.setTop (mkF m 96 #[.val (.int p0), .val (.int ((p0 &&& (2147483647 : Int32)) % (6 : Int32))), .val (.ref x2), .val (.int (2 : Int32))] [(.int (1 : Int32))]))) (fun t k => XS.goto X6.here hx rfl (pc0 := 92) (pc' := 96) rfl (hb hby at_92) (by decide) (by decide) k) ?_
        obtain ⟨fs, hr, hrun, hended, hW, hsame⟩ := X6.leave (v := some (.int (1 : Int32))) (fun h => by rw [Bd.returns] at h; cases h)
        exact ⟨_, _, retN X6 hx (t := .boolean) Bd.returns (by simp) (hb hby at_96) hr, hrun, hended, _, _, rfl, ⟨rfl, N6⟩, ⟨_, rfl⟩, hW, hsame.mono (by decide) (by decide)⟩
      · refine own_go (B := (s₁.setTop (mkF m 49 #[.val (.int p0), .val (.int ((p0 &&& (2147483647 : Int32)) % (6 : Int32))), .unset, .unset] []))) (fun t k => XS.icmpYes X0.here hx rfl (pc0 := 37) (pc' := 49) rfl (hb hby at_37) rfl (feq hc37).2 (by decide) (by decide) k) ?_
        refine own_go (B := (s₁.setTop (mkF m 50 #[.val (.int p0), .val (.int ((p0 &&& (2147483647 : Int32)) % (6 : Int32))), .unset, .unset] [(.int ((p0 &&& (2147483647 : Int32)) % (6 : Int32)))]))) (fun t k => XS.iloadN X0.here hx rfl (hb hby at_49) rfl k) ?_
        refine own_go (B := (s₁.setTop (mkF m 51 #[.val (.int p0), .val (.int ((p0 &&& (2147483647 : Int32)) % (6 : Int32))), .unset, .unset] [(.int (3 : Int32)), (.int ((p0 &&& (2147483647 : Int32)) % (6 : Int32)))]))) (fun t k => XS.iconst X0.here hx rfl (hb hby at_50) k) ?_
        by_cases hc51 : ((p0 &&& (2147483647 : Int32)) % (6 : Int32)) = (3 : Int32)
        · refine own_go (B := (s₁.setTop (mkF m 54 #[.val (.int p0), .val (.int ((p0 &&& (2147483647 : Int32)) % (6 : Int32))), .unset, .unset] []))) (fun t k => XS.icmpNo X0.here hx rfl (hb hby at_51) rfl (teq hc51).2 k) ?_
          obtain ⟨T7, X7, e7, st7⟩ := getS2 X0 hx hZ hown (host := "") (Or.inl (hw _ (List.mem_of_getElem? (i := 13) rfl))) Via.refl e0 S3 (g := (mkF m 54 #[.val (.int p0), .val (.int ((p0 &&& (2147483647 : Int32)) % (6 : Int32))), .unset, .unset] [])) rfl (hb hby at_54)
          refine own_go (B := (T7.setTop (mkF m 57 #[.val (.int p0), .val (.int ((p0 &&& (2147483647 : Int32)) % (6 : Int32))), .unset, .unset] [(.ref x3)]))) (fun t k => st7 _ k) ?_
          refine own_go (B := (T7.setTop (mkF m 58 #[.val (.int p0), .val (.int ((p0 &&& (2147483647 : Int32)) % (6 : Int32))), .val (.ref x3), .unset] []))) (fun t k => XS.astoreN X7.here hx rfl (hb hby at_57) rfl rfl (l' := #[.val (.int p0), .val (.int ((p0 &&& (2147483647 : Int32)) % (6 : Int32))), .val (.ref x3), .unset]) rfl k) ?_
          refine own_go (B := (T7.setTop (mkF m 59 #[.val (.int p0), .val (.int ((p0 &&& (2147483647 : Int32)) % (6 : Int32))), .val (.ref x3), .unset] [(.int (0 : Int32))]))) (fun t k => XS.iconst X7.here hx rfl (hb hby at_58) k) ?_
          refine own_go (B := (T7.setTop (mkF m 60 #[.val (.int p0), .val (.int ((p0 &&& (2147483647 : Int32)) % (6 : Int32))), .val (.ref x3), .val (.int (0 : Int32))] []))) (fun t k => XS.istoreN X7.here hx rfl (hb hby at_59) rfl (l' := #[.val (.int p0), .val (.int ((p0 &&& (2147483647 : Int32)) % (6 : Int32))), .val (.ref x3), .val (.int (0 : Int32))]) rfl k) ?_
          refine own_go (B := (T7.setTop (mkF m 83 #[.val (.int p0), .val (.int ((p0 &&& (2147483647 : Int32)) % (6 : Int32))), .val (.ref x3), .val (.int (0 : Int32))] []))) (fun t k => XS.goto X7.here hx rfl (pc0 := 60) (pc' := 83) rfl (hb hby at_60) (by decide) (by decide) k) ?_
          refine own_go (B := (T7.setTop (mkF m 84 #[.val (.int p0), .val (.int ((p0 &&& (2147483647 : Int32)) % (6 : Int32))), .val (.ref x3), .val (.int (0 : Int32))] [(.ref x3)]))) (fun t k => XS.aloadN X7.here hx rfl (hb hby at_83) rfl rfl k) ?_
          obtain ⟨cq8, kq8, q8a, q8b, q8c⟩ := isOf hZ e7 E3
          obtain ⟨_, _, ⟨T8, L8, k8, n8⟩, -, X8, ⟨Lc8, hQ8, l8, y8, z8⟩, st8⟩ := X7.virtualBack hx (y := (⟨"com/example/platemark/platemark/records/EncodingSignature", "markLength", "()I"⟩ : MethodName)) (z := (⟨"com/example/platemark/platemark/records/EncodingSignature", "markLength", "()I"⟩ : MethodName)) hown (mvT hZ (hw _ (List.mem_of_getElem? (i := 4) rfl))) (mvT hZ (hw _ (List.mem_of_getElem? (i := 5) rfl))) (notFace_of_selects (args := #[]) (mvT hZ (hw _ (List.mem_of_getElem? (i := 7) rfl)))) (mvT hZ (hw _ (List.mem_of_getElem? (i := 7) rfl))) (mvT hZ (hw _ (List.mem_of_getElem? (i := 6) rfl))) (by decide) (backOf (W := 0) (rm1 l Z ta hw [] x3 (0 : Int32) b3 c3 h0 n0 M3 B3 R3) hZ (hw _ (List.mem_of_getElem? (i := 8) rfl)) (hw _ (List.mem_of_getElem? (i := 2) rfl)) (by decide) (by decide)) q8a q8c (g := (mkF m 84 #[.val (.int p0), .val (.int ((p0 &&& (2147483647 : Int32)) % (6 : Int32))), .val (.ref x3), .val (.int (0 : Int32))] [(.ref x3)])) rfl (by rw [hml]; rfl) (Steps.refl _) (argsL := []) (rest := []) (lenOf pd_0_0 rfl) rfl (by show 2 * 0 + _ ≤ _; exact Nat.le_of_eq rfl) (hb hby at_84) (fun _ _ => ⟨rfl, e7, (by decide : 0 + 0 ≤ _), (by decide : 0 + 0 ≤ _)⟩)
          dsimp only [Pt.U, Pt.locs, Pt.cells, Pt.slots] at X8 l8 y8 z8 st8 hQ8
          subst l8 y8 z8
          obtain ⟨rfl, N8q, e8⟩ := hQ8
          replace e8 := e8
          have N8 := Fr.app N0 N8q
          refine own_go (B := (T8.setTop (mkF m 87 #[.val (.int p0), .val (.int ((p0 &&& (2147483647 : Int32)) % (6 : Int32))), .val (.ref x3), .val (.int (0 : Int32))] [(.int (F1 x3 (0 : Int32) c3))]))) (fun t k => st8.trans k) ?_
          refine own_go (B := (T8.setTop (mkF m 88 #[.val (.int p0), .val (.int ((p0 &&& (2147483647 : Int32)) % (6 : Int32))), .val (.ref x3), .val (.int (0 : Int32))] [(.int (0 : Int32)), (.int (F1 x3 (0 : Int32) c3))]))) (fun t k => XS.iloadN X8.here hx rfl (hb hby at_87) rfl k) ?_
          refine own_go (B := (T8.setTop (mkF m 91 #[.val (.int p0), .val (.int ((p0 &&& (2147483647 : Int32)) % (6 : Int32))), .val (.ref x3), .val (.int (0 : Int32))] []))) (fun t k => XS.icmpNo X8.here hx rfl (hb hby at_88) rfl (teq (by simp [F1, L3])).2 k) ?_
          refine own_go (B := (T8.setTop (mkF m 92 #[.val (.int p0), .val (.int ((p0 &&& (2147483647 : Int32)) % (6 : Int32))), .val (.ref x3), .val (.int (0 : Int32))] [(.int (1 : Int32))]))) (fun t k => XS.iconst X8.here hx rfl (hb hby at_91) k) ?_
          refine own_go (B := (T8.setTop (mkF m 96 #[.val (.int p0), .val (.int ((p0 &&& (2147483647 : Int32)) % (6 : Int32))), .val (.ref x3), .val (.int (0 : Int32))] [(.int (1 : Int32))]))) (fun t k => XS.goto X8.here hx rfl (pc0 := 92) (pc' := 96) rfl (hb hby at_92) (by decide) (by decide) k) ?_
          obtain ⟨fs, hr, hrun, hended, hW, hsame⟩ := X8.leave (v := some (.int (1 : Int32))) (fun h => by rw [Bd.returns] at h; cases h)
          exact ⟨_, _, retN X8 hx (t := .boolean) Bd.returns (by simp) (hb hby at_96) hr, hrun, hended, _, _, rfl, ⟨rfl, N8⟩, ⟨_, rfl⟩, hW, hsame.mono (by decide) (by decide)⟩
        · refine own_go (B := (s₁.setTop (mkF m 63 #[.val (.int p0), .val (.int ((p0 &&& (2147483647 : Int32)) % (6 : Int32))), .unset, .unset] []))) (fun t k => XS.icmpYes X0.here hx rfl (pc0 := 51) (pc' := 63) rfl (hb hby at_51) rfl (feq hc51).2 (by decide) (by decide) k) ?_
          refine own_go (B := (s₁.setTop (mkF m 64 #[.val (.int p0), .val (.int ((p0 &&& (2147483647 : Int32)) % (6 : Int32))), .unset, .unset] [(.int ((p0 &&& (2147483647 : Int32)) % (6 : Int32)))]))) (fun t k => XS.iloadN X0.here hx rfl (hb hby at_63) rfl k) ?_
          refine own_go (B := (s₁.setTop (mkF m 65 #[.val (.int p0), .val (.int ((p0 &&& (2147483647 : Int32)) % (6 : Int32))), .unset, .unset] [(.int (4 : Int32)), (.int ((p0 &&& (2147483647 : Int32)) % (6 : Int32)))]))) (fun t k => XS.iconst X0.here hx rfl (hb hby at_64) k) ?_
          by_cases hc65 : ((p0 &&& (2147483647 : Int32)) % (6 : Int32)) = (4 : Int32)
          · refine own_go (B := (s₁.setTop (mkF m 68 #[.val (.int p0), .val (.int ((p0 &&& (2147483647 : Int32)) % (6 : Int32))), .unset, .unset] []))) (fun t k => XS.icmpNo X0.here hx rfl (hb hby at_65) rfl (teq hc65).2 k) ?_
            obtain ⟨T9, X9, e9, st9⟩ := getS2 X0 hx hZ hown (host := "") (Or.inl (hw _ (List.mem_of_getElem? (i := 21) rfl))) Via.refl e0 S4 (g := (mkF m 68 #[.val (.int p0), .val (.int ((p0 &&& (2147483647 : Int32)) % (6 : Int32))), .unset, .unset] [])) rfl (hb hby at_68)
            refine own_go (B := (T9.setTop (mkF m 71 #[.val (.int p0), .val (.int ((p0 &&& (2147483647 : Int32)) % (6 : Int32))), .unset, .unset] [(.ref x4)]))) (fun t k => st9 _ k) ?_
            refine own_go (B := (T9.setTop (mkF m 72 #[.val (.int p0), .val (.int ((p0 &&& (2147483647 : Int32)) % (6 : Int32))), .val (.ref x4), .unset] []))) (fun t k => XS.astoreN X9.here hx rfl (hb hby at_71) rfl rfl (l' := #[.val (.int p0), .val (.int ((p0 &&& (2147483647 : Int32)) % (6 : Int32))), .val (.ref x4), .unset]) rfl k) ?_
            refine own_go (B := (T9.setTop (mkF m 73 #[.val (.int p0), .val (.int ((p0 &&& (2147483647 : Int32)) % (6 : Int32))), .val (.ref x4), .unset] [(.int (0 : Int32))]))) (fun t k => XS.iconst X9.here hx rfl (hb hby at_72) k) ?_
            refine own_go (B := (T9.setTop (mkF m 74 #[.val (.int p0), .val (.int ((p0 &&& (2147483647 : Int32)) % (6 : Int32))), .val (.ref x4), .val (.int (0 : Int32))] []))) (fun t k => XS.istoreN X9.here hx rfl (hb hby at_73) rfl (l' := #[.val (.int p0), .val (.int ((p0 &&& (2147483647 : Int32)) % (6 : Int32))), .val (.ref x4), .val (.int (0 : Int32))]) rfl k) ?_
            refine own_go (B := (T9.setTop (mkF m 83 #[.val (.int p0), .val (.int ((p0 &&& (2147483647 : Int32)) % (6 : Int32))), .val (.ref x4), .val (.int (0 : Int32))] []))) (fun t k => XS.goto X9.here hx rfl (pc0 := 74) (pc' := 83) rfl (hb hby at_74) (by decide) (by decide) k) ?_
            refine own_go (B := (T9.setTop (mkF m 84 #[.val (.int p0), .val (.int ((p0 &&& (2147483647 : Int32)) % (6 : Int32))), .val (.ref x4), .val (.int (0 : Int32))] [(.ref x4)]))) (fun t k => XS.aloadN X9.here hx rfl (hb hby at_83) rfl rfl k) ?_
            obtain ⟨cq10, kq10, q10a, q10b, q10c⟩ := isOf hZ e9 E4
            obtain ⟨_, _, ⟨T10, L10, k10, n10⟩, -, X10, ⟨Lc10, hQ10, l10, y10, z10⟩, st10⟩ := X9.virtualBack hx (y := (⟨"com/example/platemark/platemark/records/EncodingSignature", "markLength", "()I"⟩ : MethodName)) (z := (⟨"com/example/platemark/platemark/records/EncodingSignature", "markLength", "()I"⟩ : MethodName)) hown (mvT hZ (hw _ (List.mem_of_getElem? (i := 4) rfl))) (mvT hZ (hw _ (List.mem_of_getElem? (i := 5) rfl))) (notFace_of_selects (args := #[]) (mvT hZ (hw _ (List.mem_of_getElem? (i := 7) rfl)))) (mvT hZ (hw _ (List.mem_of_getElem? (i := 7) rfl))) (mvT hZ (hw _ (List.mem_of_getElem? (i := 6) rfl))) (by decide) (backOf (W := 0) (rm1 l Z ta hw [] x4 (0 : Int32) b4 c4 h0 n0 M4 B4 R4) hZ (hw _ (List.mem_of_getElem? (i := 8) rfl)) (hw _ (List.mem_of_getElem? (i := 2) rfl)) (by decide) (by decide)) q10a q10c (g := (mkF m 84 #[.val (.int p0), .val (.int ((p0 &&& (2147483647 : Int32)) % (6 : Int32))), .val (.ref x4), .val (.int (0 : Int32))] [(.ref x4)])) rfl (by rw [hml]; rfl) (Steps.refl _) (argsL := []) (rest := []) (lenOf pd_0_0 rfl) rfl (by show 2 * 0 + _ ≤ _; exact Nat.le_of_eq rfl) (hb hby at_84) (fun _ _ => ⟨rfl, e9, (by decide : 0 + 0 ≤ _), (by decide : 0 + 0 ≤ _)⟩)
            dsimp only [Pt.U, Pt.locs, Pt.cells, Pt.slots] at X10 l10 y10 z10 st10 hQ10
            subst l10 y10 z10
            obtain ⟨rfl, N10q, e10⟩ := hQ10
            replace e10 := e10
            have N10 := Fr.app N0 N10q
            refine own_go (B := (T10.setTop (mkF m 87 #[.val (.int p0), .val (.int ((p0 &&& (2147483647 : Int32)) % (6 : Int32))), .val (.ref x4), .val (.int (0 : Int32))] [(.int (F1 x4 (0 : Int32) c4))]))) (fun t k => st10.trans k) ?_
            refine own_go (B := (T10.setTop (mkF m 88 #[.val (.int p0), .val (.int ((p0 &&& (2147483647 : Int32)) % (6 : Int32))), .val (.ref x4), .val (.int (0 : Int32))] [(.int (0 : Int32)), (.int (F1 x4 (0 : Int32) c4))]))) (fun t k => XS.iloadN X10.here hx rfl (hb hby at_87) rfl k) ?_
            refine own_go (B := (T10.setTop (mkF m 91 #[.val (.int p0), .val (.int ((p0 &&& (2147483647 : Int32)) % (6 : Int32))), .val (.ref x4), .val (.int (0 : Int32))] []))) (fun t k => XS.icmpNo X10.here hx rfl (hb hby at_88) rfl (teq (by simp [F1, L4])).2 k) ?_
            refine own_go (B := (T10.setTop (mkF m 92 #[.val (.int p0), .val (.int ((p0 &&& (2147483647 : Int32)) % (6 : Int32))), .val (.ref x4), .val (.int (0 : Int32))] [(.int (1 : Int32))]))) (fun t k => XS.iconst X10.here hx rfl (hb hby at_91) k) ?_
            refine own_go (B := (T10.setTop (mkF m 96 #[.val (.int p0), .val (.int ((p0 &&& (2147483647 : Int32)) % (6 : Int32))), .val (.ref x4), .val (.int (0 : Int32))] [(.int (1 : Int32))]))) (fun t k => XS.goto X10.here hx rfl (pc0 := 92) (pc' := 96) rfl (hb hby at_92) (by decide) (by decide) k) ?_
            obtain ⟨fs, hr, hrun, hended, hW, hsame⟩ := X10.leave (v := some (.int (1 : Int32))) (fun h => by rw [Bd.returns] at h; cases h)
            exact ⟨_, _, retN X10 hx (t := .boolean) Bd.returns (by simp) (hb hby at_96) hr, hrun, hended, _, _, rfl, ⟨rfl, N10⟩, ⟨_, rfl⟩, hW, hsame.mono (by decide) (by decide)⟩
          · refine own_go (B := (s₁.setTop (mkF m 77 #[.val (.int p0), .val (.int ((p0 &&& (2147483647 : Int32)) % (6 : Int32))), .unset, .unset] []))) (fun t k => XS.icmpYes X0.here hx rfl (pc0 := 65) (pc' := 77) rfl (hb hby at_65) rfl (feq hc65).2 (by decide) (by decide) k) ?_
            obtain ⟨T11, X11, e11, st11⟩ := getS2 X0 hx hZ hown (host := "") (Or.inl (hw _ (List.mem_of_getElem? (i := 19) rfl))) Via.refl e0 S5 (g := (mkF m 77 #[.val (.int p0), .val (.int ((p0 &&& (2147483647 : Int32)) % (6 : Int32))), .unset, .unset] [])) rfl (hb hby at_77)
            refine own_go (B := (T11.setTop (mkF m 80 #[.val (.int p0), .val (.int ((p0 &&& (2147483647 : Int32)) % (6 : Int32))), .unset, .unset] [(.ref x5)]))) (fun t k => st11 _ k) ?_
            refine own_go (B := (T11.setTop (mkF m 81 #[.val (.int p0), .val (.int ((p0 &&& (2147483647 : Int32)) % (6 : Int32))), .val (.ref x5), .unset] []))) (fun t k => XS.astoreN X11.here hx rfl (hb hby at_80) rfl rfl (l' := #[.val (.int p0), .val (.int ((p0 &&& (2147483647 : Int32)) % (6 : Int32))), .val (.ref x5), .unset]) rfl k) ?_
            refine own_go (B := (T11.setTop (mkF m 82 #[.val (.int p0), .val (.int ((p0 &&& (2147483647 : Int32)) % (6 : Int32))), .val (.ref x5), .unset] [(.int (0 : Int32))]))) (fun t k => XS.iconst X11.here hx rfl (hb hby at_81) k) ?_
            refine own_go (B := (T11.setTop (mkF m 83 #[.val (.int p0), .val (.int ((p0 &&& (2147483647 : Int32)) % (6 : Int32))), .val (.ref x5), .val (.int (0 : Int32))] []))) (fun t k => XS.istoreN X11.here hx rfl (hb hby at_82) rfl (l' := #[.val (.int p0), .val (.int ((p0 &&& (2147483647 : Int32)) % (6 : Int32))), .val (.ref x5), .val (.int (0 : Int32))]) rfl k) ?_
            refine own_go (B := (T11.setTop (mkF m 84 #[.val (.int p0), .val (.int ((p0 &&& (2147483647 : Int32)) % (6 : Int32))), .val (.ref x5), .val (.int (0 : Int32))] [(.ref x5)]))) (fun t k => XS.aloadN X11.here hx rfl (hb hby at_83) rfl rfl k) ?_
            obtain ⟨cq12, kq12, q12a, q12b, q12c⟩ := isOf hZ e11 E5
            obtain ⟨_, _, ⟨T12, L12, k12, n12⟩, -, X12, ⟨Lc12, hQ12, l12, y12, z12⟩, st12⟩ := X11.virtualBack hx (y := (⟨"com/example/platemark/platemark/records/EncodingSignature", "markLength", "()I"⟩ : MethodName)) (z := (⟨"com/example/platemark/platemark/records/EncodingSignature", "markLength", "()I"⟩ : MethodName)) hown (mvT hZ (hw _ (List.mem_of_getElem? (i := 4) rfl))) (mvT hZ (hw _ (List.mem_of_getElem? (i := 5) rfl))) (notFace_of_selects (args := #[]) (mvT hZ (hw _ (List.mem_of_getElem? (i := 7) rfl)))) (mvT hZ (hw _ (List.mem_of_getElem? (i := 7) rfl))) (mvT hZ (hw _ (List.mem_of_getElem? (i := 6) rfl))) (by decide) (backOf (W := 0) (rm1 l Z ta hw [] x5 (0 : Int32) b5 c5 h0 n0 M5 B5 R5) hZ (hw _ (List.mem_of_getElem? (i := 8) rfl)) (hw _ (List.mem_of_getElem? (i := 2) rfl)) (by decide) (by decide)) q12a q12c (g := (mkF m 84 #[.val (.int p0), .val (.int ((p0 &&& (2147483647 : Int32)) % (6 : Int32))), .val (.ref x5), .val (.int (0 : Int32))] [(.ref x5)])) rfl (by rw [hml]; rfl) (Steps.refl _) (argsL := []) (rest := []) (lenOf pd_0_0 rfl) rfl (by show 2 * 0 + _ ≤ _; exact Nat.le_of_eq rfl) (hb hby at_84) (fun _ _ => ⟨rfl, e11, (by decide : 0 + 0 ≤ _), (by decide : 0 + 0 ≤ _)⟩)
            dsimp only [Pt.U, Pt.locs, Pt.cells, Pt.slots] at X12 l12 y12 z12 st12 hQ12
            subst l12 y12 z12
            obtain ⟨rfl, N12q, e12⟩ := hQ12
            replace e12 := e12
            have N12 := Fr.app N0 N12q
            refine own_go (B := (T12.setTop (mkF m 87 #[.val (.int p0), .val (.int ((p0 &&& (2147483647 : Int32)) % (6 : Int32))), .val (.ref x5), .val (.int (0 : Int32))] [(.int (F1 x5 (0 : Int32) c5))]))) (fun t k => st12.trans k) ?_
            refine own_go (B := (T12.setTop (mkF m 88 #[.val (.int p0), .val (.int ((p0 &&& (2147483647 : Int32)) % (6 : Int32))), .val (.ref x5), .val (.int (0 : Int32))] [(.int (0 : Int32)), (.int (F1 x5 (0 : Int32) c5))]))) (fun t k => XS.iloadN X12.here hx rfl (hb hby at_87) rfl k) ?_
            refine own_go (B := (T12.setTop (mkF m 91 #[.val (.int p0), .val (.int ((p0 &&& (2147483647 : Int32)) % (6 : Int32))), .val (.ref x5), .val (.int (0 : Int32))] []))) (fun t k => XS.icmpNo X12.here hx rfl (hb hby at_88) rfl (teq (by simp [F1, L5])).2 k) ?_
            refine own_go (B := (T12.setTop (mkF m 92 #[.val (.int p0), .val (.int ((p0 &&& (2147483647 : Int32)) % (6 : Int32))), .val (.ref x5), .val (.int (0 : Int32))] [(.int (1 : Int32))]))) (fun t k => XS.iconst X12.here hx rfl (hb hby at_91) k) ?_
            refine own_go (B := (T12.setTop (mkF m 96 #[.val (.int p0), .val (.int ((p0 &&& (2147483647 : Int32)) % (6 : Int32))), .val (.ref x5), .val (.int (0 : Int32))] [(.int (1 : Int32))]))) (fun t k => XS.goto X12.here hx rfl (pc0 := 92) (pc' := 96) rfl (hb hby at_92) (by decide) (by decide) k) ?_
            obtain ⟨fs, hr, hrun, hended, hW, hsame⟩ := X12.leave (v := some (.int (1 : Int32))) (fun h => by rw [Bd.returns] at h; cases h)
            exact ⟨_, _, retN X12 hx (t := .boolean) Bd.returns (by simp) (hb hby at_96) hr, hrun, hended, _, _, rfl, ⟨rfl, N12⟩, ⟨_, rfl⟩, hW, hsame.mono (by decide) (by decide)⟩
theorem own_eqi {t : Jvm.Term} {n : Int32} {args : Array Value} {s : State} (h : (Jvm.Cond.eq t (.int n)).value args s none s [] = some true) : t.eval args s none [] s = some (.int n) := by
  obtain ⟨x, y, h1, h2, h3, h4⟩ := cmp_v (Or.inl h)
  obtain rfl : y = .int n := (Option.some.inj (h2.symm.trans (Term.int_eval n)))
  obtain ⟨z, rfl⟩ := h4
  have h5 : z = n := by simpa [Cond.value, h1, h2] using h
  rw [h1, h5]
theorem own_len {t : Jvm.Term} {n : Int32} {args : Array Value} {s : State} {a : Addr} {c : Cell} {ty : FieldType} (ev : t.eval args s none [] s = some (.ref a)) (A : Arr s s.heap a c ty) (h : (Jvm.Term.length t).eval args s none [] s = some (.int n)) : c.slots.size < 2 ^ 31 ∧ c.slots.size.toInt32 = n := by
  have h1 := Arr.fin (State.Warmed39.refl s).alike A
  by_cases q : c.slots.size < 2 ^ 31
  · have e := (len_f ev h1 q).symm.trans h
    simp only [Option.some.injEq, Value.int.injEq] at e
    exact ⟨q, e⟩
  · simp [Term.eval, ev, h1, q] at h
set_option maxRecDepth 65536 in
set_option maxHeartbeats 40000000 in
theorem comes_1 {Post : Tables → Env → Array Value → State → Outcome → State → Prop} (hpost : ∀ tb e args s v u, (limb_1_1.after args s (.returned v) u = true ∧ limb_1_2.after args s (.returned v) u = true ∧ True) → FrameEnd s (.returned v) u (Jvm.fieldLocs frame_1_writes args s ++ Jvm.arrayLocs frame_1_arrays args s ++ Jvm.staticLocs frame_1_statics s) 0 0 → Post tb e args s (.returned v) u) :
    ArmFor flags0 classFile x code maxLocals ret World_1 tables_1 room_1 Calls_1 rest_1 Pre_1 Post := by
  intro l hfl _ _ p e ha hc hk s m args below hf hA hF happ hP
  obtain ⟨hcalls, hrest, hpre⟩ := hP
  obtain ⟨-, -, -, hnamed, -, -, -, hat⟩ := (Spec.applies_iff hf).mp happ
  obtain ⟨hg, hn⟩ := and_e (Cond.before_iff.mp (show (Jvm.Cond.and given_1 narrow_1).before args s = true from hpre))
  obtain ⟨gc, g0⟩ := and_e hg
  obtain ⟨w0, rfl⟩ : ∃ w0 : Value, args = #[w0] := by
    have hs : args.size = 1 := by simpa [Cond.value, given_1] using gc
    obtain ⟨L⟩ := args
    match L, hs with
    | [w0], _ => exact ⟨w0, rfl⟩
  have hw := fun d (hd : d ∈ tables_1) => atoms_spec (ws := Jvm.Cond.code x code maxLocals ret :: tables_1) hat d (List.mem_cons_of_mem _ hd)
  have hfit : Fit s := fun {y c} hc i hi => by
    obtain ⟨ha, rfl⟩ := Array.getElem?_eq_some_iff.mp hc
    have q := List.all_eq_true.mp ((Array.all_eq_true_iff_forall_mem.mp hF) _ (Array.getElem_mem ha)) i (List.mem_range.mpr hi)
    simpa [Array.getElem?_eq_getElem hi] using q
  obtain ⟨i0, ei0⟩ := is_v g0
  obtain rfl : w0 = (.int i0) := Option.some.inj ei0
  obtain ⟨nw0, nr0⟩ := and_e hn
  obtain ⟨nw1, nr1⟩ := and_e nr0
  obtain ⟨nw2, nr2⟩ := and_e nr1
  obtain ⟨nw3, nr3⟩ := and_e nr2
  obtain ⟨nw4, nr4⟩ := and_e nr3
  obtain ⟨nw5, nr5⟩ := and_e nr4
  obtain ⟨nw6, nr6⟩ := and_e nr5
  obtain ⟨nw7, nr7⟩ := and_e nr6
  obtain ⟨nw8, nr8⟩ := and_e nr7
  obtain ⟨nw9, nr9⟩ := and_e nr8
  obtain ⟨nw10, nr10⟩ := and_e nr9
  obtain ⟨nw11, nr11⟩ := and_e nr10
  obtain ⟨nw12, nr12⟩ := and_e nr11
  obtain ⟨nw13, nr13⟩ := and_e nr12
  obtain ⟨nw14, nr14⟩ := and_e nr13
  obtain ⟨nw15, nr15⟩ := and_e nr14
  obtain ⟨nw16, nr16⟩ := and_e nr15
  obtain ⟨nw17, nr17⟩ := and_e nr16
  obtain ⟨nw18, nr18⟩ := and_e nr17
  obtain ⟨nw19, nr19⟩ := and_e nr18
  obtain ⟨nw20, nr20⟩ := and_e nr19
  obtain ⟨nw21, nr21⟩ := and_e nr20
  obtain ⟨nw22, nr22⟩ := and_e nr21
  have nw23 := nr22
  obtain ⟨x0, v0⟩ := exa_v nw0
  have S0 := Sta.start v0 (Or.inr ⟨(hw _ (List.mem_of_getElem? (i := 2) rfl)), (hw _ (List.mem_of_getElem? (i := 3) rfl))⟩)
  have E0 := Exa.start v0 nw0
  have M0 := Fld.start ((fld_at v0).symm.trans (own_eqi nw1))
  obtain ⟨b0, u0⟩ := arr_v nw2
  have B0 := Fld.start ((fld_at v0).symm.trans u0)
  obtain ⟨c0, R0⟩ := Arr.start u0 nw2
  have L0 := (own_len u0 R0 (own_eqi nw3)).2
  obtain ⟨x1, v1⟩ := exa_v nw10
  have S1 := Sta.start v1 (Or.inr ⟨(hw _ (List.mem_of_getElem? (i := 2) rfl)), (hw _ (List.mem_of_getElem? (i := 18) rfl))⟩)
  have E1 := Exa.start v1 nw10
  have M1 := Fld.start ((fld_at v1).symm.trans (own_eqi nw11))
  obtain ⟨b1, u1⟩ := arr_v nw12
  have B1 := Fld.start ((fld_at v1).symm.trans u1)
  obtain ⟨c1, R1⟩ := Arr.start u1 nw12
  have L1 := (own_len u1 R1 (own_eqi nw13)).2
  obtain ⟨x2, v2⟩ := exa_v nw6
  have S2 := Sta.start v2 (Or.inr ⟨(hw _ (List.mem_of_getElem? (i := 2) rfl)), (hw _ (List.mem_of_getElem? (i := 16) rfl))⟩)
  have E2 := Exa.start v2 nw6
  have M2 := Fld.start ((fld_at v2).symm.trans (own_eqi nw7))
  obtain ⟨b2, u2⟩ := arr_v nw8
  have B2 := Fld.start ((fld_at v2).symm.trans u2)
  obtain ⟨c2, R2⟩ := Arr.start u2 nw8
  have L2 := (own_len u2 R2 (own_eqi nw9)).2
  obtain ⟨x3, v3⟩ := exa_v nw4
  have S3 := Sta.start v3 (Or.inr ⟨(hw _ (List.mem_of_getElem? (i := 2) rfl)), (hw _ (List.mem_of_getElem? (i := 14) rfl))⟩)
  have E3 := Exa.start v3 nw4
  have M3 := Fld.start ((fld_at v3).symm.trans (own_eqi nw5))
  obtain ⟨b3, u3⟩ := arr_v nw18
  have B3 := Fld.start ((fld_at v3).symm.trans u3)
  obtain ⟨c3, R3⟩ := Arr.start u3 nw18
  have L3 := (own_len u3 R3 (own_eqi nw19)).2
  obtain ⟨x4, v4⟩ := exa_v nw16
  have S4 := Sta.start v4 (Or.inr ⟨(hw _ (List.mem_of_getElem? (i := 2) rfl)), (hw _ (List.mem_of_getElem? (i := 22) rfl))⟩)
  have E4 := Exa.start v4 nw16
  have M4 := Fld.start ((fld_at v4).symm.trans (own_eqi nw17))
  obtain ⟨b4, u4⟩ := arr_v nw22
  have B4 := Fld.start ((fld_at v4).symm.trans u4)
  obtain ⟨c4, R4⟩ := Arr.start u4 nw22
  have L4 := (own_len u4 R4 (own_eqi nw23)).2
  obtain ⟨x5, v5⟩ := exa_v nw14
  have S5 := Sta.start v5 (Or.inr ⟨(hw _ (List.mem_of_getElem? (i := 2) rfl)), (hw _ (List.mem_of_getElem? (i := 20) rfl))⟩)
  have E5 := Exa.start v5 nw14
  have M5 := Fld.start ((fld_at v5).symm.trans (own_eqi nw15))
  obtain ⟨b5, u5⟩ := arr_v nw20
  have B5 := Fld.start ((fld_at v5).symm.trans u5)
  obtain ⟨c5, R5⟩ := Arr.start u5 nw20
  have L5 := (own_len u5 R5 (own_eqi nw21)).2
  obtain ⟨n, o, h1, h2, h3, _, L, rfl, ⟨rfl, N⟩, hq⟩ := rm0 l s _ hw tables_1 i0 x0 b0 c0 x1 b1 c1 x2 b2 c2 x3 b3 c3 x4 b4 c4 x5 b5 c5 s.heap s.heap.size S0 E0 M0 B0 R0 L0 S1 E1 M1 B1 R1 L1 S2 E2 M2 B2 R2 L2 S3 E3 M3 B3 R3 L3 S4 E4 M4 B4 R4 L4 S5 E5 M5 B5 R5 L5 p e ha hc hk s m _ below hf ((Spec.applies_iff_loose hf).mp happ).1 ⟨rfl, State.Warmed39.refl s, rfl⟩ trivial
  refine ⟨n, _, h1, h2, h3, hpost _ _ _ _ _ _ ⟨Cond.after_iff.mpr rfl, Cond.after_iff.mpr (eq_i res_at (Term.int_eval (1)) rfl), trivial⟩ ⟨hq.1, hq.2.1, (hq.2.2.sift fun y hy => Or.inr (N y hy)).mono (by decide) (by decide)⟩⟩
theorem main_1_1 : Claimed_1_1 := comes_1 fun _ _ _ _ _ _ h hF => ⟨h.1, hF⟩
theorem main_1_2 : Claimed_1_2 := comes_1 fun _ _ _ _ _ _ h hF => ⟨h.2.1, hF⟩
end Jvm.Pilot.@@N@@
namespace Jvm.Pilot.@@N@@
open Jvm Jvm.ClassFile Sem Op Lib Jvm.Free Jvm.Stand Jvm.Pilot.@@N@@.Jvm.D
/-! MADE BY PROGRAM (witnessworld.py) out of the Statement's table words and the real class files: 12 classes; the members and pool entries that the words name. The judged class is class 1, her method 1. -/
namespace start1
open Jvm.ClassFile
def u (s : String) : CpInfo := .utf8 (stringToUtf16 s)
/-- a pool by its gaps: so many unusable entries, then the entry; so many at the end -/
def gap : Nat → List CpInfo → List CpInfo
  | 0, r => r
  | n + 1, r => .unusable :: gap n r
def poolList (es : List (Nat × CpInfo)) (last : Nat) : List CpInfo := es.foldr (fun e r => gap e.1 (e.2 :: r)) (gap last [])
def pool (es : List (Nat × CpInfo)) (last : Nat) : Array CpInfo := ⟨poolList es last⟩
def fileOf (pool : Array CpInfo) (this : Nat) (attrs : Array Attribute := #[]) (ms : Array MethodInfo := #[]) (fl : Nat := 33) (sup : Nat := 0) (ifs : Array Nat := #[]) (fds : Array FieldInfo := #[]) : ClassFile where
  minorVersion := 0
  majorVersion := 65
  constantPool := pool
  accessFlags := fl
  thisClass := this
  superClass := sup
  interfaces := ifs
  fields := fds
  methods := ms
  attributes := attrs
def plain (name : String) (sup : Option ClassId) : Class where
  name := name
  kind := .ordinary
  loader := none
  accessFlags := 33
  super := sup
  interfaces := #[]
  cf := none
  fields := #[]
  methods := #[]
  instanceTypes := #[]
  staticTypes := #[]
  resolved := #[]
  callSites := []
  init := .initialized
  statics := none
  mirror := none

def pool0 : Array CpInfo := pool [(5, u "<init>"), (0, u "()V"), (1, .class_ 10), (1, u "java/lang/Object")] 113

def k0m0 : Method := { name := "<init>", desc := "()V", sig := { parameters := [], returnType := none }, accessFlags := 1, code := none }
/-- java/lang/Object -/
def k0 : Class := { plain "java/lang/Object" none with
  accessFlags := 33
  interfaces := #[]
  cf := some (fileOf pool0 8 #[] #[{ accessFlags := 1, nameIndex := 5, descriptorIndex := 6, attributes := #[] }] 33 0 #[] #[])
  fields := #[]
  methods := #[k0m0]
  instanceTypes := #[]
  staticTypes := #[]
  resolved := Array.replicate 124 none
  statics := none }

def pool1 : Array CpInfo := pool [(2, .class_ 4), (1, u "java/lang/Object"), (0, u "<init>"), (0, u "()V"), (0, .integer 2147483647), (0, .fieldref 9 10), (0, .class_ 11), (0, .nameAndType 12 13), (0, u "com/example/platemark/platemark/records/EncodingSignature"), (0, u "UTF_8_MARK"), (0, u "Lcom/example/platemark/platemark/records/EncodingSignature;"), (0, .fieldref 9 15), (0, .nameAndType 16 13), (0, u "UTF_16BE_MARK"), (0, .fieldref 9 18), (0, .nameAndType 19 13), (0, u "UTF_16LE_MARK"), (0, .fieldref 9 21), (0, .nameAndType 22 13), (0, u "UTF_16BE"), (0, .fieldref 9 24), (0, .nameAndType 25 13), (0, u "UTF_16LE"), (0, .fieldref 9 27), (0, .nameAndType 28 13), (0, u "NONE"), (0, .methodref 9 30), (0, .nameAndType 31 32), (0, u "markLength"), (0, u "()I"), (0, .class_ 34), (0, u "com/example/platemark/platemark/records/EncodingSignatureMarkLengthPinLaw"), (2, u "law"), (0, u "(I)Z")] 3

def k1m0 : Method := { name := "<init>", desc := "()V", sig := { parameters := [], returnType := none }, accessFlags := 1, code := none }
def k1c1 : Code := { maxStack := 2, maxLocals := 4, code := code, exceptionTable := #[], attributes := #[] }
def k1m1 : Method := { name := "law", desc := "(I)Z", sig := { parameters := [.int], returnType := some .boolean }, accessFlags := 9, code := some k1c1 }
/-- com/example/platemark/platemark/records/EncodingSignatureMarkLengthPinLaw -/
def k1 : Class := { plain "com/example/platemark/platemark/records/EncodingSignatureMarkLengthPinLaw" (some 0) with
  accessFlags := 49
  interfaces := #[]
  cf := some (fileOf pool1 33 #[] #[{ accessFlags := 1, nameIndex := 5, descriptorIndex := 6, attributes := #[] }, { accessFlags := 9, nameIndex := 37, descriptorIndex := 38, attributes := #[] }] 49 2 #[] #[])
  fields := #[]
  methods := #[k1m0, k1m1]
  instanceTypes := #[]
  staticTypes := #[]
  resolved := Array.replicate 42 none
  statics := none }

def pool2 : Array CpInfo := pool [(1, .class_ 2), (0, u "java/lang/constant/Constable"), (0, .class_ 4), (0, u "java/lang/Object")] 6

/-- java/lang/constant/Constable -/
def k2 : Class := { plain "java/lang/constant/Constable" (some 0) with
  accessFlags := 1537
  interfaces := #[]
  cf := some (fileOf pool2 1 #[] #[] 1537 3 #[] #[])
  fields := #[]
  methods := #[]
  instanceTypes := #[]
  staticTypes := #[]
  resolved := Array.replicate 11 none
  statics := none }

def pool3 : Array CpInfo := pool [(1, .class_ 2), (0, u "java/lang/Comparable"), (0, .class_ 4), (0, u "java/lang/Object")] 7

/-- java/lang/Comparable -/
def k3 : Class := { plain "java/lang/Comparable" (some 0) with
  accessFlags := 1537
  interfaces := #[]
  cf := some (fileOf pool3 1 #[] #[] 1537 3 #[] #[])
  fields := #[]
  methods := #[]
  instanceTypes := #[]
  staticTypes := #[]
  resolved := Array.replicate 12 none
  statics := none }

def pool4 : Array CpInfo := pool [(1, .class_ 2), (0, u "java/io/Serializable"), (0, .class_ 4), (0, u "java/lang/Object")] 2

/-- java/io/Serializable -/
def k4 : Class := { plain "java/io/Serializable" (some 0) with
  accessFlags := 1537
  interfaces := #[]
  cf := some (fileOf pool4 1 #[] #[] 1537 3 #[] #[])
  fields := #[]
  methods := #[]
  instanceTypes := #[]
  staticTypes := #[]
  resolved := Array.replicate 7 none
  statics := none }

def pool5 : Array CpInfo := pool [(2, .class_ 4), (1, u "java/lang/Enum"), (0, u "name"), (0, u "Ljava/lang/String;"), (2, u "ordinal"), (0, u "I"), (1, .class_ 14), (1, u "java/lang/Object"), (4, u "hash"), (86, .class_ 108), (1, u "java/lang/Enum$EnumDesc"), (2, .class_ 112), (0, u "java/lang/constant/Constable"), (0, .class_ 114), (0, u "java/lang/Comparable"), (0, .class_ 116), (0, u "java/io/Serializable")] 87

/-- java/lang/Enum -/
def k5 : Class := { plain "java/lang/Enum" (some 0) with
  accessFlags := 1057
  interfaces := #[2, 3, 4]
  cf := some (fileOf pool5 2 #[.nestMembers #[106]] #[] 1057 12 #[111, 113, 115] #[{ accessFlags := 18, nameIndex := 5, descriptorIndex := 6, attributes := #[] }, { accessFlags := 18, nameIndex := 9, descriptorIndex := 10, attributes := #[] }, { accessFlags := 2, nameIndex := 19, descriptorIndex := 10, attributes := #[] }])
  fields := #[{ name := "name", type := (.object "java/lang/String"), accessFlags := 18, slot := 0, constantValue := 0 }, { name := "ordinal", type := .int, accessFlags := 18, slot := 1, constantValue := 0 }, { name := "hash", type := .int, accessFlags := 2, slot := 2, constantValue := 0 }]
  methods := #[]
  instanceTypes := #[(.object "java/lang/String"), .int, .int]
  staticTypes := #[]
  resolved := Array.replicate 204 none
  statics := none }

def pool6 : Array CpInfo := pool [(1, .class_ 2), (0, u "com/example/platemark/platemark/records/EncodingSignature"), (2, u "UTF_8_MARK"), (0, u "Lcom/example/platemark/platemark/records/EncodingSignature;"), (2, u "UTF_16BE_MARK"), (2, u "UTF_16LE_MARK"), (2, u "UTF_16BE"), (2, u "UTF_16LE"), (2, u "NONE"), (2, u "$VALUES"), (0, u "[Lcom/example/platemark/platemark/records/EncodingSignature;"), (6, .class_ 34), (1, u "java/lang/Enum"), (8, u "charset"), (0, u "Ljava/nio/charset/Charset;"), (0, .fieldref 1 46), (0, .nameAndType 47 48), (0, u "marked"), (0, u "Z"), (0, .fieldref 1 50), (0, .nameAndType 51 52), (0, u "bytes"), (0, u "[B"), (2, u "LONGEST"), (0, u "I"), (28, u "markLength"), (0, u "()I")] 67

def k6c0 : Code := { maxStack := 1, maxLocals := 1, code := prog_43_method_5_code, exceptionTable := #[], attributes := #[] }
def k6m0 : Method := { name := "markLength", desc := "()I", sig := { parameters := [], returnType := some .int }, accessFlags := 0, code := some k6c0 }
/-- com/example/platemark/platemark/records/EncodingSignature -/
def k6 : Class := { plain "com/example/platemark/platemark/records/EncodingSignature" (some 5) with
  accessFlags := 16432
  interfaces := #[]
  cf := some (fileOf pool6 1 #[] #[{ accessFlags := 0, nameIndex := 85, descriptorIndex := 86, attributes := #[] }] 16432 32 #[] #[{ accessFlags := 16409, nameIndex := 5, descriptorIndex := 6, attributes := #[] }, { accessFlags := 16409, nameIndex := 9, descriptorIndex := 6, attributes := #[] }, { accessFlags := 16409, nameIndex := 12, descriptorIndex := 6, attributes := #[] }, { accessFlags := 16409, nameIndex := 15, descriptorIndex := 6, attributes := #[] }, { accessFlags := 16409, nameIndex := 18, descriptorIndex := 6, attributes := #[] }, { accessFlags := 16409, nameIndex := 21, descriptorIndex := 6, attributes := #[] }, { accessFlags := 24, nameIndex := 55, descriptorIndex := 56, attributes := #[] }, { accessFlags := 18, nameIndex := 43, descriptorIndex := 44, attributes := #[] }, { accessFlags := 18, nameIndex := 47, descriptorIndex := 48, attributes := #[] }, { accessFlags := 18, nameIndex := 51, descriptorIndex := 52, attributes := #[] }, { accessFlags := 4122, nameIndex := 24, descriptorIndex := 25, attributes := #[] }])
  fields := #[{ name := "UTF_8_MARK", type := (.object "com/example/platemark/platemark/records/EncodingSignature"), accessFlags := 16409, slot := 0, constantValue := 0 }, { name := "UTF_16BE_MARK", type := (.object "com/example/platemark/platemark/records/EncodingSignature"), accessFlags := 16409, slot := 1, constantValue := 0 }, { name := "UTF_16LE_MARK", type := (.object "com/example/platemark/platemark/records/EncodingSignature"), accessFlags := 16409, slot := 2, constantValue := 0 }, { name := "UTF_16BE", type := (.object "com/example/platemark/platemark/records/EncodingSignature"), accessFlags := 16409, slot := 3, constantValue := 0 }, { name := "UTF_16LE", type := (.object "com/example/platemark/platemark/records/EncodingSignature"), accessFlags := 16409, slot := 4, constantValue := 0 }, { name := "NONE", type := (.object "com/example/platemark/platemark/records/EncodingSignature"), accessFlags := 16409, slot := 5, constantValue := 0 }, { name := "LONGEST", type := .int, accessFlags := 24, slot := 6, constantValue := 0 }, { name := "charset", type := (.object "java/nio/charset/Charset"), accessFlags := 18, slot := 3, constantValue := 0 }, { name := "marked", type := .boolean, accessFlags := 18, slot := 4, constantValue := 0 }, { name := "bytes", type := (.array .byte), accessFlags := 18, slot := 5, constantValue := 0 }, { name := "$VALUES", type := (.array (.object "com/example/platemark/platemark/records/EncodingSignature")), accessFlags := 4122, slot := 7, constantValue := 0 }]
  methods := #[k6m0]
  instanceTypes := #[(.object "java/lang/String"), .int, .int, (.object "java/nio/charset/Charset"), .boolean, (.array .byte)]
  staticTypes := #[(.object "com/example/platemark/platemark/records/EncodingSignature"), (.object "com/example/platemark/platemark/records/EncodingSignature"), (.object "com/example/platemark/platemark/records/EncodingSignature"), (.object "com/example/platemark/platemark/records/EncodingSignature"), (.object "com/example/platemark/platemark/records/EncodingSignature"), (.object "com/example/platemark/platemark/records/EncodingSignature"), .int, (.array (.object "com/example/platemark/platemark/records/EncodingSignature"))]
  resolved := Array.replicate 154 none
  statics := some 0 }

def pool7 : Array CpInfo := pool [(1, u "java/lang/Cloneable"), (0, .class_ 1), (0, u "java/lang/Object"), (0, .class_ 3)] 3

/-- java/lang/Cloneable -/
def k7 : Class := { plain "java/lang/Cloneable" (some 0) with
  accessFlags := 1537
  interfaces := #[]
  cf := some (fileOf pool7 2 #[] #[] 1537 4 #[] #[])
  fields := #[]
  methods := #[]
  instanceTypes := #[]
  staticTypes := #[]
  resolved := Array.replicate 8 none
  statics := none }

/-- the primitive byte -/
def k8 : Class := { plain "byte" none with kind := .primitive 'B', accessFlags := 0x411 }
/-- [B -/
def k9 : Class := { plain "[B" (some 0) with kind := .array 8 .byte, interfaces := #[7, 4], accessFlags := 1041 }

/-- the primitive int -/
def k10 : Class := { plain "int" none with kind := .primitive 'I', accessFlags := 0x411 }
/-- [I -/
def k11 : Class := { plain "[I" (some 0) with kind := .array 10 .int, interfaces := #[7, 4], accessFlags := 1041 }

def heap : Heap := #[{ cls := 6, slots := #[.ref 1, .ref 2, .ref 3, .ref 4, .ref 5, .ref 6, .int 0, .null], vm := .statics 6 },
  { cls := 6, slots := #[.null, .int 0, .int 0, .null, .int 1, .ref 7], vm := .none },
  { cls := 6, slots := #[.null, .int 1, .int 0, .null, .int 1, .ref 8], vm := .none },
  { cls := 6, slots := #[.null, .int 2, .int 0, .null, .int 1, .ref 9], vm := .none },
  { cls := 6, slots := #[.null, .int 3, .int 0, .null, .int 0, .ref 10], vm := .none },
  { cls := 6, slots := #[.null, .int 4, .int 0, .null, .int 0, .ref 11], vm := .none },
  { cls := 6, slots := #[.null, .int 5, .int 0, .null, .int 0, .ref 12], vm := .none },
  { cls := 9, slots := #[.int 1, .int 1, .int 1], vm := .none },
  { cls := 9, slots := #[.int 1, .int 1], vm := .none },
  { cls := 9, slots := #[.int 1, .int 1], vm := .none },
  { cls := 9, slots := #[.int 1, .int 1, .int 1, .int 1], vm := .none },
  { cls := 9, slots := #[.int 1, .int 1, .int 1, .int 1], vm := .none },
  { cls := 9, slots := #[], vm := .none }]
def classes : Array Class := #[k0, k1, k2, k3, k4, k5, k6, k7, k8, k9, k10, k11]
def interned : List (Array UInt16 × Addr) := []
def slotsUsed : Nat := 59
def theMethod : MethodId := ⟨1, 1⟩
def args0 : Array Value := #[.int 5]
def aboutOver (below : List Frame) : State where
  vm := { classes := classes, interned := interned.toArray }
  heap := heap
  slotsUsed := slotsUsed
  threads := #[{ frames := .invoking theMethod args0 :: below }]
def below0 : List Frame := [.native { method := ⟨0, 0⟩, args := #[] }]
def about1 : State := aboutOver below0
def p0 : Program := .bare "" "" ""
def e0 : Env := launch0.env 0 0 0
theorem w_frames : about1.frames = Frame.invoking theMethod args0 :: below0 := rfl
set_option maxRecDepth 65536 in
theorem w_args : argsFit about1.vm theMethod args0 = true := by decide +kernel
set_option maxRecDepth 65536 in
theorem w_heap : heapFits about1 = true := by decide +kernel
set_option maxRecDepth 65536 in
theorem w_runnable : about1.curStatus? = some .runnable := by decide +kernel
set_option maxRecDepth 65536 in
theorem w_alone : about1.alone = true := by decide +kernel
set_option maxRecDepth 65536 in
theorem w_named : about1.methodNamed? x = some theMethod := by decide +kernel
set_option maxRecDepth 65536 in
theorem w_hears : about1.hears theMethod below0 = true := by decide +kernel
set_option maxRecDepth 65536 in
theorem w_ripe : about1.ripe theMethod args0 below0 = true := by decide +kernel
theorem w_running : about1.status = .running := rfl
set_option maxRecDepth 65536 in
theorem w_room : about1.hasRoom e0.platform room_1 = true :=
  launch0.hasRoom_least _ room_1 (by decide +kernel) (by decide +kernel) (by decide +kernel) (by decide +kernel) (by decide +kernel) (by decide +kernel)
theorem allAtoms_all (ts : List Jvm.Cond) (a : Array Jvm.Value) (st : Jvm.State) : (allAtoms ts).before a st = ts.all (fun c => c.before a st) := by
  induction ts with
  | nil => rfl
  | cons c t ih =>
    show (Jvm.Cond.and c (allAtoms t)).before a st = _
    rw [Jvm.Cond.before_and, ih, List.all_cons]
def words1 : List Jvm.Cond := Jvm.Cond.code x code maxLocals ret :: tables_1
/-- a 'code' word, met by the world's own term for the bytes: nothing is compared byte by byte -/
theorem code_word {y : MethodName} {bytes : ByteArray} {mx : Nat} {rt : Option FieldType} {a : Array Value} {s : State} {m : MethodId} {meth : Method} {c : Code} (h1 : s.methodNamed? y = some m) (h2 : s.vm.method? m = some meth) (h3 : meth.code = some c) (h4 : c.code = bytes)
    (h5 : (c.maxLocals == mx && c.exceptionTable.isEmpty && decide (c.maxStack ≤ mostOperands) && decide (meth.sig.returnType = rt) && !meth.locks && decide (parseMethodDescriptor y.desc = some meth.sig)) = true) : (Jvm.Cond.code y bytes mx rt).before a s = true := by
  simp only [Bool.and_eq_true, beq_iff_eq, Bool.not_eq_true', decide_eq_true_eq] at h5
  obtain ⟨⟨⟨⟨⟨g1, g2⟩, g3⟩, g4⟩, g5⟩, g6⟩ := h5
  simp [Cond.before, Cond.holds, Cond.value, h1, h2, h3, h4, g1, g2, g3, g4, g5, g6]
def isCode : Jvm.Cond → Bool
  | .code _ _ _ _ => true
  | _ => false
theorem all_split {L : List Jvm.Cond} {P : Jvm.Cond → Bool} (h1 : L.all (fun c => isCode c || P c) = true) (h2 : ∀ c ∈ L.filter isCode, P c = true) : L.all P = true := by
  refine List.all_eq_true.mpr fun c hc => ?_
  have h := List.all_eq_true.mp h1 c hc
  rcases Bool.eq_false_or_eq_true (isCode c) with hi | hi
  · exact h2 c (List.mem_filter.mpr ⟨hc, hi⟩)
  · simpa [hi] using h
set_option maxRecDepth 65536 in
theorem w_c0 : (Jvm.Cond.code x code maxLocals ret).before args0 about1 = true := code_word (m := ⟨1, 1⟩) (meth := k1m1) (c := k1c1) (by decide +kernel) rfl rfl rfl (by decide +kernel)
set_option maxRecDepth 65536 in
theorem w_c1 : (Jvm.Cond.code ({ cls := "com/example/platemark/platemark/records/EncodingSignature", name := "markLength", desc := "()I" } : Jvm.MethodName) prog_43_method_5_code (1 : Nat) (Option.some Jvm.ClassFile.FieldType.int)).before args0 about1 = true := code_word (m := ⟨6, 0⟩) (meth := k6m0) (c := k6c0) (by decide +kernel) rfl rfl rfl (by decide +kernel)
def codes1 : List Jvm.Cond := [Jvm.Cond.code x code maxLocals ret, Jvm.Cond.code ({ cls := "com/example/platemark/platemark/records/EncodingSignature", name := "markLength", desc := "()I" } : Jvm.MethodName) prog_43_method_5_code (1 : Nat) (Option.some Jvm.ClassFile.FieldType.int)]
set_option maxRecDepth 65536 in
theorem codes_eq : words1.filter isCode = codes1 := rfl
theorem w_codes : ∀ c ∈ words1.filter isCode, c.before args0 about1 = true := by
  rw [codes_eq]
  intro c hc
  simp only [codes1, List.mem_cons, List.not_mem_nil, or_false] at hc
  rcases hc with rfl | rfl
  · exact w_c0
  · exact w_c1
set_option maxRecDepth 65536 in
theorem w_t1 : words1.all (fun c => isCode c || c.before args0 about1) = true := by decide +kernel
theorem w_tables : (allAtoms (Jvm.Cond.code x code maxLocals ret :: tables_1)).before args0 about1 = true := by
  rw [allAtoms_all]
  show words1.all (fun c => c.before args0 about1) = true
  refine all_split ?_ w_codes
  rw [w_t1]
set_option maxRecDepth 65536 in
theorem w_case : (Jvm.Cond.and given_1 narrow_1).before args0 about1 = true := by decide +kernel
theorem w_applies : (headSpec (Jvm.Cond.code x code maxLocals ret :: tables_1) room_1).applies x e0.platform about1 = true :=
  (Spec.applies_iff w_frames).mpr ⟨w_running, w_runnable, w_alone, w_named, w_hears, w_ripe, w_room, w_tables⟩
theorem atStart : AtStart classFile x code maxLocals ret World_1 tables_1 room_1 Calls_1 rest_1 Pre_1 launch0 p0 e0 about1 theMethod args0 below0 :=
  ⟨lists_1, trivial, launch0.admits_env _ _ _, launch0.least_env, fairChoices_fair.cas, fairChoices_fair.clock, w_frames, w_args, w_heap, w_applies, trivial, trivial, w_case⟩
end start1
theorem witness_1 : WitnessClaimed_1 := ⟨start1.p0, start1.e0, start1.about1, start1.theMethod, start1.args0, start1.below0, start1.atStart⟩
end Jvm.Pilot.@@N@@
