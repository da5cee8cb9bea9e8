import JvmDerived
import JvmDerived.Pilot.@@N@@Statement
import JvmDerived.Pilot.@@N@@Code
set_option linter.unusedVariables false
set_option linter.unusedSimpArgs false

namespace Jvm.RoadKit
open Sem ClassFile Op Lib Jvm.Stand Jvm.Free Jvm.LawKit
section New
variable {p : Program} {l : Launch} {e : Env} {R : Room} {s : State} {m : MethodId} {args : Array Value} {below : List Frame} {meth : Method} {c : Code} {T : State} {locs : List Loc} {cells slots : Nat}
theorem retI (X : Stand p l e R s m args below meth c T locs cells slots) (hx : p.tables.exec = Jvm.exec) {pc : Nat} {Ls : Array Slot} {z : Int32} {rest : List Value} (hret : meth.sig.returnType = some .int) (hd : decode c.code pc = .ok (.ireturn, 1)) {fs : List Frame}
    (hl : ∀ (f : JFrame) (acts : List Action), f.method = m → f.locked = none → f.entered = [] → (doReturn e (T.setTop f) acts (some (.int z))).1 = T.setFrames fs) : Steps p.tables e below (T.setTop (mkF m pc Ls (.int z :: rest))) (T.setFrames fs) := by
  have hm' : T.vm.method? m = some meth := X.method'
  have hn : narrow .int (.int z) = .int z := rfl
  show Steps p.tables e below (T.setTop { method := m, pc := pc, locals := Ls, stack := _ :: rest, locked := none }) _
  jvm_step X.here [X.here.top, hx, hd, hm', hret, hn]
  first | (intro acts; rw [hl _ acts rfl rfl rfl]) | rw [hl _ _ rfl rfl rfl]
  exact Steps.refl _
end New
end Jvm.RoadKit
namespace Jvm.Pilot.@@N@@
open Jvm Jvm.ClassFile Sem Op Lib Jvm.Free Jvm.Stand Jvm.LawKit Jvm.RoadKit Bundle Jvm.Pilot.@@N@@.Jvm.D
abbrev own_Goes (tb : Tables) (e : Env) (below : List Frame) (A : State) (R : State → Outcome → Prop) : Prop := ∃ s₂ o, Steps tb e below A s₂ ∧ R s₂ o
theorem own_go {tb : Tables} {e : Env} {below : List Frame} {A B : State} {R : State → Outcome → Prop} (f : ∀ t, Steps tb e below B t → Steps tb e below A t) (h : own_Goes tb e below B R) : own_Goes tb e below A R := by
  obtain ⟨s₂, o, h1, h2⟩ := h
  exact ⟨s₂, o, f _ h1, h2⟩
theorem d1_0 : decode method_2_code 0 = .ok (.iload_n 0, 1) := by decide +kernel
theorem d1_1 : decode method_2_code 1 = .ok (.sipush 256, 3) := by decide +kernel
theorem d1_4 : decode method_2_code 4 = .ok (.iand, 1) := by decide +kernel
theorem d1_5 : decode method_2_code 5 = .ok (.ifCond .eq 16, 3) := by decide +kernel
theorem d1_8 : decode method_2_code 8 = .ok (.bipush 48, 2) := by decide +kernel
theorem d1_10 : decode method_2_code 10 = .ok (.iload_n 0, 1) := by decide +kernel
theorem d1_11 : decode method_2_code 11 = .ok (.sipush 255, 3) := by decide +kernel
theorem d1_14 : decode method_2_code 14 = .ok (.iand, 1) := by decide +kernel
theorem d1_15 : decode method_2_code 15 = .ok (.bipush 10, 2) := by decide +kernel
theorem d1_17 : decode method_2_code 17 = .ok (.irem, 1) := by decide +kernel
theorem d1_18 : decode method_2_code 18 = .ok (.iadd, 1) := by decide +kernel
theorem d1_19 : decode method_2_code 19 = .ok (.i2b, 1) := by decide +kernel
theorem d1_20 : decode method_2_code 20 = .ok (.ireturn, 1) := by decide +kernel
theorem d1_21 : decode method_2_code 21 = .ok (.iload_n 0, 1) := by decide +kernel
theorem d1_22 : decode method_2_code 22 = .ok (.i2b, 1) := by decide +kernel
theorem d1_23 : decode method_2_code 23 = .ok (.ireturn, 1) := by decide +kernel
theorem pn_1 : plainName "com/example/platemark/platemark/records/Iso2709DigitsPinLaw" = true := by first | (simp [plainName, overriddenIn]; done) | decide +kernel
theorem ef_1 (m : MethodId) (x0 : Int32) : entryFrame m #[(.int x0)] 1 = mkF m 0 #[.val (.int x0)] [] := by first | (simp [entryFrame, mkF, argsToLocals, Value.category]; done) | rfl
def F1 (p0 : Int32)  : Int32 := if (p0 &&& (256 : Int32)) = (0 : Int32) then (nar .byte (p0.toInt8.toInt32)) else (nar .byte (((48 : Int32) + ((p0 &&& (255 : Int32)) % (10 : Int32))).toInt8.toInt32))
def Q1 (Z : State) (p0 : Int32)  (h0 : Heap) (n0 : Nat) (v : Option Value) (h : Heap) (L : List Loc) : Prop := v = some (.int (F1 p0)) ∧ Fr n0 L ∧ h = h0
set_option maxRecDepth 65536 in
set_option maxHeartbeats 40000000 in
theorem rm1 (l : Launch) (Z : State) (ta : Array Value) (hw : ∀ d ∈ tables_1, d.before ta Z = true) (ws : List Jvm.Cond) (p0 : Int32)  (h0 : Heap) (n0 : Nat)  :
    MetFree l (⟨"com/example/platemark/platemark/records/Iso2709DigitsPinLaw", "mk", "(I)B"⟩ : MethodName) (head1 (Jvm.Cond.code (⟨"com/example/platemark/platemark/records/Iso2709DigitsPinLaw", "mk", "(I)B"⟩ : MethodName) method_2_code 1 (some .byte) :: ws) ({ frames := 0, cells := 0, slots := 0, locals := 0 } : Room)) (fun a U => a = #[(.int p0)] ∧ Z.Warmed39 U.vm ∧ U.heap = h0) (fun _ _ _ _ _ => True) (fun _ U o U' => ∃ v L, o = .returned v ∧ Q1 Z p0  h0 n0 v U'.heap L ∧ FrameEnd U o U' L ({ frames := 0, cells := 0, slots := 0, locals := 0 } : Room).cells ({ frames := 0, cells := 0, slots := 0, locals := 0 } : Room).slots) := by
  refine MetFree.of_bodySF (plainFor_of_name pn_1) hisR ?_
  intro p e s m args below meth c s₁ Bd hml0 hP hK
  obtain ⟨rfl, hZ, hh⟩ := hP
  have hx := Bd.exec
  have hby := Bd.bytes
  have hml : c.maxLocals = 1 := hml0
  have hown : s.vm.findClass "com/example/platemark/platemark/records/Iso2709DigitsPinLaw" = some m.cls := findClass_of_methodNamed Bd.named
  have hnm := (name_of_methodNamed Bd.named Bd.method).1
  have X0 : Stand p l e ({ frames := 0, cells := 0, slots := 0, locals := 0 } : Room) s m #[(.int p0)] below meth c s₁ [] 0 0 := Stand.of_body Bd
  have e0 : s₁.heap = h0 := by rw [← hh, Bd.state]; rfl
  have N0 := Fr.nil n0
  refine own_go (B := (s₁.setTop (mkF m 0 #[.val (.int p0)] []))) (fun t k => castTop (ef_1 m p0) k) ?_
  refine own_go (B := (s₁.setTop (mkF m 1 #[.val (.int p0)] [(.int p0)]))) (fun t k => XS.iloadN X0.here hx rfl (hb hby d1_0) rfl k) ?_
  refine own_go (B := (s₁.setTop (mkF m 4 #[.val (.int p0)] [(.int (256 : Int32)), (.int p0)]))) (fun t k => XS.sipush X0.here hx rfl (hb hby d1_1) k) ?_
  refine own_go (B := (s₁.setTop (mkF m 5 #[.val (.int p0)] [(.int (p0 &&& (256 : Int32)))]))) (fun t k => XS.iand X0.here hx rfl (hb hby d1_4) rfl k) ?_
  by_cases hc5 : (p0 &&& (256 : Int32)) = (0 : Int32)
  · refine own_go (B := (s₁.setTop (mkF m 21 #[.val (.int p0)] []))) (fun t k => XS.ifYes X0.here hx rfl (pc0 := 5) (pc' := 21) rfl (hb hby d1_5) rfl ((if0 _ _).trans (teq hc5).1) (by decide) (by decide) k) ?_
    refine own_go (B := (s₁.setTop (mkF m 22 #[.val (.int p0)] [(.int p0)]))) (fun t k => XS.iloadN X0.here hx rfl (hb hby d1_21) rfl k) ?_
    refine own_go (B := (s₁.setTop (mkF m 23 #[.val (.int p0)] [(.int (p0.toInt8.toInt32))]))) (fun t k => XS.i2b X0.here hx rfl (hb hby d1_22) rfl k) ?_
    obtain ⟨fs, hr, hrun, hended, hW, hsame⟩ := X0.leave (v := some (.int (nar .byte (p0.toInt8.toInt32)))) (fun h => by rw [Bd.returns] at h; cases h)
    exact ⟨_, _, retN X0 hx (t := .byte) Bd.returns (by simp) (hb hby d1_23) hr, hrun, hended, _, _, rfl, ⟨congrArg (fun z => some (Value.int z)) (by simp only [F1, if_pos hc5]), N0, e0⟩, ⟨_, rfl⟩, hW, hsame.mono (by decide) (by decide)⟩
  · refine own_go (B := (s₁.setTop (mkF m 8 #[.val (.int p0)] []))) (fun t k => XS.ifNo X0.here hx rfl (hb hby d1_5) rfl ((if0 _ _).trans (feq hc5).1) k) ?_
    refine own_go (B := (s₁.setTop (mkF m 10 #[.val (.int p0)] [(.int (48 : Int32))]))) (fun t k => XS.bipush X0.here hx rfl (hb hby d1_8) k) ?_
    refine own_go (B := (s₁.setTop (mkF m 11 #[.val (.int p0)] [(.int p0), (.int (48 : Int32))]))) (fun t k => XS.iloadN X0.here hx rfl (hb hby d1_10) rfl k) ?_
    refine own_go (B := (s₁.setTop (mkF m 14 #[.val (.int p0)] [(.int (255 : Int32)), (.int p0), (.int (48 : Int32))]))) (fun t k => XS.sipush X0.here hx rfl (hb hby d1_11) k) ?_
    refine own_go (B := (s₁.setTop (mkF m 15 #[.val (.int p0)] [(.int (p0 &&& (255 : Int32))), (.int (48 : Int32))]))) (fun t k => XS.iand X0.here hx rfl (hb hby d1_14) rfl k) ?_
    refine own_go (B := (s₁.setTop (mkF m 17 #[.val (.int p0)] [(.int (10 : Int32)), (.int (p0 &&& (255 : Int32))), (.int (48 : Int32))]))) (fun t k => XS.bipush X0.here hx rfl (hb hby d1_15) k) ?_
    refine own_go (B := (s₁.setTop (mkF m 18 #[.val (.int p0)] [(.int ((p0 &&& (255 : Int32)) % (10 : Int32))), (.int (48 : Int32))]))) (fun t k => iremM X0 hx rfl (hb hby d1_17) rfl (by decide) k) ?_
    refine own_go (B := (s₁.setTop (mkF m 19 #[.val (.int p0)] [(.int ((48 : Int32) + ((p0 &&& (255 : Int32)) % (10 : Int32))))]))) (fun t k => XS.iadd X0.here hx rfl (hb hby d1_18) rfl k) ?_
    refine own_go (B := (s₁.setTop (mkF m 20 #[.val (.int p0)] [(.int (((48 : Int32) + ((p0 &&& (255 : Int32)) % (10 : Int32))).toInt8.toInt32))]))) (fun t k => XS.i2b X0.here hx rfl (hb hby d1_19) rfl k) ?_
    obtain ⟨fs, hr, hrun, hended, hW, hsame⟩ := X0.leave (v := some (.int (nar .byte (((48 : Int32) + ((p0 &&& (255 : Int32)) % (10 : Int32))).toInt8.toInt32)))) (fun h => by rw [Bd.returns] at h; cases h)
    exact ⟨_, _, retN X0 hx (t := .byte) Bd.returns (by simp) (hb hby d1_20) hr, hrun, hended, _, _, rfl, ⟨congrArg (fun z => some (Value.int z)) (by simp only [F1, if_neg hc5]), N0, e0⟩, ⟨_, rfl⟩, hW, hsame.mono (by decide) (by decide)⟩
theorem d3_0 : decode method_5_code 0 = .ok (.iload_n 0, 1) := by decide +kernel
theorem d3_1 : decode method_5_code 1 = .ok (.iload_n 1, 1) := by decide +kernel
theorem d3_2 : decode method_5_code 2 = .ok (.if_icmp .lt 12, 3) := by decide +kernel
theorem d3_5 : decode method_5_code 5 = .ok (.iload_n 0, 1) := by decide +kernel
theorem d3_6 : decode method_5_code 6 = .ok (.iload_n 2, 1) := by decide +kernel
theorem d3_7 : decode method_5_code 7 = .ok (.if_icmp .ge 7, 3) := by decide +kernel
theorem d3_10 : decode method_5_code 10 = .ok (.iconst 1, 1) := by decide +kernel
theorem d3_11 : decode method_5_code 11 = .ok (.goto 4, 3) := by decide +kernel
theorem d3_14 : decode method_5_code 14 = .ok (.iconst 0, 1) := by decide +kernel
theorem d3_15 : decode method_5_code 15 = .ok (.ireturn, 1) := by decide +kernel
theorem pn_3 : plainName "com/example/platemark/platemark/records/Iso2709DigitsPinLaw" = true := by first | (simp [plainName, overriddenIn]; done) | decide +kernel
theorem ef_3 (m : MethodId) (x0 : Int32) (x1 : Int32) (x2 : Int32) : entryFrame m #[(.int x0), (.int x1), (.int x2)] 3 = mkF m 0 #[.val (.int x0), .val (.int x1), .val (.int x2)] [] := by first | (simp [entryFrame, mkF, argsToLocals, Value.category]; done) | rfl
def F3 (p0 : Int32) (p1 : Int32) (p2 : Int32)  : Int32 := if p0 < p1 then (0 : Int32) else if p0 < p2 then (1 : Int32) else (0 : Int32)
def Q3 (Z : State) (p0 : Int32) (p1 : Int32) (p2 : Int32)  (h0 : Heap) (n0 : Nat) (v : Option Value) (h : Heap) (L : List Loc) : Prop := v = some (.int (F3 p0 p1 p2)) ∧ Fr n0 L ∧ h = h0
set_option maxRecDepth 65536 in
set_option maxHeartbeats 40000000 in
theorem rm3 (l : Launch) (Z : State) (ta : Array Value) (hw : ∀ d ∈ tables_1, d.before ta Z = true) (ws : List Jvm.Cond) (p0 : Int32) (p1 : Int32) (p2 : Int32)  (h0 : Heap) (n0 : Nat)  :
    MetFree l (⟨"com/example/platemark/platemark/records/Iso2709DigitsPinLaw", "inWindow", "(III)Z"⟩ : MethodName) (head1 (Jvm.Cond.code (⟨"com/example/platemark/platemark/records/Iso2709DigitsPinLaw", "inWindow", "(III)Z"⟩ : MethodName) method_5_code 3 (some .boolean) :: ws) ({ frames := 0, cells := 0, slots := 0, locals := 0 } : Room)) (fun a U => a = #[(.int p0), (.int p1), (.int p2)] ∧ Z.Warmed39 U.vm ∧ U.heap = h0) (fun _ _ _ _ _ => True) (fun _ U o U' => ∃ v L, o = .returned v ∧ Q3 Z p0 p1 p2  h0 n0 v U'.heap L ∧ FrameEnd U o U' L ({ frames := 0, cells := 0, slots := 0, locals := 0 } : Room).cells ({ frames := 0, cells := 0, slots := 0, locals := 0 } : Room).slots) := by
  refine MetFree.of_bodySF (plainFor_of_name pn_3) hisR ?_
  intro p e s m args below meth c s₁ Bd hml0 hP hK
  obtain ⟨rfl, hZ, hh⟩ := hP
  have hx := Bd.exec
  have hby := Bd.bytes
  have hml : c.maxLocals = 3 := hml0
  have hown : s.vm.findClass "com/example/platemark/platemark/records/Iso2709DigitsPinLaw" = some m.cls := findClass_of_methodNamed Bd.named
  have hnm := (name_of_methodNamed Bd.named Bd.method).1
  have X0 : Stand p l e ({ frames := 0, cells := 0, slots := 0, locals := 0 } : Room) s m #[(.int p0), (.int p1), (.int p2)] below meth c s₁ [] 0 0 := Stand.of_body Bd
  have e0 : s₁.heap = h0 := by rw [← hh, Bd.state]; rfl
  have N0 := Fr.nil n0
  refine own_go (B := (s₁.setTop (mkF m 0 #[.val (.int p0), .val (.int p1), .val (.int p2)] []))) (fun t k => castTop (ef_3 m p0 p1 p2) k) ?_
  refine own_go (B := (s₁.setTop (mkF m 1 #[.val (.int p0), .val (.int p1), .val (.int p2)] [(.int p0)]))) (fun t k => XS.iloadN X0.here hx rfl (hb hby d3_0) rfl k) ?_
  refine own_go (B := (s₁.setTop (mkF m 2 #[.val (.int p0), .val (.int p1), .val (.int p2)] [(.int p1), (.int p0)]))) (fun t k => XS.iloadN X0.here hx rfl (hb hby d3_1) rfl k) ?_
  by_cases hc2 : p0 < p1
  · refine own_go (B := (s₁.setTop (mkF m 14 #[.val (.int p0), .val (.int p1), .val (.int p2)] []))) (fun t k => XS.icmpYes X0.here hx rfl (pc0 := 2) (pc' := 14) rfl (hb hby d3_2) rfl (tlt hc2).1 (by decide) (by decide) k) ?_
    refine own_go (B := (s₁.setTop (mkF m 15 #[.val (.int p0), .val (.int p1), .val (.int p2)] [(.int (0 : Int32))]))) (fun t k => XS.iconst X0.here hx rfl (hb hby d3_14) k) ?_
    obtain ⟨fs, hr, hrun, hended, hW, hsame⟩ := X0.leave (v := some (.int (0 : Int32))) (fun h => by rw [Bd.returns] at h; cases h)
    exact ⟨_, _, retN X0 hx (t := .boolean) Bd.returns (by simp) (hb hby d3_15) hr, hrun, hended, _, _, rfl, ⟨congrArg (fun z => some (Value.int z)) (by simp only [F3, if_pos hc2]), N0, e0⟩, ⟨_, rfl⟩, hW, hsame.mono (by decide) (by decide)⟩
  · refine own_go (B := (s₁.setTop (mkF m 5 #[.val (.int p0), .val (.int p1), .val (.int p2)] []))) (fun t k => XS.icmpNo X0.here hx rfl (hb hby d3_2) rfl (flt hc2).1 k) ?_
    refine own_go (B := (s₁.setTop (mkF m 6 #[.val (.int p0), .val (.int p1), .val (.int p2)] [(.int p0)]))) (fun t k => XS.iloadN X0.here hx rfl (hb hby d3_5) rfl k) ?_
    refine own_go (B := (s₁.setTop (mkF m 7 #[.val (.int p0), .val (.int p1), .val (.int p2)] [(.int p2), (.int p0)]))) (fun t k => XS.iloadN X0.here hx rfl (hb hby d3_6) rfl k) ?_
    by_cases hc7 : p0 < p2
    · refine own_go (B := (s₁.setTop (mkF m 10 #[.val (.int p0), .val (.int p1), .val (.int p2)] []))) (fun t k => XS.icmpNo X0.here hx rfl (hb hby d3_7) rfl (tlt hc7).2.1 k) ?_
      refine own_go (B := (s₁.setTop (mkF m 11 #[.val (.int p0), .val (.int p1), .val (.int p2)] [(.int (1 : Int32))]))) (fun t k => XS.iconst X0.here hx rfl (hb hby d3_10) k) ?_
      refine own_go (B := (s₁.setTop (mkF m 15 #[.val (.int p0), .val (.int p1), .val (.int p2)] [(.int (1 : Int32))]))) (fun t k => XS.goto X0.here hx rfl (pc0 := 11) (pc' := 15) rfl (hb hby d3_11) (by decide) (by decide) k) ?_
      obtain ⟨fs, hr, hrun, hended, hW, hsame⟩ := X0.leave (v := some (.int (1 : Int32))) (fun h => by rw [Bd.returns] at h; cases h)
      exact ⟨_, _, retN X0 hx (t := .boolean) Bd.returns (by simp) (hb hby d3_15) hr, hrun, hended, _, _, rfl, ⟨congrArg (fun z => some (Value.int z)) (by simp only [F3, if_neg hc2, if_pos hc7]), N0, e0⟩, ⟨_, rfl⟩, hW, hsame.mono (by decide) (by decide)⟩
    · refine own_go (B := (s₁.setTop (mkF m 14 #[.val (.int p0), .val (.int p1), .val (.int p2)] []))) (fun t k => XS.icmpYes X0.here hx rfl (pc0 := 7) (pc' := 14) rfl (hb hby d3_7) rfl (flt hc7).2.1 (by decide) (by decide) k) ?_
      refine own_go (B := (s₁.setTop (mkF m 15 #[.val (.int p0), .val (.int p1), .val (.int p2)] [(.int (0 : Int32))]))) (fun t k => XS.iconst X0.here hx rfl (hb hby d3_14) k) ?_
      obtain ⟨fs, hr, hrun, hended, hW, hsame⟩ := X0.leave (v := some (.int (0 : Int32))) (fun h => by rw [Bd.returns] at h; cases h)
      exact ⟨_, _, retN X0 hx (t := .boolean) Bd.returns (by simp) (hb hby d3_15) hr, hrun, hended, _, _, rfl, ⟨congrArg (fun z => some (Value.int z)) (by simp only [F3, if_neg hc2, if_neg hc7]), N0, e0⟩, ⟨_, rfl⟩, hW, hsame.mono (by decide) (by decide)⟩
theorem d6_0 : decode method_3_code 0 = .ok (.iload_n 0, 1) := by decide +kernel
theorem d6_1 : decode method_3_code 1 = .ok (.bipush 48, 2) := by decide +kernel
theorem d6_3 : decode method_3_code 3 = .ok (.if_icmp .lt 14, 3) := by decide +kernel
theorem d6_6 : decode method_3_code 6 = .ok (.iload_n 0, 1) := by decide +kernel
theorem d6_7 : decode method_3_code 7 = .ok (.bipush 57, 2) := by decide +kernel
theorem d6_9 : decode method_3_code 9 = .ok (.if_icmp .gt 8, 3) := by decide +kernel
theorem d6_12 : decode method_3_code 12 = .ok (.iload_n 0, 1) := by decide +kernel
theorem d6_13 : decode method_3_code 13 = .ok (.bipush 48, 2) := by decide +kernel
theorem d6_15 : decode method_3_code 15 = .ok (.isub, 1) := by decide +kernel
theorem d6_16 : decode method_3_code 16 = .ok (.ireturn, 1) := by decide +kernel
theorem d6_17 : decode method_3_code 17 = .ok (.iconst (-1), 1) := by decide +kernel
theorem d6_18 : decode method_3_code 18 = .ok (.ireturn, 1) := by decide +kernel
theorem pn_6 : plainName "com/example/platemark/platemark/records/Iso2709DigitsPinLaw" = true := by first | (simp [plainName, overriddenIn]; done) | decide +kernel
theorem ef_6 (m : MethodId) (x0 : Int32) : entryFrame m #[(.int x0)] 1 = mkF m 0 #[.val (.int x0)] [] := by first | (simp [entryFrame, mkF, argsToLocals, Value.category]; done) | rfl
def F6 (p0 : Int32)  : Int32 := if p0 < (48 : Int32) then (-1 : Int32) else if (57 : Int32) < p0 then (-1 : Int32) else (p0 - (48 : Int32))
def Q6 (Z : State) (p0 : Int32)  (h0 : Heap) (n0 : Nat) (v : Option Value) (h : Heap) (L : List Loc) : Prop := v = some (.int (F6 p0)) ∧ Fr n0 L ∧ h = h0
set_option maxRecDepth 65536 in
set_option maxHeartbeats 40000000 in
theorem rm6 (l : Launch) (Z : State) (ta : Array Value) (hw : ∀ d ∈ tables_1, d.before ta Z = true) (ws : List Jvm.Cond) (p0 : Int32)  (h0 : Heap) (n0 : Nat)  :
    MetFree l (⟨"com/example/platemark/platemark/records/Iso2709DigitsPinLaw", "dig", "(B)I"⟩ : MethodName) (head1 (Jvm.Cond.code (⟨"com/example/platemark/platemark/records/Iso2709DigitsPinLaw", "dig", "(B)I"⟩ : MethodName) method_3_code 1 (some .int) :: ws) ({ frames := 0, cells := 0, slots := 0, locals := 0 } : Room)) (fun a U => a = #[(.int p0)] ∧ Z.Warmed39 U.vm ∧ U.heap = h0) (fun _ _ _ _ _ => True) (fun _ U o U' => ∃ v L, o = .returned v ∧ Q6 Z p0  h0 n0 v U'.heap L ∧ FrameEnd U o U' L ({ frames := 0, cells := 0, slots := 0, locals := 0 } : Room).cells ({ frames := 0, cells := 0, slots := 0, locals := 0 } : Room).slots) := by
  refine MetFree.of_bodySF (plainFor_of_name pn_6) hisR ?_
  intro p e s m args below meth c s₁ Bd hml0 hP hK
  obtain ⟨rfl, hZ, hh⟩ := hP
  have hx := Bd.exec
  have hby := Bd.bytes
  have hml : c.maxLocals = 1 := hml0
  have hown : s.vm.findClass "com/example/platemark/platemark/records/Iso2709DigitsPinLaw" = some m.cls := findClass_of_methodNamed Bd.named
  have hnm := (name_of_methodNamed Bd.named Bd.method).1
  have X0 : Stand p l e ({ frames := 0, cells := 0, slots := 0, locals := 0 } : Room) s m #[(.int p0)] below meth c s₁ [] 0 0 := Stand.of_body Bd
  have e0 : s₁.heap = h0 := by rw [← hh, Bd.state]; rfl
  have N0 := Fr.nil n0
  refine own_go (B := (s₁.setTop (mkF m 0 #[.val (.int p0)] []))) (fun t k => castTop (ef_6 m p0) k) ?_
  refine own_go (B := (s₁.setTop (mkF m 1 #[.val (.int p0)] [(.int p0)]))) (fun t k => XS.iloadN X0.here hx rfl (hb hby d6_0) rfl k) ?_
  refine own_go (B := (s₁.setTop (mkF m 3 #[.val (.int p0)] [(.int (48 : Int32)), (.int p0)]))) (fun t k => XS.bipush X0.here hx rfl (hb hby d6_1) k) ?_
  by_cases hc3 : p0 < (48 : Int32)
  · refine own_go (B := (s₁.setTop (mkF m 17 #[.val (.int p0)] []))) (fun t k => XS.icmpYes X0.here hx rfl (pc0 := 3) (pc' := 17) rfl (hb hby d6_3) rfl (tlt hc3).1 (by decide) (by decide) k) ?_
    refine own_go (B := (s₁.setTop (mkF m 18 #[.val (.int p0)] [(.int (-1 : Int32))]))) (fun t k => XS.iconst X0.here hx rfl (hb hby d6_17) k) ?_
    obtain ⟨fs, hr, hrun, hended, hW, hsame⟩ := X0.leave (v := some (.int (-1 : Int32))) (fun h => by rw [Bd.returns] at h; cases h)
    exact ⟨_, _, retI X0 hx Bd.returns (hb hby d6_18) hr, hrun, hended, _, _, rfl, ⟨congrArg (fun z => some (Value.int z)) (by simp only [F6, if_pos hc3]), N0, e0⟩, ⟨_, rfl⟩, hW, hsame.mono (by decide) (by decide)⟩
  · refine own_go (B := (s₁.setTop (mkF m 6 #[.val (.int p0)] []))) (fun t k => XS.icmpNo X0.here hx rfl (hb hby d6_3) rfl (flt hc3).1 k) ?_
    refine own_go (B := (s₁.setTop (mkF m 7 #[.val (.int p0)] [(.int p0)]))) (fun t k => XS.iloadN X0.here hx rfl (hb hby d6_6) rfl k) ?_
    refine own_go (B := (s₁.setTop (mkF m 9 #[.val (.int p0)] [(.int (57 : Int32)), (.int p0)]))) (fun t k => XS.bipush X0.here hx rfl (hb hby d6_7) k) ?_
    by_cases hc9 : (57 : Int32) < p0
    · refine own_go (B := (s₁.setTop (mkF m 17 #[.val (.int p0)] []))) (fun t k => XS.icmpYes X0.here hx rfl (pc0 := 9) (pc' := 17) rfl (hb hby d6_9) rfl (tlt hc9).2.2.1 (by decide) (by decide) k) ?_
      refine own_go (B := (s₁.setTop (mkF m 18 #[.val (.int p0)] [(.int (-1 : Int32))]))) (fun t k => XS.iconst X0.here hx rfl (hb hby d6_17) k) ?_
      obtain ⟨fs, hr, hrun, hended, hW, hsame⟩ := X0.leave (v := some (.int (-1 : Int32))) (fun h => by rw [Bd.returns] at h; cases h)
      exact ⟨_, _, retI X0 hx Bd.returns (hb hby d6_18) hr, hrun, hended, _, _, rfl, ⟨congrArg (fun z => some (Value.int z)) (by simp only [F6, if_neg hc3, if_pos hc9]), N0, e0⟩, ⟨_, rfl⟩, hW, hsame.mono (by decide) (by decide)⟩
    · refine own_go (B := (s₁.setTop (mkF m 12 #[.val (.int p0)] []))) (fun t k => XS.icmpNo X0.here hx rfl (hb hby d6_9) rfl (flt hc9).2.2.1 k) ?_
      refine own_go (B := (s₁.setTop (mkF m 13 #[.val (.int p0)] [(.int p0)]))) (fun t k => XS.iloadN X0.here hx rfl (hb hby d6_12) rfl k) ?_
      refine own_go (B := (s₁.setTop (mkF m 15 #[.val (.int p0)] [(.int (48 : Int32)), (.int p0)]))) (fun t k => XS.bipush X0.here hx rfl (hb hby d6_13) k) ?_
      refine own_go (B := (s₁.setTop (mkF m 16 #[.val (.int p0)] [(.int (p0 - (48 : Int32)))]))) (fun t k => XS.isub X0.here hx rfl (hb hby d6_15) rfl k) ?_
      obtain ⟨fs, hr, hrun, hended, hW, hsame⟩ := X0.leave (v := some (.int (p0 - (48 : Int32)))) (fun h => by rw [Bd.returns] at h; cases h)
      exact ⟨_, _, retI X0 hx Bd.returns (hb hby d6_16) hr, hrun, hended, _, _, rfl, ⟨congrArg (fun z => some (Value.int z)) (by simp only [F6, if_neg hc3, if_neg hc9]), N0, e0⟩, ⟨_, rfl⟩, hW, hsame.mono (by decide) (by decide)⟩
theorem d7_0 : decode method_4_code 0 = .ok (.iload_n 0, 1) := by decide +kernel
theorem d7_1 : decode method_4_code 1 = .ok (.ifCond .ne 5, 3) := by decide +kernel
theorem d7_4 : decode method_4_code 4 = .ok (.iconst 1, 1) := by decide +kernel
theorem d7_5 : decode method_4_code 5 = .ok (.ireturn, 1) := by decide +kernel
theorem d7_6 : decode method_4_code 6 = .ok (.iload_n 0, 1) := by decide +kernel
theorem d7_7 : decode method_4_code 7 = .ok (.iconst 1, 1) := by decide +kernel
theorem d7_8 : decode method_4_code 8 = .ok (.if_icmp .ne 6, 3) := by decide +kernel
theorem d7_11 : decode method_4_code 11 = .ok (.bipush 10, 2) := by decide +kernel
theorem d7_13 : decode method_4_code 13 = .ok (.ireturn, 1) := by decide +kernel
theorem d7_14 : decode method_4_code 14 = .ok (.iload_n 0, 1) := by decide +kernel
theorem d7_15 : decode method_4_code 15 = .ok (.iconst 2, 1) := by decide +kernel
theorem d7_16 : decode method_4_code 16 = .ok (.if_icmp .ne 6, 3) := by decide +kernel
theorem d7_19 : decode method_4_code 19 = .ok (.bipush 100, 2) := by decide +kernel
theorem d7_21 : decode method_4_code 21 = .ok (.ireturn, 1) := by decide +kernel
theorem d7_22 : decode method_4_code 22 = .ok (.iload_n 0, 1) := by decide +kernel
theorem d7_23 : decode method_4_code 23 = .ok (.iconst 3, 1) := by decide +kernel
theorem d7_24 : decode method_4_code 24 = .ok (.if_icmp .ne 7, 3) := by decide +kernel
theorem d7_27 : decode method_4_code 27 = .ok (.sipush 1000, 3) := by decide +kernel
theorem d7_30 : decode method_4_code 30 = .ok (.ireturn, 1) := by decide +kernel
theorem d7_31 : decode method_4_code 31 = .ok (.sipush 10000, 3) := by decide +kernel
theorem d7_34 : decode method_4_code 34 = .ok (.ireturn, 1) := by decide +kernel
theorem pn_7 : plainName "com/example/platemark/platemark/records/Iso2709DigitsPinLaw" = true := by first | (simp [plainName, overriddenIn]; done) | decide +kernel
theorem ef_7 (m : MethodId) (x0 : Int32) : entryFrame m #[(.int x0)] 1 = mkF m 0 #[.val (.int x0)] [] := by first | (simp [entryFrame, mkF, argsToLocals, Value.category]; done) | rfl
def F7 (p0 : Int32)  : Int32 := if p0 = (0 : Int32) then (1 : Int32) else if p0 = (1 : Int32) then (10 : Int32) else if p0 = (2 : Int32) then (100 : Int32) else if p0 = (3 : Int32) then (1000 : Int32) else (10000 : Int32)
def Q7 (Z : State) (p0 : Int32)  (h0 : Heap) (n0 : Nat) (v : Option Value) (h : Heap) (L : List Loc) : Prop := v = some (.int (F7 p0)) ∧ Fr n0 L ∧ h = h0
set_option maxRecDepth 65536 in
set_option maxHeartbeats 40000000 in
theorem rm7 (l : Launch) (Z : State) (ta : Array Value) (hw : ∀ d ∈ tables_1, d.before ta Z = true) (ws : List Jvm.Cond) (p0 : Int32)  (h0 : Heap) (n0 : Nat)  :
    MetFree l (⟨"com/example/platemark/platemark/records/Iso2709DigitsPinLaw", "pow10", "(I)I"⟩ : MethodName) (head1 (Jvm.Cond.code (⟨"com/example/platemark/platemark/records/Iso2709DigitsPinLaw", "pow10", "(I)I"⟩ : MethodName) method_4_code 1 (some .int) :: ws) ({ frames := 0, cells := 0, slots := 0, locals := 0 } : Room)) (fun a U => a = #[(.int p0)] ∧ Z.Warmed39 U.vm ∧ U.heap = h0) (fun _ _ _ _ _ => True) (fun _ U o U' => ∃ v L, o = .returned v ∧ Q7 Z p0  h0 n0 v U'.heap L ∧ FrameEnd U o U' L ({ frames := 0, cells := 0, slots := 0, locals := 0 } : Room).cells ({ frames := 0, cells := 0, slots := 0, locals := 0 } : Room).slots) := by
  refine MetFree.of_bodySF (plainFor_of_name pn_7) hisR ?_
  intro p e s m args below meth c s₁ Bd hml0 hP hK
  obtain ⟨rfl, hZ, hh⟩ := hP
  have hx := Bd.exec
  have hby := Bd.bytes
  have hml : c.maxLocals = 1 := hml0
  have hown : s.vm.findClass "com/example/platemark/platemark/records/Iso2709DigitsPinLaw" = some m.cls := findClass_of_methodNamed Bd.named
  have hnm := (name_of_methodNamed Bd.named Bd.method).1
  have X0 : Stand p l e ({ frames := 0, cells := 0, slots := 0, locals := 0 } : Room) s m #[(.int p0)] below meth c s₁ [] 0 0 := Stand.of_body Bd
  have e0 : s₁.heap = h0 := by rw [← hh, Bd.state]; rfl
  have N0 := Fr.nil n0
  refine own_go (B := (s₁.setTop (mkF m 0 #[.val (.int p0)] []))) (fun t k => castTop (ef_7 m p0) k) ?_
  refine own_go (B := (s₁.setTop (mkF m 1 #[.val (.int p0)] [(.int p0)]))) (fun t k => XS.iloadN X0.here hx rfl (hb hby d7_0) rfl k) ?_
  by_cases hc1 : p0 = (0 : Int32)
  · refine own_go (B := (s₁.setTop (mkF m 4 #[.val (.int p0)] []))) (fun t k => XS.ifNo X0.here hx rfl (hb hby d7_1) rfl ((if0 _ _).trans (teq hc1).2) k) ?_
    refine own_go (B := (s₁.setTop (mkF m 5 #[.val (.int p0)] [(.int (1 : Int32))]))) (fun t k => XS.iconst X0.here hx rfl (hb hby d7_4) k) ?_
    obtain ⟨fs, hr, hrun, hended, hW, hsame⟩ := X0.leave (v := some (.int (1 : Int32))) (fun h => by rw [Bd.returns] at h; cases h)
    exact ⟨_, _, retI X0 hx Bd.returns (hb hby d7_5) hr, hrun, hended, _, _, rfl, ⟨congrArg (fun z => some (Value.int z)) (by simp only [F7, if_pos hc1]), N0, e0⟩, ⟨_, rfl⟩, hW, hsame.mono (by decide) (by decide)⟩
  · refine own_go (B := (s₁.setTop (mkF m 6 #[.val (.int p0)] []))) (fun t k => XS.ifYes X0.here hx rfl (pc0 := 1) (pc' := 6) rfl (hb hby d7_1) rfl ((if0 _ _).trans (feq hc1).2) (by decide) (by decide) k) ?_
    refine own_go (B := (s₁.setTop (mkF m 7 #[.val (.int p0)] [(.int p0)]))) (fun t k => XS.iloadN X0.here hx rfl (hb hby d7_6) rfl k) ?_
    refine own_go (B := (s₁.setTop (mkF m 8 #[.val (.int p0)] [(.int (1 : Int32)), (.int p0)]))) (fun t k => XS.iconst X0.here hx rfl (hb hby d7_7) k) ?_
    by_cases hc8 : p0 = (1 : Int32)
    · refine own_go (B := (s₁.setTop (mkF m 11 #[.val (.int p0)] []))) (fun t k => XS.icmpNo X0.here hx rfl (hb hby d7_8) rfl (teq hc8).2 k) ?_
      refine own_go (B := (s₁.setTop (mkF m 13 #[.val (.int p0)] [(.int (10 : Int32))]))) (fun t k => XS.bipush X0.here hx rfl (hb hby d7_11) k) ?_
      obtain ⟨fs, hr, hrun, hended, hW, hsame⟩ := X0.leave (v := some (.int (10 : Int32))) (fun h => by rw [Bd.returns] at h; cases h)
      exact ⟨_, _, retI X0 hx Bd.returns (hb hby d7_13) hr, hrun, hended, _, _, rfl, ⟨congrArg (fun z => some (Value.int z)) (by simp only [F7, if_neg hc1, if_pos hc8]), N0, e0⟩, ⟨_, rfl⟩, hW, hsame.mono (by decide) (by decide)⟩
    · refine own_go (B := (s₁.setTop (mkF m 14 #[.val (.int p0)] []))) (fun t k => XS.icmpYes X0.here hx rfl (pc0 := 8) (pc' := 14) rfl (hb hby d7_8) rfl (feq hc8).2 (by decide) (by decide) k) ?_
      refine own_go (B := (s₁.setTop (mkF m 15 #[.val (.int p0)] [(.int p0)]))) (fun t k => XS.iloadN X0.here hx rfl (hb hby d7_14) rfl k) ?_
      refine own_go (B := (s₁.setTop (mkF m 16 #[.val (.int p0)] [(.int (2 : Int32)), (.int p0)]))) (fun t k => XS.iconst X0.here hx rfl (hb hby d7_15) k) ?_
      by_cases hc16 : p0 = (2 : Int32)
      · refine own_go (B := (s₁.setTop (mkF m 19 #[.val (.int p0)] []))) (fun t k => XS.icmpNo X0.here hx rfl (hb hby d7_16) rfl (teq hc16).2 k) ?_
        refine own_go (B := (s₁.setTop (mkF m 21 #[.val (.int p0)] [(.int (100 : Int32))]))) (fun t k => XS.bipush X0.here hx rfl (hb hby d7_19) k) ?_
        obtain ⟨fs, hr, hrun, hended, hW, hsame⟩ := X0.leave (v := some (.int (100 : Int32))) (fun h => by rw [Bd.returns] at h; cases h)
        exact ⟨_, _, retI X0 hx Bd.returns (hb hby d7_21) hr, hrun, hended, _, _, rfl, ⟨congrArg (fun z => some (Value.int z)) (by simp only [F7, if_neg hc1, if_neg hc8, if_pos hc16]), N0, e0⟩, ⟨_, rfl⟩, hW, hsame.mono (by decide) (by decide)⟩
      · refine own_go (B := (s₁.setTop (mkF m 22 #[.val (.int p0)] []))) (fun t k => XS.icmpYes X0.here hx rfl (pc0 := 16) (pc' := 22) rfl (hb hby d7_16) rfl (feq hc16).2 (by decide) (by decide) k) ?_
        refine own_go (B := (s₁.setTop (mkF m 23 #[.val (.int p0)] [(.int p0)]))) (fun t k => XS.iloadN X0.here hx rfl (hb hby d7_22) rfl k) ?_
        refine own_go (B := (s₁.setTop (mkF m 24 #[.val (.int p0)] [(.int (3 : Int32)), (.int p0)]))) (fun t k => XS.iconst X0.here hx rfl (hb hby d7_23) k) ?_
        by_cases hc24 : p0 = (3 : Int32)
        · refine own_go (B := (s₁.setTop (mkF m 27 #[.val (.int p0)] []))) (fun t k => XS.icmpNo X0.here hx rfl (hb hby d7_24) rfl (teq hc24).2 k) ?_
          refine own_go (B := (s₁.setTop (mkF m 30 #[.val (.int p0)] [(.int (1000 : Int32))]))) (fun t k => XS.sipush X0.here hx rfl (hb hby d7_27) k) ?_
          obtain ⟨fs, hr, hrun, hended, hW, hsame⟩ := X0.leave (v := some (.int (1000 : Int32))) (fun h => by rw [Bd.returns] at h; cases h)
          exact ⟨_, _, retI X0 hx Bd.returns (hb hby d7_30) hr, hrun, hended, _, _, rfl, ⟨congrArg (fun z => some (Value.int z)) (by simp only [F7, if_neg hc1, if_neg hc8, if_neg hc16, if_pos hc24]), N0, e0⟩, ⟨_, rfl⟩, hW, hsame.mono (by decide) (by decide)⟩
        · refine own_go (B := (s₁.setTop (mkF m 31 #[.val (.int p0)] []))) (fun t k => XS.icmpYes X0.here hx rfl (pc0 := 24) (pc' := 31) rfl (hb hby d7_24) rfl (feq hc24).2 (by decide) (by decide) k) ?_
          refine own_go (B := (s₁.setTop (mkF m 34 #[.val (.int p0)] [(.int (10000 : Int32))]))) (fun t k => XS.sipush X0.here hx rfl (hb hby d7_31) k) ?_
          obtain ⟨fs, hr, hrun, hended, hW, hsame⟩ := X0.leave (v := some (.int (10000 : Int32))) (fun h => by rw [Bd.returns] at h; cases h)
          exact ⟨_, _, retI X0 hx Bd.returns (hb hby d7_34) hr, hrun, hended, _, _, rfl, ⟨congrArg (fun z => some (Value.int z)) (by simp only [F7, if_neg hc1, if_neg hc8, if_neg hc16, if_neg hc24]), N0, e0⟩, ⟨_, rfl⟩, hW, hsame.mono (by decide) (by decide)⟩
theorem d2_0 : decode method_6_code 0 = .ok (.iload_n 1, 1) := by decide +kernel
theorem d2_1 : decode method_6_code 1 = .ok (.iload_n 2, 1) := by decide +kernel
theorem d2_2 : decode method_6_code 2 = .ok (.iload_n 3, 1) := by decide +kernel
theorem d2_3 : decode method_6_code 3 = .ok (.invokestatic 7, 3) := by decide +kernel
theorem d2_6 : decode method_6_code 6 = .ok (.ifCond .eq 14, 3) := by decide +kernel
theorem d2_9 : decode method_6_code 9 = .ok (.iload_n 0, 1) := by decide +kernel
theorem d2_10 : decode method_6_code 10 = .ok (.invokestatic 13, 3) := by decide +kernel
theorem d2_13 : decode method_6_code 13 = .ok (.ifCond .ge 7, 3) := by decide +kernel
theorem d2_16 : decode method_6_code 16 = .ok (.iconst 1, 1) := by decide +kernel
theorem d2_17 : decode method_6_code 17 = .ok (.goto 4, 3) := by decide +kernel
theorem d2_20 : decode method_6_code 20 = .ok (.iconst 0, 1) := by decide +kernel
theorem d2_21 : decode method_6_code 21 = .ok (.ireturn, 1) := by decide +kernel
theorem pn_2 : plainName "com/example/platemark/platemark/records/Iso2709DigitsPinLaw" = true := by first | (simp [plainName, overriddenIn]; done) | decide +kernel
theorem pd_2_0 : parseMethodDescriptor "(III)Z" = some ⟨[.int, .int, .int], some .boolean⟩ := by decide +kernel
theorem pd_2_1 : parseMethodDescriptor "(B)I" = some ⟨[.byte], some .int⟩ := by decide +kernel
theorem ef_2 (m : MethodId) (x0 : Int32) (x1 : Int32) (x2 : Int32) (x3 : Int32) : entryFrame m #[(.int x0), (.int x1), (.int x2), (.int x3)] 4 = mkF m 0 #[.val (.int x0), .val (.int x1), .val (.int x2), .val (.int x3)] [] := by first | (simp [entryFrame, mkF, argsToLocals, Value.category]; done) | rfl
def F2 (p0 : Int32) (p1 : Int32) (p2 : Int32) (p3 : Int32)  : Int32 := if (F3 p1 p2 p3) = (0 : Int32) then (0 : Int32) else if (F6 p0) < (0 : Int32) then (1 : Int32) else (0 : Int32)
def Q2 (Z : State) (p0 : Int32) (p1 : Int32) (p2 : Int32) (p3 : Int32)  (h0 : Heap) (n0 : Nat) (v : Option Value) (h : Heap) (L : List Loc) : Prop := v = some (.int (F2 p0 p1 p2 p3)) ∧ Fr n0 L ∧ h = h0
set_option maxRecDepth 65536 in
set_option maxHeartbeats 40000000 in
theorem rm2 (l : Launch) (Z : State) (ta : Array Value) (hw : ∀ d ∈ tables_1, d.before ta Z = true) (ws : List Jvm.Cond) (p0 : Int32) (p1 : Int32) (p2 : Int32) (p3 : Int32)  (h0 : Heap) (n0 : Nat)  :
    MetFree l (⟨"com/example/platemark/platemark/records/Iso2709DigitsPinLaw", "bad", "(BIII)Z"⟩ : MethodName) (head1 (Jvm.Cond.code (⟨"com/example/platemark/platemark/records/Iso2709DigitsPinLaw", "bad", "(BIII)Z"⟩ : MethodName) method_6_code 4 (some .boolean) :: ws) ({ frames := 1, cells := 0, slots := 0, locals := 14 } : Room)) (fun a U => a = #[(.int p0), (.int p1), (.int p2), (.int p3)] ∧ Z.Warmed39 U.vm ∧ U.heap = h0) (fun _ _ _ _ _ => True) (fun _ U o U' => ∃ v L, o = .returned v ∧ Q2 Z p0 p1 p2 p3  h0 n0 v U'.heap L ∧ FrameEnd U o U' L ({ frames := 1, cells := 0, slots := 0, locals := 14 } : Room).cells ({ frames := 1, cells := 0, slots := 0, locals := 14 } : Room).slots) := by
  refine MetFree.of_bodySF (plainFor_of_name pn_2) hisR ?_
  intro p e s m args below meth c s₁ Bd hml0 hP hK
  obtain ⟨rfl, hZ, hh⟩ := hP
  have hx := Bd.exec
  have hby := Bd.bytes
  have hml : c.maxLocals = 4 := hml0
  have hown : s.vm.findClass "com/example/platemark/platemark/records/Iso2709DigitsPinLaw" = some m.cls := findClass_of_methodNamed Bd.named
  have hnm := (name_of_methodNamed Bd.named Bd.method).1
  have X0 : Stand p l e ({ frames := 1, cells := 0, slots := 0, locals := 14 } : Room) s m #[(.int p0), (.int p1), (.int p2), (.int p3)] below meth c s₁ [] 0 0 := Stand.of_body Bd
  have e0 : s₁.heap = h0 := by rw [← hh, Bd.state]; rfl
  have N0 := Fr.nil n0
  refine own_go (B := (s₁.setTop (mkF m 0 #[.val (.int p0), .val (.int p1), .val (.int p2), .val (.int p3)] []))) (fun t k => castTop (ef_2 m p0 p1 p2 p3) k) ?_
  refine own_go (B := (s₁.setTop (mkF m 1 #[.val (.int p0), .val (.int p1), .val (.int p2), .val (.int p3)] [(.int p1)]))) (fun t k => XS.iloadN X0.here hx rfl (hb hby d2_0) rfl k) ?_
  refine own_go (B := (s₁.setTop (mkF m 2 #[.val (.int p0), .val (.int p1), .val (.int p2), .val (.int p3)] [(.int p2), (.int p1)]))) (fun t k => XS.iloadN X0.here hx rfl (hb hby d2_1) rfl k) ?_
  refine own_go (B := (s₁.setTop (mkF m 3 #[.val (.int p0), .val (.int p1), .val (.int p2), .val (.int p3)] [(.int p3), (.int p2), (.int p1)]))) (fun t k => XS.iloadN X0.here hx rfl (hb hby d2_2) rfl k) ?_
  obtain ⟨_, _, ⟨T1, L1, k1, n1⟩, -, X1, ⟨Lc1, hQ1, l1, y1, z1⟩, st1⟩ := Jvm.LawKit.callS X0 hx (y := (⟨"com/example/platemark/platemark/records/Iso2709DigitsPinLaw", "inWindow", "(III)Z"⟩ : MethodName)) hown (mvT hZ (hw _ (List.mem_of_getElem? (i := 8) rfl))) (mvT hZ (hw _ (List.mem_of_getElem? (i := 9) rfl))) (mvT hZ (hw _ (List.mem_of_getElem? (i := 3) rfl))) (mvT hZ (hw _ (List.mem_of_getElem? (i := 10) rfl))) (by decide) (backOf (W := 0) (rm3 l Z ta hw [] p1 p2 p3  h0 n0 ) hZ (hw _ (List.mem_of_getElem? (i := 10) rfl)) (hw _ (List.mem_of_getElem? (i := 3) rfl)) (by decide) (by decide)) (g := (mkF m 3 #[.val (.int p0), .val (.int p1), .val (.int p2), .val (.int p3)] [(.int p3), (.int p2), (.int p1)])) rfl (by rw [hml]; rfl) (argsL := [(.int p1), (.int p2), (.int p3)]) (rest := []) (lenOf pd_2_0 rfl) rfl (by show 2 * 0 + _ ≤ _; exact Nat.le_of_eq rfl) (hb hby d2_3) (fun _ _ => ⟨rfl, e0, (by decide : 0 + 0 ≤ _), (by decide : 0 + 0 ≤ _)⟩)
  dsimp only [Pt.U, Pt.locs, Pt.cells, Pt.slots] at X1 l1 y1 z1 st1 hQ1
  subst l1 y1 z1
  obtain ⟨rfl, N1q, e1⟩ := hQ1
  replace e1 := e1
  have N1 := Fr.app N0 N1q
  refine own_go (B := (T1.setTop (mkF m 6 #[.val (.int p0), .val (.int p1), .val (.int p2), .val (.int p3)] [(.int (F3 p1 p2 p3))]))) (fun t k => st1 _ k) ?_
  by_cases hc6 : (F3 p1 p2 p3) = (0 : Int32)
  · refine own_go (B := (T1.setTop (mkF m 20 #[.val (.int p0), .val (.int p1), .val (.int p2), .val (.int p3)] []))) (fun t k => XS.ifYes X1.here hx rfl (pc0 := 6) (pc' := 20) rfl (hb hby d2_6) rfl ((if0 _ _).trans (teq hc6).1) (by decide) (by decide) k) ?_
    refine own_go (B := (T1.setTop (mkF m 21 #[.val (.int p0), .val (.int p1), .val (.int p2), .val (.int p3)] [(.int (0 : Int32))]))) (fun t k => XS.iconst X1.here hx rfl (hb hby d2_20) k) ?_
    obtain ⟨fs, hr, hrun, hended, hW, hsame⟩ := X1.leave (v := some (.int (0 : Int32))) (fun h => by rw [Bd.returns] at h; cases h)
    exact ⟨_, _, retN X1 hx (t := .boolean) Bd.returns (by simp) (hb hby d2_21) hr, hrun, hended, _, _, rfl, ⟨congrArg (fun z => some (Value.int z)) (by simp only [F2, if_pos hc6]), N1, e1⟩, ⟨_, rfl⟩, hW, hsame.mono (by decide) (by decide)⟩
  · refine own_go (B := (T1.setTop (mkF m 9 #[.val (.int p0), .val (.int p1), .val (.int p2), .val (.int p3)] []))) (fun t k => XS.ifNo X1.here hx rfl (hb hby d2_6) rfl ((if0 _ _).trans (feq hc6).1) k) ?_
    refine own_go (B := (T1.setTop (mkF m 10 #[.val (.int p0), .val (.int p1), .val (.int p2), .val (.int p3)] [(.int p0)]))) (fun t k => XS.iloadN X1.here hx rfl (hb hby d2_9) rfl k) ?_
    obtain ⟨_, _, ⟨T2, L2, k2, n2⟩, -, X2, ⟨Lc2, hQ2, l2, y2, z2⟩, st2⟩ := Jvm.LawKit.callS X1 hx (y := (⟨"com/example/platemark/platemark/records/Iso2709DigitsPinLaw", "dig", "(B)I"⟩ : MethodName)) hown (mvT hZ (hw _ (List.mem_of_getElem? (i := 18) rfl))) (mvT hZ (hw _ (List.mem_of_getElem? (i := 19) rfl))) (mvT hZ (hw _ (List.mem_of_getElem? (i := 3) rfl))) (mvT hZ (hw _ (List.mem_of_getElem? (i := 20) rfl))) (by decide) (backOf (W := 0) (rm6 l Z ta hw [] p0  h0 n0 ) hZ (hw _ (List.mem_of_getElem? (i := 20) rfl)) (hw _ (List.mem_of_getElem? (i := 3) rfl)) (by decide) (by decide)) (g := (mkF m 10 #[.val (.int p0), .val (.int p1), .val (.int p2), .val (.int p3)] [(.int p0)])) rfl (by rw [hml]; rfl) (argsL := [(.int p0)]) (rest := []) (lenOf pd_2_1 rfl) rfl (by show 2 * 0 + _ ≤ _; exact Nat.le_of_eq rfl) (hb hby d2_10) (fun _ _ => ⟨rfl, e1, (by decide : (0 + 0) + 0 ≤ _), (by decide : (0 + 0) + 0 ≤ _)⟩)
    dsimp only [Pt.U, Pt.locs, Pt.cells, Pt.slots] at X2 l2 y2 z2 st2 hQ2
    subst l2 y2 z2
    obtain ⟨rfl, N2q, e2⟩ := hQ2
    replace e2 := e2
    have N2 := Fr.app N1 N2q
    refine own_go (B := (T2.setTop (mkF m 13 #[.val (.int p0), .val (.int p1), .val (.int p2), .val (.int p3)] [(.int (F6 p0))]))) (fun t k => st2 _ k) ?_
    by_cases hc13 : (F6 p0) < (0 : Int32)
    · refine own_go (B := (T2.setTop (mkF m 16 #[.val (.int p0), .val (.int p1), .val (.int p2), .val (.int p3)] []))) (fun t k => XS.ifNo X2.here hx rfl (hb hby d2_13) rfl ((if0 _ _).trans (tlt hc13).2.1) k) ?_
      refine own_go (B := (T2.setTop (mkF m 17 #[.val (.int p0), .val (.int p1), .val (.int p2), .val (.int p3)] [(.int (1 : Int32))]))) (fun t k => XS.iconst X2.here hx rfl (hb hby d2_16) k) ?_
      refine own_go (B := (T2.setTop (mkF m 21 #[.val (.int p0), .val (.int p1), .val (.int p2), .val (.int p3)] [(.int (1 : Int32))]))) (fun t k => XS.goto X2.here hx rfl (pc0 := 17) (pc' := 21) rfl (hb hby d2_17) (by decide) (by decide) k) ?_
      obtain ⟨fs, hr, hrun, hended, hW, hsame⟩ := X2.leave (v := some (.int (1 : Int32))) (fun h => by rw [Bd.returns] at h; cases h)
      exact ⟨_, _, retN X2 hx (t := .boolean) Bd.returns (by simp) (hb hby d2_21) hr, hrun, hended, _, _, rfl, ⟨congrArg (fun z => some (Value.int z)) (by simp only [F2, if_neg hc6, if_pos hc13]), N2, e2⟩, ⟨_, rfl⟩, hW, hsame.mono (by decide) (by decide)⟩
    · refine own_go (B := (T2.setTop (mkF m 20 #[.val (.int p0), .val (.int p1), .val (.int p2), .val (.int p3)] []))) (fun t k => XS.ifYes X2.here hx rfl (pc0 := 13) (pc' := 20) rfl (hb hby d2_13) rfl ((if0 _ _).trans (flt hc13).2.1) (by decide) (by decide) k) ?_
      refine own_go (B := (T2.setTop (mkF m 21 #[.val (.int p0), .val (.int p1), .val (.int p2), .val (.int p3)] [(.int (0 : Int32))]))) (fun t k => XS.iconst X2.here hx rfl (hb hby d2_20) k) ?_
      obtain ⟨fs, hr, hrun, hended, hW, hsame⟩ := X2.leave (v := some (.int (0 : Int32))) (fun h => by rw [Bd.returns] at h; cases h)
      exact ⟨_, _, retN X2 hx (t := .boolean) Bd.returns (by simp) (hb hby d2_21) hr, hrun, hended, _, _, rfl, ⟨congrArg (fun z => some (Value.int z)) (by simp only [F2, if_neg hc6, if_neg hc13]), N2, e2⟩, ⟨_, rfl⟩, hW, hsame.mono (by decide) (by decide)⟩
theorem d4_0 : decode method_7_code 0 = .ok (.iload_n 1, 1) := by decide +kernel
theorem d4_1 : decode method_7_code 1 = .ok (.iload_n 2, 1) := by decide +kernel
theorem d4_2 : decode method_7_code 2 = .ok (.iload_n 3, 1) := by decide +kernel
theorem d4_3 : decode method_7_code 3 = .ok (.invokestatic 7, 3) := by decide +kernel
theorem d4_6 : decode method_7_code 6 = .ok (.ifCond .ne 5, 3) := by decide +kernel
theorem d4_9 : decode method_7_code 9 = .ok (.iconst 0, 1) := by decide +kernel
theorem d4_10 : decode method_7_code 10 = .ok (.ireturn, 1) := by decide +kernel
theorem d4_11 : decode method_7_code 11 = .ok (.iload_n 0, 1) := by decide +kernel
theorem d4_12 : decode method_7_code 12 = .ok (.invokestatic 13, 3) := by decide +kernel
theorem d4_15 : decode method_7_code 15 = .ok (.iload_n 3, 1) := by decide +kernel
theorem d4_16 : decode method_7_code 16 = .ok (.iconst 1, 1) := by decide +kernel
theorem d4_17 : decode method_7_code 17 = .ok (.isub, 1) := by decide +kernel
theorem d4_18 : decode method_7_code 18 = .ok (.iload_n 1, 1) := by decide +kernel
theorem d4_19 : decode method_7_code 19 = .ok (.isub, 1) := by decide +kernel
theorem d4_20 : decode method_7_code 20 = .ok (.invokestatic 17, 3) := by decide +kernel
theorem d4_23 : decode method_7_code 23 = .ok (.imul, 1) := by decide +kernel
theorem d4_24 : decode method_7_code 24 = .ok (.ireturn, 1) := by decide +kernel
theorem pn_4 : plainName "com/example/platemark/platemark/records/Iso2709DigitsPinLaw" = true := by first | (simp [plainName, overriddenIn]; done) | decide +kernel
theorem pd_4_0 : parseMethodDescriptor "(III)Z" = some ⟨[.int, .int, .int], some .boolean⟩ := by decide +kernel
theorem pd_4_1 : parseMethodDescriptor "(B)I" = some ⟨[.byte], some .int⟩ := by decide +kernel
theorem pd_4_2 : parseMethodDescriptor "(I)I" = some ⟨[.int], some .int⟩ := by decide +kernel
theorem ef_4 (m : MethodId) (x0 : Int32) (x1 : Int32) (x2 : Int32) (x3 : Int32) : entryFrame m #[(.int x0), (.int x1), (.int x2), (.int x3)] 4 = mkF m 0 #[.val (.int x0), .val (.int x1), .val (.int x2), .val (.int x3)] [] := by first | (simp [entryFrame, mkF, argsToLocals, Value.category]; done) | rfl
def F4 (p0 : Int32) (p1 : Int32) (p2 : Int32) (p3 : Int32)  : Int32 := if (F3 p1 p2 p3) = (0 : Int32) then (0 : Int32) else ((F6 p0) * (F7 ((p3 - (1 : Int32)) - p1)))
def Q4 (Z : State) (p0 : Int32) (p1 : Int32) (p2 : Int32) (p3 : Int32)  (h0 : Heap) (n0 : Nat) (v : Option Value) (h : Heap) (L : List Loc) : Prop := v = some (.int (F4 p0 p1 p2 p3)) ∧ Fr n0 L ∧ h = h0
set_option maxRecDepth 65536 in
set_option maxHeartbeats 40000000 in
theorem rm4 (l : Launch) (Z : State) (ta : Array Value) (hw : ∀ d ∈ tables_1, d.before ta Z = true) (ws : List Jvm.Cond) (p0 : Int32) (p1 : Int32) (p2 : Int32) (p3 : Int32)  (h0 : Heap) (n0 : Nat)  :
    MetFree l (⟨"com/example/platemark/platemark/records/Iso2709DigitsPinLaw", "term", "(BIII)I"⟩ : MethodName) (head1 (Jvm.Cond.code (⟨"com/example/platemark/platemark/records/Iso2709DigitsPinLaw", "term", "(BIII)I"⟩ : MethodName) method_7_code 4 (some .int) :: ws) ({ frames := 1, cells := 0, slots := 0, locals := 14 } : Room)) (fun a U => a = #[(.int p0), (.int p1), (.int p2), (.int p3)] ∧ Z.Warmed39 U.vm ∧ U.heap = h0) (fun _ _ _ _ _ => True) (fun _ U o U' => ∃ v L, o = .returned v ∧ Q4 Z p0 p1 p2 p3  h0 n0 v U'.heap L ∧ FrameEnd U o U' L ({ frames := 1, cells := 0, slots := 0, locals := 14 } : Room).cells ({ frames := 1, cells := 0, slots := 0, locals := 14 } : Room).slots) := by
  refine MetFree.of_bodySF (plainFor_of_name pn_4) hisR ?_
  intro p e s m args below meth c s₁ Bd hml0 hP hK
  obtain ⟨rfl, hZ, hh⟩ := hP
  have hx := Bd.exec
  have hby := Bd.bytes
  have hml : c.maxLocals = 4 := hml0
  have hown : s.vm.findClass "com/example/platemark/platemark/records/Iso2709DigitsPinLaw" = some m.cls := findClass_of_methodNamed Bd.named
  have hnm := (name_of_methodNamed Bd.named Bd.method).1
  have X0 : Stand p l e ({ frames := 1, cells := 0, slots := 0, locals := 14 } : Room) s m #[(.int p0), (.int p1), (.int p2), (.int p3)] below meth c s₁ [] 0 0 := Stand.of_body Bd
  have e0 : s₁.heap = h0 := by rw [← hh, Bd.state]; rfl
  have N0 := Fr.nil n0
  refine own_go (B := (s₁.setTop (mkF m 0 #[.val (.int p0), .val (.int p1), .val (.int p2), .val (.int p3)] []))) (fun t k => castTop (ef_4 m p0 p1 p2 p3) k) ?_
  refine own_go (B := (s₁.setTop (mkF m 1 #[.val (.int p0), .val (.int p1), .val (.int p2), .val (.int p3)] [(.int p1)]))) (fun t k => XS.iloadN X0.here hx rfl (hb hby d4_0) rfl k) ?_
  refine own_go (B := (s₁.setTop (mkF m 2 #[.val (.int p0), .val (.int p1), .val (.int p2), .val (.int p3)] [(.int p2), (.int p1)]))) (fun t k => XS.iloadN X0.here hx rfl (hb hby d4_1) rfl k) ?_
  refine own_go (B := (s₁.setTop (mkF m 3 #[.val (.int p0), .val (.int p1), .val (.int p2), .val (.int p3)] [(.int p3), (.int p2), (.int p1)]))) (fun t k => XS.iloadN X0.here hx rfl (hb hby d4_2) rfl k) ?_
  obtain ⟨_, _, ⟨T1, L1, k1, n1⟩, -, X1, ⟨Lc1, hQ1, l1, y1, z1⟩, st1⟩ := Jvm.LawKit.callS X0 hx (y := (⟨"com/example/platemark/platemark/records/Iso2709DigitsPinLaw", "inWindow", "(III)Z"⟩ : MethodName)) hown (mvT hZ (hw _ (List.mem_of_getElem? (i := 8) rfl))) (mvT hZ (hw _ (List.mem_of_getElem? (i := 9) rfl))) (mvT hZ (hw _ (List.mem_of_getElem? (i := 3) rfl))) (mvT hZ (hw _ (List.mem_of_getElem? (i := 10) rfl))) (by decide) (backOf (W := 0) (rm3 l Z ta hw [] p1 p2 p3  h0 n0 ) hZ (hw _ (List.mem_of_getElem? (i := 10) rfl)) (hw _ (List.mem_of_getElem? (i := 3) rfl)) (by decide) (by decide)) (g := (mkF m 3 #[.val (.int p0), .val (.int p1), .val (.int p2), .val (.int p3)] [(.int p3), (.int p2), (.int p1)])) rfl (by rw [hml]; rfl) (argsL := [(.int p1), (.int p2), (.int p3)]) (rest := []) (lenOf pd_4_0 rfl) rfl (by show 2 * 0 + _ ≤ _; exact Nat.le_of_eq rfl) (hb hby d4_3) (fun _ _ => ⟨rfl, e0, (by decide : 0 + 0 ≤ _), (by decide : 0 + 0 ≤ _)⟩)
  dsimp only [Pt.U, Pt.locs, Pt.cells, Pt.slots] at X1 l1 y1 z1 st1 hQ1
  subst l1 y1 z1
  obtain ⟨rfl, N1q, e1⟩ := hQ1
  replace e1 := e1
  have N1 := Fr.app N0 N1q
  refine own_go (B := (T1.setTop (mkF m 6 #[.val (.int p0), .val (.int p1), .val (.int p2), .val (.int p3)] [(.int (F3 p1 p2 p3))]))) (fun t k => st1 _ k) ?_
  by_cases hc6 : (F3 p1 p2 p3) = (0 : Int32)
  · refine own_go (B := (T1.setTop (mkF m 9 #[.val (.int p0), .val (.int p1), .val (.int p2), .val (.int p3)] []))) (fun t k => XS.ifNo X1.here hx rfl (hb hby d4_6) rfl ((if0 _ _).trans (teq hc6).2) k) ?_
    refine own_go (B := (T1.setTop (mkF m 10 #[.val (.int p0), .val (.int p1), .val (.int p2), .val (.int p3)] [(.int (0 : Int32))]))) (fun t k => XS.iconst X1.here hx rfl (hb hby d4_9) k) ?_
    obtain ⟨fs, hr, hrun, hended, hW, hsame⟩ := X1.leave (v := some (.int (0 : Int32))) (fun h => by rw [Bd.returns] at h; cases h)
    exact ⟨_, _, retI X1 hx Bd.returns (hb hby d4_10) hr, hrun, hended, _, _, rfl, ⟨congrArg (fun z => some (Value.int z)) (by simp only [F4, if_pos hc6]), N1, e1⟩, ⟨_, rfl⟩, hW, hsame.mono (by decide) (by decide)⟩
  · refine own_go (B := (T1.setTop (mkF m 11 #[.val (.int p0), .val (.int p1), .val (.int p2), .val (.int p3)] []))) (fun t k => XS.ifYes X1.here hx rfl (pc0 := 6) (pc' := 11) rfl (hb hby d4_6) rfl ((if0 _ _).trans (feq hc6).2) (by decide) (by decide) k) ?_
    refine own_go (B := (T1.setTop (mkF m 12 #[.val (.int p0), .val (.int p1), .val (.int p2), .val (.int p3)] [(.int p0)]))) (fun t k => XS.iloadN X1.here hx rfl (hb hby d4_11) rfl k) ?_
    obtain ⟨_, _, ⟨T2, L2, k2, n2⟩, -, X2, ⟨Lc2, hQ2, l2, y2, z2⟩, st2⟩ := Jvm.LawKit.callS X1 hx (y := (⟨"com/example/platemark/platemark/records/Iso2709DigitsPinLaw", "dig", "(B)I"⟩ : MethodName)) hown (mvT hZ (hw _ (List.mem_of_getElem? (i := 18) rfl))) (mvT hZ (hw _ (List.mem_of_getElem? (i := 19) rfl))) (mvT hZ (hw _ (List.mem_of_getElem? (i := 3) rfl))) (mvT hZ (hw _ (List.mem_of_getElem? (i := 20) rfl))) (by decide) (backOf (W := 0) (rm6 l Z ta hw [] p0  h0 n0 ) hZ (hw _ (List.mem_of_getElem? (i := 20) rfl)) (hw _ (List.mem_of_getElem? (i := 3) rfl)) (by decide) (by decide)) (g := (mkF m 12 #[.val (.int p0), .val (.int p1), .val (.int p2), .val (.int p3)] [(.int p0)])) rfl (by rw [hml]; rfl) (argsL := [(.int p0)]) (rest := []) (lenOf pd_4_1 rfl) rfl (by show 2 * 0 + _ ≤ _; exact Nat.le_of_eq rfl) (hb hby d4_12) (fun _ _ => ⟨rfl, e1, (by decide : (0 + 0) + 0 ≤ _), (by decide : (0 + 0) + 0 ≤ _)⟩)
    dsimp only [Pt.U, Pt.locs, Pt.cells, Pt.slots] at X2 l2 y2 z2 st2 hQ2
    subst l2 y2 z2
    obtain ⟨rfl, N2q, e2⟩ := hQ2
    replace e2 := e2
    have N2 := Fr.app N1 N2q
    refine own_go (B := (T2.setTop (mkF m 15 #[.val (.int p0), .val (.int p1), .val (.int p2), .val (.int p3)] [(.int (F6 p0))]))) (fun t k => st2 _ k) ?_
    refine own_go (B := (T2.setTop (mkF m 16 #[.val (.int p0), .val (.int p1), .val (.int p2), .val (.int p3)] [(.int p3), (.int (F6 p0))]))) (fun t k => XS.iloadN X2.here hx rfl (hb hby d4_15) rfl k) ?_
    refine own_go (B := (T2.setTop (mkF m 17 #[.val (.int p0), .val (.int p1), .val (.int p2), .val (.int p3)] [(.int (1 : Int32)), (.int p3), (.int (F6 p0))]))) (fun t k => XS.iconst X2.here hx rfl (hb hby d4_16) k) ?_
    refine own_go (B := (T2.setTop (mkF m 18 #[.val (.int p0), .val (.int p1), .val (.int p2), .val (.int p3)] [(.int (p3 - (1 : Int32))), (.int (F6 p0))]))) (fun t k => XS.isub X2.here hx rfl (hb hby d4_17) rfl k) ?_
    refine own_go (B := (T2.setTop (mkF m 19 #[.val (.int p0), .val (.int p1), .val (.int p2), .val (.int p3)] [(.int p1), (.int (p3 - (1 : Int32))), (.int (F6 p0))]))) (fun t k => XS.iloadN X2.here hx rfl (hb hby d4_18) rfl k) ?_
    refine own_go (B := (T2.setTop (mkF m 20 #[.val (.int p0), .val (.int p1), .val (.int p2), .val (.int p3)] [(.int ((p3 - (1 : Int32)) - p1)), (.int (F6 p0))]))) (fun t k => XS.isub X2.here hx rfl (hb hby d4_19) rfl k) ?_
    obtain ⟨_, _, ⟨T3, L3, k3, n3⟩, -, X3, ⟨Lc3, hQ3, l3, y3, z3⟩, st3⟩ := Jvm.LawKit.callS X2 hx (y := (⟨"com/example/platemark/platemark/records/Iso2709DigitsPinLaw", "pow10", "(I)I"⟩ : MethodName)) hown (mvT hZ (hw _ (List.mem_of_getElem? (i := 21) rfl))) (mvT hZ (hw _ (List.mem_of_getElem? (i := 22) rfl))) (mvT hZ (hw _ (List.mem_of_getElem? (i := 3) rfl))) (mvT hZ (hw _ (List.mem_of_getElem? (i := 23) rfl))) (by decide) (backOf (W := 1) (rm7 l Z ta hw [] ((p3 - (1 : Int32)) - p1)  h0 n0 ) hZ (hw _ (List.mem_of_getElem? (i := 23) rfl)) (hw _ (List.mem_of_getElem? (i := 3) rfl)) (by decide) (by decide)) (g := (mkF m 20 #[.val (.int p0), .val (.int p1), .val (.int p2), .val (.int p3)] [(.int ((p3 - (1 : Int32)) - p1)), (.int (F6 p0))])) rfl (by rw [hml]; rfl) (argsL := [(.int ((p3 - (1 : Int32)) - p1))]) (rest := [(.int (F6 p0))]) (lenOf pd_4_2 rfl) rfl (by show 2 * 0 + _ ≤ _; exact Nat.le_of_eq rfl) (hb hby d4_20) (fun _ _ => ⟨rfl, e2, (by decide : ((0 + 0) + 0) + 0 ≤ _), (by decide : ((0 + 0) + 0) + 0 ≤ _)⟩)
    dsimp only [Pt.U, Pt.locs, Pt.cells, Pt.slots] at X3 l3 y3 z3 st3 hQ3
    subst l3 y3 z3
    obtain ⟨rfl, N3q, e3⟩ := hQ3
    replace e3 := e3
    have N3 := Fr.app N2 N3q
    refine own_go (B := (T3.setTop (mkF m 23 #[.val (.int p0), .val (.int p1), .val (.int p2), .val (.int p3)] [(.int (F7 ((p3 - (1 : Int32)) - p1))), (.int (F6 p0))]))) (fun t k => st3 _ k) ?_
    refine own_go (B := (T3.setTop (mkF m 24 #[.val (.int p0), .val (.int p1), .val (.int p2), .val (.int p3)] [(.int ((F6 p0) * (F7 ((p3 - (1 : Int32)) - p1))))]))) (fun t k => XS.imul X3.here hx rfl (hb hby d4_23) rfl k) ?_
    obtain ⟨fs, hr, hrun, hended, hW, hsame⟩ := X3.leave (v := some (.int ((F6 p0) * (F7 ((p3 - (1 : Int32)) - p1))))) (fun h => by rw [Bd.returns] at h; cases h)
    exact ⟨_, _, retI X3 hx Bd.returns (hb hby d4_24) hr, hrun, hended, _, _, rfl, ⟨congrArg (fun z => some (Value.int z)) (by simp only [F4, if_neg hc6]), N3, e3⟩, ⟨_, rfl⟩, hW, hsame.mono (by decide) (by decide)⟩
def own_Dig (cl : Cell) : Nat → Int32 → Int32 → Int32
  | 0, _, acc => acc
  | n + 1, i, acc => if atv cl i < (48 : Int32) then (-1 : Int32) else if (57 : Int32) < atv cl i then (-1 : Int32) else own_Dig cl n (i + (1 : Int32)) (((acc * (10 : Int32)) + atv cl i) - (48 : Int32))
theorem own_end {p q : Int32} (h1 : 0 ≤ p.toInt) (h2 : 0 ≤ q.toInt) (h3 : p.toInt + q.toInt ≤ 5) : (p + q).toInt = p.toInt + q.toInt := by
  have a := c_iadd p q
  have b := rng32 (p + q)
  omega
theorem own_inb {i : Int32} {c : Cell} (S : c.slots.size = 5) (h1 : 0 ≤ i.toInt) (h2 : i.toInt < 5) : ¬ (i < 0 ∨ c.slots.size ≤ i.toNatClampNeg) := by
  intro h
  have k : (0 : Int32).toInt = 0 := by decide
  rw [Int32.lt_iff_toInt_lt, k, S] at h
  have e : i.toNatClampNeg = i.toInt.toNat := rfl
  omega
theorem d5_0 : decode prog_44_method_12_code 0 = .ok (.iconst 0, 1) := by decide +kernel
theorem d5_1 : decode prog_44_method_12_code 1 = .ok (.istore_n 3, 1) := by decide +kernel
theorem d5_2 : decode prog_44_method_12_code 2 = .ok (.iload_n 1, 1) := by decide +kernel
theorem d5_3 : decode prog_44_method_12_code 3 = .ok (.istore 4, 2) := by decide +kernel
theorem d5_5 : decode prog_44_method_12_code 5 = .ok (.iload 4, 2) := by decide +kernel
theorem d5_7 : decode prog_44_method_12_code 7 = .ok (.iload_n 1, 1) := by decide +kernel
theorem d5_8 : decode prog_44_method_12_code 8 = .ok (.iload_n 2, 1) := by decide +kernel
theorem d5_9 : decode prog_44_method_12_code 9 = .ok (.iadd, 1) := by decide +kernel
theorem d5_10 : decode prog_44_method_12_code 10 = .ok (.if_icmp .ge 42, 3) := by decide +kernel
theorem d5_13 : decode prog_44_method_12_code 13 = .ok (.aload_n 0, 1) := by decide +kernel
theorem d5_14 : decode prog_44_method_12_code 14 = .ok (.iload 4, 2) := by decide +kernel
theorem d5_16 : decode prog_44_method_12_code 16 = .ok (.baload, 1) := by decide +kernel
theorem d5_17 : decode prog_44_method_12_code 17 = .ok (.bipush 48, 2) := by decide +kernel
theorem d5_19 : decode prog_44_method_12_code 19 = .ok (.if_icmp .lt 12, 3) := by decide +kernel
theorem d5_22 : decode prog_44_method_12_code 22 = .ok (.aload_n 0, 1) := by decide +kernel
theorem d5_23 : decode prog_44_method_12_code 23 = .ok (.iload 4, 2) := by decide +kernel
theorem d5_25 : decode prog_44_method_12_code 25 = .ok (.baload, 1) := by decide +kernel
theorem d5_26 : decode prog_44_method_12_code 26 = .ok (.bipush 57, 2) := by decide +kernel
theorem d5_28 : decode prog_44_method_12_code 28 = .ok (.if_icmp .le 5, 3) := by decide +kernel
theorem d5_31 : decode prog_44_method_12_code 31 = .ok (.iconst (-1), 1) := by decide +kernel
theorem d5_32 : decode prog_44_method_12_code 32 = .ok (.ireturn, 1) := by decide +kernel
theorem d5_33 : decode prog_44_method_12_code 33 = .ok (.iload_n 3, 1) := by decide +kernel
theorem d5_34 : decode prog_44_method_12_code 34 = .ok (.bipush 10, 2) := by decide +kernel
theorem d5_36 : decode prog_44_method_12_code 36 = .ok (.imul, 1) := by decide +kernel
theorem d5_37 : decode prog_44_method_12_code 37 = .ok (.aload_n 0, 1) := by decide +kernel
theorem d5_38 : decode prog_44_method_12_code 38 = .ok (.iload 4, 2) := by decide +kernel
theorem d5_40 : decode prog_44_method_12_code 40 = .ok (.baload, 1) := by decide +kernel
theorem d5_41 : decode prog_44_method_12_code 41 = .ok (.iadd, 1) := by decide +kernel
theorem d5_42 : decode prog_44_method_12_code 42 = .ok (.bipush 48, 2) := by decide +kernel
theorem d5_44 : decode prog_44_method_12_code 44 = .ok (.isub, 1) := by decide +kernel
theorem d5_45 : decode prog_44_method_12_code 45 = .ok (.istore_n 3, 1) := by decide +kernel
theorem d5_46 : decode prog_44_method_12_code 46 = .ok (.iinc 4 1, 3) := by decide +kernel
theorem d5_49 : decode prog_44_method_12_code 49 = .ok (.goto (-44), 3) := by decide +kernel
theorem d5_52 : decode prog_44_method_12_code 52 = .ok (.iload_n 3, 1) := by decide +kernel
theorem d5_53 : decode prog_44_method_12_code 53 = .ok (.ireturn, 1) := by decide +kernel
theorem pn_5 : plainName "com/example/platemark/platemark/records/Iso2709" = true := by first | (simp [plainName, overriddenIn]; done) | decide +kernel
theorem ef_5 (m : MethodId) (x0 : Addr) (x1 : Int32) (x2 : Int32) : entryFrame m #[(.ref x0), (.int x1), (.int x2)] 5 = mkF m 0 #[.val (.ref x0), .val (.int x1), .val (.int x2), .unset, .unset] [] := by first | (simp [entryFrame, mkF, argsToLocals, Value.category]; done) | rfl
def Q5 (Z : State) (a0 : Addr) (p1 : Int32) (p2 : Int32) (cl : Cell) (h0 : Heap) (n0 : Nat) (v : Option Value) (h : Heap) (L : List Loc) : Prop := v = some (.int (own_Dig cl p2.toInt.toNat p1 (0 : Int32))) ∧ Fr n0 L ∧ h = h0
set_option maxRecDepth 65536 in
set_option maxHeartbeats 40000000 in
theorem rm5 (l : Launch) (Z : State) (ta : Array Value) (hw : ∀ d ∈ tables_1, d.before ta Z = true) (ws : List Jvm.Cond) (a0 : Addr) (p1 : Int32) (p2 : Int32) (cl : Cell) (h0 : Heap) (n0 : Nat) (Ar : Arr Z h0 a0 cl .byte) (Sz : cl.slots.size = 5) (Hv : ∀ j : Int32, ¬ (j < 0 ∨ cl.slots.size ≤ j.toNatClampNeg) → cl.slots[j.toNatClampNeg]? = some (.int (atv cl j))) (h1 : 0 ≤ p1.toInt) (h2 : 0 ≤ p2.toInt) (h3 : p1.toInt + p2.toInt ≤ 5) :
    MetFree l (⟨"com/example/platemark/platemark/records/Iso2709", "digits", "([BII)I"⟩ : MethodName) (head1 (Jvm.Cond.code (⟨"com/example/platemark/platemark/records/Iso2709", "digits", "([BII)I"⟩ : MethodName) prog_44_method_12_code 5 (some .int) :: ws) ({ frames := 0, cells := 0, slots := 0, locals := 0 } : Room)) (fun a U => a = #[(.ref a0), (.int p1), (.int p2)] ∧ Z.Warmed39 U.vm ∧ U.heap = h0) (fun _ _ _ _ _ => True) (fun _ U o U' => ∃ v L, o = .returned v ∧ Q5 Z a0 p1 p2 cl h0 n0 v U'.heap L ∧ FrameEnd U o U' L ({ frames := 0, cells := 0, slots := 0, locals := 0 } : Room).cells ({ frames := 0, cells := 0, slots := 0, locals := 0 } : Room).slots) := by
  refine MetFree.of_bodySF (plainFor_of_name pn_5) hisR ?_
  intro p e s m args below meth c s₁ Bd hml0 hP hK
  obtain ⟨rfl, hZ, hh⟩ := hP
  have hx := Bd.exec
  have hby := Bd.bytes
  have hml : c.maxLocals = 5 := hml0
  have hown : s.vm.findClass "com/example/platemark/platemark/records/Iso2709" = some m.cls := findClass_of_methodNamed Bd.named
  have hnm := (name_of_methodNamed Bd.named Bd.method).1
  have X0 : Stand p l e ({ frames := 0, cells := 0, slots := 0, locals := 0 } : Room) s m #[(.ref a0), (.int p1), (.int p2)] below meth c s₁ [] 0 0 := Stand.of_body Bd
  have e0 : s₁.heap = h0 := by rw [← hh, Bd.state]; rfl
  have N0 := Fr.nil n0
  refine own_go (B := (s₁.setTop (mkF m 0 #[.val (.ref a0), .val (.int p1), .val (.int p2), .unset, .unset] []))) (fun t k => castTop (ef_5 m a0 p1 p2) k) ?_
  refine own_go (B := (s₁.setTop (mkF m 1 #[.val (.ref a0), .val (.int p1), .val (.int p2), .unset, .unset] [(.int (0 : Int32))]))) (fun t k => XS.iconst X0.here hx rfl (hb hby d5_0) k) ?_
  refine own_go (B := (s₁.setTop (mkF m 2 #[.val (.ref a0), .val (.int p1), .val (.int p2), .val (.int (0 : Int32)), .unset] []))) (fun t k => XS.istoreN X0.here hx rfl (hb hby d5_1) rfl (l' := #[.val (.ref a0), .val (.int p1), .val (.int p2), .val (.int (0 : Int32)), .unset]) rfl k) ?_
  refine own_go (B := (s₁.setTop (mkF m 3 #[.val (.ref a0), .val (.int p1), .val (.int p2), .val (.int (0 : Int32)), .unset] [(.int p1)]))) (fun t k => XS.iloadN X0.here hx rfl (hb hby d5_2) rfl k) ?_
  refine own_go (B := (s₁.setTop (mkF m 5 #[.val (.ref a0), .val (.int p1), .val (.int p2), .val (.int (0 : Int32)), .val (.int p1)] []))) (fun t k => XS.istore X0.here hx rfl (hb hby d5_3) rfl (l' := #[.val (.ref a0), .val (.int p1), .val (.int p2), .val (.int (0 : Int32)), .val (.int p1)]) rfl k) ?_
  have hen := own_end h1 h2 h3
  have loop : ∀ (n : Nat) (i acc : Int32), i.toInt + n = p1.toInt + p2.toInt → 0 ≤ i.toInt → own_Dig cl n i acc = own_Dig cl p2.toInt.toNat p1 (0 : Int32) → own_Goes p.tables e below (s₁.setTop (mkF m 5 #[.val (.ref a0), .val (.int p1), .val (.int p2), .val (.int acc), .val (.int i)] [])) (fun s₂ o => s₂.status = .running ∧ Ended s₂ below o ∧ ∃ v L, o = .returned v ∧ Q5 Z a0 p1 p2 cl h0 n0 v s₂.heap L ∧ FrameEnd s o s₂ L ({ frames := 0, cells := 0, slots := 0, locals := 0 } : Room).cells ({ frames := 0, cells := 0, slots := 0, locals := 0 } : Room).slots) := by
    intro n
    induction n with
    | zero =>
      intro i acc hi hi0 hD
      refine own_go (B := (s₁.setTop (mkF m 7 #[.val (.ref a0), .val (.int p1), .val (.int p2), .val (.int acc), .val (.int i)] [(.int i)]))) (fun t k => XS.iload X0.here hx rfl (hb hby d5_5) rfl k) ?_
      refine own_go (B := (s₁.setTop (mkF m 8 #[.val (.ref a0), .val (.int p1), .val (.int p2), .val (.int acc), .val (.int i)] [(.int p1), (.int i)]))) (fun t k => XS.iloadN X0.here hx rfl (hb hby d5_7) rfl k) ?_
      refine own_go (B := (s₁.setTop (mkF m 9 #[.val (.ref a0), .val (.int p1), .val (.int p2), .val (.int acc), .val (.int i)] [(.int p2), (.int p1), (.int i)]))) (fun t k => XS.iloadN X0.here hx rfl (hb hby d5_8) rfl k) ?_
      refine own_go (B := (s₁.setTop (mkF m 10 #[.val (.ref a0), .val (.int p1), .val (.int p2), .val (.int acc), .val (.int i)] [(.int (p1 + p2)), (.int i)]))) (fun t k => XS.iadd X0.here hx rfl (hb hby d5_9) rfl k) ?_
      refine own_go (B := (s₁.setTop (mkF m 52 #[.val (.ref a0), .val (.int p1), .val (.int p2), .val (.int acc), .val (.int i)] []))) (fun t k => XS.icmpYes X0.here hx rfl (pc0 := 10) (pc' := 52) rfl (hb hby d5_10) rfl (flt (by rw [Int32.lt_iff_toInt_lt, hen]; omega)).2.1 (by decide) (by decide) k) ?_
      refine own_go (B := (s₁.setTop (mkF m 53 #[.val (.ref a0), .val (.int p1), .val (.int p2), .val (.int acc), .val (.int i)] [(.int acc)]))) (fun t k => XS.iloadN X0.here hx rfl (hb hby d5_52) rfl k) ?_
      obtain ⟨fs, hr, hrun, hended, hW, hsame⟩ := X0.leave (v := some (.int acc)) (fun h => by rw [Bd.returns] at h; cases h)
      exact ⟨_, _, retI X0 hx Bd.returns (hb hby d5_53) hr, hrun, hended, _, _, rfl, ⟨congrArg (fun z => some (Value.int z)) hD, N0, e0⟩, ⟨_, rfl⟩, hW, hsame.mono (by decide) (by decide)⟩
    | succ n ih =>
      intro i acc hi hi0 hD
      have hin := own_inb (i := i) Sz hi0 (by omega)
      refine own_go (B := (s₁.setTop (mkF m 7 #[.val (.ref a0), .val (.int p1), .val (.int p2), .val (.int acc), .val (.int i)] [(.int i)]))) (fun t k => XS.iload X0.here hx rfl (hb hby d5_5) rfl k) ?_
      refine own_go (B := (s₁.setTop (mkF m 8 #[.val (.ref a0), .val (.int p1), .val (.int p2), .val (.int acc), .val (.int i)] [(.int p1), (.int i)]))) (fun t k => XS.iloadN X0.here hx rfl (hb hby d5_7) rfl k) ?_
      refine own_go (B := (s₁.setTop (mkF m 9 #[.val (.ref a0), .val (.int p1), .val (.int p2), .val (.int acc), .val (.int i)] [(.int p2), (.int p1), (.int i)]))) (fun t k => XS.iloadN X0.here hx rfl (hb hby d5_8) rfl k) ?_
      refine own_go (B := (s₁.setTop (mkF m 10 #[.val (.ref a0), .val (.int p1), .val (.int p2), .val (.int acc), .val (.int i)] [(.int (p1 + p2)), (.int i)]))) (fun t k => XS.iadd X0.here hx rfl (hb hby d5_9) rfl k) ?_
      refine own_go (B := (s₁.setTop (mkF m 13 #[.val (.ref a0), .val (.int p1), .val (.int p2), .val (.int acc), .val (.int i)] []))) (fun t k => XS.icmpNo X0.here hx rfl (hb hby d5_10) rfl (tlt (by rw [Int32.lt_iff_toInt_lt, hen]; omega)).2.1 k) ?_
      refine own_go (B := (s₁.setTop (mkF m 14 #[.val (.ref a0), .val (.int p1), .val (.int p2), .val (.int acc), .val (.int i)] [(.ref a0)]))) (fun t k => XS.aloadN X0.here hx rfl (hb hby d5_13) rfl rfl k) ?_
      refine own_go (B := (s₁.setTop (mkF m 16 #[.val (.ref a0), .val (.int p1), .val (.int p2), .val (.int acc), .val (.int i)] [(.int i), (.ref a0)]))) (fun t k => XS.iload X0.here hx rfl (hb hby d5_14) rfl k) ?_
      refine own_go (B := (s₁.setTop (mkF m 17 #[.val (.ref a0), .val (.int p1), .val (.int p2), .val (.int acc), .val (.int i)] [(.int (atv cl i))]))) (fun t k => X0.baloadBytes hx (j := i) (v := .int (atv cl i)) (by rw [e0]; exact Ar.1) (State.isArrayOf_alike hZ.alike Ar.2.1) Ar.2.2 hin (Hv _ hin) (g := (mkF m 16 #[.val (.ref a0), .val (.int p1), .val (.int p2), .val (.int acc), .val (.int i)] [(.int i), (.ref a0)])) rfl rfl (hb hby d5_16) _ k) ?_
      refine own_go (B := (s₁.setTop (mkF m 19 #[.val (.ref a0), .val (.int p1), .val (.int p2), .val (.int acc), .val (.int i)] [(.int (48 : Int32)), (.int (atv cl i))]))) (fun t k => XS.bipush X0.here hx rfl (hb hby d5_17) k) ?_
      by_cases hc19 : (atv cl i) < (48 : Int32)
      · refine own_go (B := (s₁.setTop (mkF m 31 #[.val (.ref a0), .val (.int p1), .val (.int p2), .val (.int acc), .val (.int i)] []))) (fun t k => XS.icmpYes X0.here hx rfl (pc0 := 19) (pc' := 31) rfl (hb hby d5_19) rfl (tlt hc19).1 (by decide) (by decide) k) ?_
        refine own_go (B := (s₁.setTop (mkF m 32 #[.val (.ref a0), .val (.int p1), .val (.int p2), .val (.int acc), .val (.int i)] [(.int (-1 : Int32))]))) (fun t k => XS.iconst X0.here hx rfl (hb hby d5_31) k) ?_
        obtain ⟨fs, hr, hrun, hended, hW, hsame⟩ := X0.leave (v := some (.int (-1 : Int32))) (fun h => by rw [Bd.returns] at h; cases h)
        exact ⟨_, _, retI X0 hx Bd.returns (hb hby d5_32) hr, hrun, hended, _, _, rfl, ⟨congrArg (fun z => some (Value.int z)) (by rw [← hD]; simp only [own_Dig, if_pos hc19]), N0, e0⟩, ⟨_, rfl⟩, hW, hsame.mono (by decide) (by decide)⟩
      · refine own_go (B := (s₁.setTop (mkF m 22 #[.val (.ref a0), .val (.int p1), .val (.int p2), .val (.int acc), .val (.int i)] []))) (fun t k => XS.icmpNo X0.here hx rfl (hb hby d5_19) rfl (flt hc19).1 k) ?_
        refine own_go (B := (s₁.setTop (mkF m 23 #[.val (.ref a0), .val (.int p1), .val (.int p2), .val (.int acc), .val (.int i)] [(.ref a0)]))) (fun t k => XS.aloadN X0.here hx rfl (hb hby d5_22) rfl rfl k) ?_
        refine own_go (B := (s₁.setTop (mkF m 25 #[.val (.ref a0), .val (.int p1), .val (.int p2), .val (.int acc), .val (.int i)] [(.int i), (.ref a0)]))) (fun t k => XS.iload X0.here hx rfl (hb hby d5_23) rfl k) ?_
        refine own_go (B := (s₁.setTop (mkF m 26 #[.val (.ref a0), .val (.int p1), .val (.int p2), .val (.int acc), .val (.int i)] [(.int (atv cl i))]))) (fun t k => X0.baloadBytes hx (j := i) (v := .int (atv cl i)) (by rw [e0]; exact Ar.1) (State.isArrayOf_alike hZ.alike Ar.2.1) Ar.2.2 hin (Hv _ hin) (g := (mkF m 25 #[.val (.ref a0), .val (.int p1), .val (.int p2), .val (.int acc), .val (.int i)] [(.int i), (.ref a0)])) rfl rfl (hb hby d5_25) _ k) ?_
        refine own_go (B := (s₁.setTop (mkF m 28 #[.val (.ref a0), .val (.int p1), .val (.int p2), .val (.int acc), .val (.int i)] [(.int (57 : Int32)), (.int (atv cl i))]))) (fun t k => XS.bipush X0.here hx rfl (hb hby d5_26) k) ?_
        by_cases hc28 : (57 : Int32) < (atv cl i)
        · refine own_go (B := (s₁.setTop (mkF m 31 #[.val (.ref a0), .val (.int p1), .val (.int p2), .val (.int acc), .val (.int i)] []))) (fun t k => XS.icmpNo X0.here hx rfl (hb hby d5_28) rfl (tlt hc28).2.2.2 k) ?_
          refine own_go (B := (s₁.setTop (mkF m 32 #[.val (.ref a0), .val (.int p1), .val (.int p2), .val (.int acc), .val (.int i)] [(.int (-1 : Int32))]))) (fun t k => XS.iconst X0.here hx rfl (hb hby d5_31) k) ?_
          obtain ⟨fs, hr, hrun, hended, hW, hsame⟩ := X0.leave (v := some (.int (-1 : Int32))) (fun h => by rw [Bd.returns] at h; cases h)
          exact ⟨_, _, retI X0 hx Bd.returns (hb hby d5_32) hr, hrun, hended, _, _, rfl, ⟨congrArg (fun z => some (Value.int z)) (by rw [← hD]; simp only [own_Dig, if_neg hc19, if_pos hc28]), N0, e0⟩, ⟨_, rfl⟩, hW, hsame.mono (by decide) (by decide)⟩
        · refine own_go (B := (s₁.setTop (mkF m 33 #[.val (.ref a0), .val (.int p1), .val (.int p2), .val (.int acc), .val (.int i)] []))) (fun t k => XS.icmpYes X0.here hx rfl (pc0 := 28) (pc' := 33) rfl (hb hby d5_28) rfl (flt hc28).2.2.2 (by decide) (by decide) k) ?_
          refine own_go (B := (s₁.setTop (mkF m 34 #[.val (.ref a0), .val (.int p1), .val (.int p2), .val (.int acc), .val (.int i)] [(.int acc)]))) (fun t k => XS.iloadN X0.here hx rfl (hb hby d5_33) rfl k) ?_
          refine own_go (B := (s₁.setTop (mkF m 36 #[.val (.ref a0), .val (.int p1), .val (.int p2), .val (.int acc), .val (.int i)] [(.int (10 : Int32)), (.int acc)]))) (fun t k => XS.bipush X0.here hx rfl (hb hby d5_34) k) ?_
          refine own_go (B := (s₁.setTop (mkF m 37 #[.val (.ref a0), .val (.int p1), .val (.int p2), .val (.int acc), .val (.int i)] [(.int (acc * (10 : Int32)))]))) (fun t k => XS.imul X0.here hx rfl (hb hby d5_36) rfl k) ?_
          refine own_go (B := (s₁.setTop (mkF m 38 #[.val (.ref a0), .val (.int p1), .val (.int p2), .val (.int acc), .val (.int i)] [(.ref a0), (.int (acc * (10 : Int32)))]))) (fun t k => XS.aloadN X0.here hx rfl (hb hby d5_37) rfl rfl k) ?_
          refine own_go (B := (s₁.setTop (mkF m 40 #[.val (.ref a0), .val (.int p1), .val (.int p2), .val (.int acc), .val (.int i)] [(.int i), (.ref a0), (.int (acc * (10 : Int32)))]))) (fun t k => XS.iload X0.here hx rfl (hb hby d5_38) rfl k) ?_
          refine own_go (B := (s₁.setTop (mkF m 41 #[.val (.ref a0), .val (.int p1), .val (.int p2), .val (.int acc), .val (.int i)] [(.int (atv cl i)), (.int (acc * (10 : Int32)))]))) (fun t k => X0.baloadBytes hx (j := i) (v := .int (atv cl i)) (by rw [e0]; exact Ar.1) (State.isArrayOf_alike hZ.alike Ar.2.1) Ar.2.2 hin (Hv _ hin) (g := (mkF m 40 #[.val (.ref a0), .val (.int p1), .val (.int p2), .val (.int acc), .val (.int i)] [(.int i), (.ref a0), (.int (acc * (10 : Int32)))])) rfl rfl (hb hby d5_40) _ k) ?_
          refine own_go (B := (s₁.setTop (mkF m 42 #[.val (.ref a0), .val (.int p1), .val (.int p2), .val (.int acc), .val (.int i)] [(.int ((acc * (10 : Int32)) + (atv cl i)))]))) (fun t k => XS.iadd X0.here hx rfl (hb hby d5_41) rfl k) ?_
          refine own_go (B := (s₁.setTop (mkF m 44 #[.val (.ref a0), .val (.int p1), .val (.int p2), .val (.int acc), .val (.int i)] [(.int (48 : Int32)), (.int ((acc * (10 : Int32)) + (atv cl i)))]))) (fun t k => XS.bipush X0.here hx rfl (hb hby d5_42) k) ?_
          refine own_go (B := (s₁.setTop (mkF m 45 #[.val (.ref a0), .val (.int p1), .val (.int p2), .val (.int acc), .val (.int i)] [(.int (((acc * (10 : Int32)) + (atv cl i)) - (48 : Int32)))]))) (fun t k => XS.isub X0.here hx rfl (hb hby d5_44) rfl k) ?_
          refine own_go (B := (s₁.setTop (mkF m 46 #[.val (.ref a0), .val (.int p1), .val (.int p2), .val (.int (((acc * (10 : Int32)) + (atv cl i)) - (48 : Int32))), .val (.int i)] []))) (fun t k => XS.istoreN X0.here hx rfl (hb hby d5_45) rfl (l' := #[.val (.ref a0), .val (.int p1), .val (.int p2), .val (.int (((acc * (10 : Int32)) + (atv cl i)) - (48 : Int32))), .val (.int i)]) rfl k) ?_
          refine own_go (B := (s₁.setTop (mkF m 49 #[.val (.ref a0), .val (.int p1), .val (.int p2), .val (.int (((acc * (10 : Int32)) + (atv cl i)) - (48 : Int32))), .val (.int (i + (1 : Int32)))] []))) (fun t k => XS.iinc X0.here hx rfl (hb hby d5_46) rfl (l' := #[.val (.ref a0), .val (.int p1), .val (.int p2), .val (.int (((acc * (10 : Int32)) + (atv cl i)) - (48 : Int32))), .val (.int (i + (1 : Int32)))]) rfl k) ?_
          refine own_go (B := (s₁.setTop (mkF m 5 #[.val (.ref a0), .val (.int p1), .val (.int p2), .val (.int (((acc * (10 : Int32)) + (atv cl i)) - (48 : Int32))), .val (.int (i + (1 : Int32)))] []))) (fun t k => XS.goto X0.here hx rfl (pc0 := 49) (pc' := 5) rfl (hb hby d5_49) (by decide) (by decide) k) ?_
          have ha1 := c_iadd i (1 : Int32)
          have ha2 := rng32 (i + (1 : Int32))
          have ha3 : (1 : Int32).toInt = 1 := by decide
          exact ih _ _ (by omega) (by omega) (by rw [← hD]; simp only [own_Dig, if_neg hc19, if_neg hc28])
  exact loop p2.toInt.toNat p1 (0 : Int32) (by omega) h1 rfl
theorem own_from (f : Int32) : 0 ≤ ((f &&& (7 : Int32)) % (6 : Int32)).toInt ∧ ((f &&& (7 : Int32)) % (6 : Int32)).toInt ≤ 5 := by
  have a := c_mask f (7 : Int32) 3 (by decide) (by decide)
  have b := (c_irem (f &&& (7 : Int32)) (6 : Int32) 6 (by decide)).1 (by omega)
  omega
theorem own_six {fr : Int32} (h0 : 0 ≤ fr.toInt) (h5 : fr.toInt ≤ 5) : ((6 : Int32) - fr).toInt = 6 - fr.toInt := by
  have a := c_isub (6 : Int32) fr
  have b := rng32 ((6 : Int32) - fr)
  have k : (6 : Int32).toInt = 6 := by decide
  omega
theorem own_nz {fr : Int32} (h0 : 0 ≤ fr.toInt) (h5 : fr.toInt ≤ 5) : ¬ ((6 : Int32) - fr) = 0 := by
  intro h
  have a := own_six h0 h5
  rw [h] at a
  have k : (0 : Int32).toInt = 0 := by decide
  omega
theorem own_cnt (x : Int32) {fr : Int32} (h0 : 0 ≤ fr.toInt) (h5 : fr.toInt ≤ 5) : 0 ≤ ((x &&& (7 : Int32)) % ((6 : Int32) - fr)).toInt ∧ ((x &&& (7 : Int32)) % ((6 : Int32) - fr)).toInt + fr.toInt ≤ 5 := by
  have a := c_mask x (7 : Int32) 3 (by decide) (by decide)
  have s := own_six h0 h5
  have b := (c_iremV (x &&& (7 : Int32)) ((6 : Int32) - fr)).1 (by omega) (by omega)
  omega
theorem own_lit {a : Int32} (k : Int) (b : Int32) (hb : b.toInt = k) (h : a.toInt = k) : a = b := Int32.toInt_inj.mp (h.trans hb.symm)
theorem own_cases {fr ct : Int32} (h0 : 0 ≤ fr.toInt) (h5 : fr.toInt ≤ 5) (c0 : 0 ≤ ct.toInt) (c5 : ct.toInt + fr.toInt ≤ 5) :
    (fr = 0 ∧ ct = 0) ∨ (fr = 0 ∧ ct = 1) ∨ (fr = 0 ∧ ct = 2) ∨ (fr = 0 ∧ ct = 3) ∨ (fr = 0 ∧ ct = 4) ∨ (fr = 0 ∧ ct = 5) ∨ (fr = 1 ∧ ct = 0) ∨ (fr = 1 ∧ ct = 1) ∨ (fr = 1 ∧ ct = 2) ∨ (fr = 1 ∧ ct = 3) ∨ (fr = 1 ∧ ct = 4) ∨ (fr = 2 ∧ ct = 0) ∨ (fr = 2 ∧ ct = 1) ∨ (fr = 2 ∧ ct = 2) ∨ (fr = 2 ∧ ct = 3) ∨ (fr = 3 ∧ ct = 0) ∨ (fr = 3 ∧ ct = 1) ∨ (fr = 3 ∧ ct = 2) ∨ (fr = 4 ∧ ct = 0) ∨ (fr = 4 ∧ ct = 1) ∨ (fr = 5 ∧ ct = 0) := by
  rcases (by omega : fr.toInt = 0 ∨ fr.toInt = 1 ∨ fr.toInt = 2 ∨ fr.toInt = 3 ∨ fr.toInt = 4 ∨ fr.toInt = 5) with a | a | a | a | a | a
  · rcases (by omega : ct.toInt = 0 ∨ ct.toInt = 1 ∨ ct.toInt = 2 ∨ ct.toInt = 3 ∨ ct.toInt = 4 ∨ ct.toInt = 5) with b | b | b | b | b | b
    · exact Or.inl ⟨own_lit 0 _ (by decide) a, own_lit 0 _ (by decide) b⟩
    · exact Or.inr (Or.inl ⟨own_lit 0 _ (by decide) a, own_lit 1 _ (by decide) b⟩)
    · exact Or.inr (Or.inr (Or.inl ⟨own_lit 0 _ (by decide) a, own_lit 2 _ (by decide) b⟩))
    · exact Or.inr (Or.inr (Or.inr (Or.inl ⟨own_lit 0 _ (by decide) a, own_lit 3 _ (by decide) b⟩)))
    · exact Or.inr (Or.inr (Or.inr (Or.inr (Or.inl ⟨own_lit 0 _ (by decide) a, own_lit 4 _ (by decide) b⟩))))
    · exact Or.inr (Or.inr (Or.inr (Or.inr (Or.inr (Or.inl ⟨own_lit 0 _ (by decide) a, own_lit 5 _ (by decide) b⟩)))))
  · rcases (by omega : ct.toInt = 0 ∨ ct.toInt = 1 ∨ ct.toInt = 2 ∨ ct.toInt = 3 ∨ ct.toInt = 4) with b | b | b | b | b
    · exact Or.inr (Or.inr (Or.inr (Or.inr (Or.inr (Or.inr (Or.inl ⟨own_lit 1 _ (by decide) a, own_lit 0 _ (by decide) b⟩))))))
    · exact Or.inr (Or.inr (Or.inr (Or.inr (Or.inr (Or.inr (Or.inr (Or.inl ⟨own_lit 1 _ (by decide) a, own_lit 1 _ (by decide) b⟩)))))))
    · exact Or.inr (Or.inr (Or.inr (Or.inr (Or.inr (Or.inr (Or.inr (Or.inr (Or.inl ⟨own_lit 1 _ (by decide) a, own_lit 2 _ (by decide) b⟩))))))))
    · exact Or.inr (Or.inr (Or.inr (Or.inr (Or.inr (Or.inr (Or.inr (Or.inr (Or.inr (Or.inl ⟨own_lit 1 _ (by decide) a, own_lit 3 _ (by decide) b⟩)))))))))
    · exact Or.inr (Or.inr (Or.inr (Or.inr (Or.inr (Or.inr (Or.inr (Or.inr (Or.inr (Or.inr (Or.inl ⟨own_lit 1 _ (by decide) a, own_lit 4 _ (by decide) b⟩))))))))))
  · rcases (by omega : ct.toInt = 0 ∨ ct.toInt = 1 ∨ ct.toInt = 2 ∨ ct.toInt = 3) with b | b | b | b
    · exact Or.inr (Or.inr (Or.inr (Or.inr (Or.inr (Or.inr (Or.inr (Or.inr (Or.inr (Or.inr (Or.inr (Or.inl ⟨own_lit 2 _ (by decide) a, own_lit 0 _ (by decide) b⟩)))))))))))
    · exact Or.inr (Or.inr (Or.inr (Or.inr (Or.inr (Or.inr (Or.inr (Or.inr (Or.inr (Or.inr (Or.inr (Or.inr (Or.inl ⟨own_lit 2 _ (by decide) a, own_lit 1 _ (by decide) b⟩))))))))))))
    · exact Or.inr (Or.inr (Or.inr (Or.inr (Or.inr (Or.inr (Or.inr (Or.inr (Or.inr (Or.inr (Or.inr (Or.inr (Or.inr (Or.inl ⟨own_lit 2 _ (by decide) a, own_lit 2 _ (by decide) b⟩)))))))))))))
    · exact Or.inr (Or.inr (Or.inr (Or.inr (Or.inr (Or.inr (Or.inr (Or.inr (Or.inr (Or.inr (Or.inr (Or.inr (Or.inr (Or.inr (Or.inl ⟨own_lit 2 _ (by decide) a, own_lit 3 _ (by decide) b⟩))))))))))))))
  · rcases (by omega : ct.toInt = 0 ∨ ct.toInt = 1 ∨ ct.toInt = 2) with b | b | b
    · exact Or.inr (Or.inr (Or.inr (Or.inr (Or.inr (Or.inr (Or.inr (Or.inr (Or.inr (Or.inr (Or.inr (Or.inr (Or.inr (Or.inr (Or.inr (Or.inl ⟨own_lit 3 _ (by decide) a, own_lit 0 _ (by decide) b⟩)))))))))))))))
    · exact Or.inr (Or.inr (Or.inr (Or.inr (Or.inr (Or.inr (Or.inr (Or.inr (Or.inr (Or.inr (Or.inr (Or.inr (Or.inr (Or.inr (Or.inr (Or.inr (Or.inl ⟨own_lit 3 _ (by decide) a, own_lit 1 _ (by decide) b⟩))))))))))))))))
    · exact Or.inr (Or.inr (Or.inr (Or.inr (Or.inr (Or.inr (Or.inr (Or.inr (Or.inr (Or.inr (Or.inr (Or.inr (Or.inr (Or.inr (Or.inr (Or.inr (Or.inr (Or.inl ⟨own_lit 3 _ (by decide) a, own_lit 2 _ (by decide) b⟩)))))))))))))))))
  · rcases (by omega : ct.toInt = 0 ∨ ct.toInt = 1) with b | b
    · exact Or.inr (Or.inr (Or.inr (Or.inr (Or.inr (Or.inr (Or.inr (Or.inr (Or.inr (Or.inr (Or.inr (Or.inr (Or.inr (Or.inr (Or.inr (Or.inr (Or.inr (Or.inr (Or.inl ⟨own_lit 4 _ (by decide) a, own_lit 0 _ (by decide) b⟩))))))))))))))))))
    · exact Or.inr (Or.inr (Or.inr (Or.inr (Or.inr (Or.inr (Or.inr (Or.inr (Or.inr (Or.inr (Or.inr (Or.inr (Or.inr (Or.inr (Or.inr (Or.inr (Or.inr (Or.inr (Or.inr (Or.inl ⟨own_lit 4 _ (by decide) a, own_lit 1 _ (by decide) b⟩)))))))))))))))))))
  · have b : ct.toInt = 0 := by omega
    · exact Or.inr (Or.inr (Or.inr (Or.inr (Or.inr (Or.inr (Or.inr (Or.inr (Or.inr (Or.inr (Or.inr (Or.inr (Or.inr (Or.inr (Or.inr (Or.inr (Or.inr (Or.inr (Or.inr (Or.inr (⟨own_lit 5 _ (by decide) a, own_lit 0 _ (by decide) b⟩))))))))))))))))))))
theorem own_dig0 {v : Int32} (h : ¬ F6 v < (0 : Int32)) : ¬ v < (48 : Int32) ∧ ¬ (57 : Int32) < v ∧ F6 v = v - (48 : Int32) := by
  unfold F6 at h ⊢
  by_cases h1 : v < (48 : Int32)
  · rw [if_pos h1] at h; exact absurd (by decide : (-1 : Int32) < 0) h
  · by_cases h2 : (57 : Int32) < v
    · rw [if_neg h1, if_pos h2] at h; exact absurd (by decide : (-1 : Int32) < 0) h
    · exact ⟨h1, h2, by rw [if_neg h1, if_neg h2]⟩
theorem own_dig1 {v : Int32} (h : F6 v < (0 : Int32)) : v < (48 : Int32) ∨ (57 : Int32) < v := by
  unfold F6 at h
  by_cases h1 : v < (48 : Int32)
  · exact Or.inl h1
  · by_cases h2 : (57 : Int32) < v
    · exact Or.inr h2
    · exfalso
      rw [if_neg h1, if_neg h2] at h
      have a := c_isub v (48 : Int32)
      have b := rng32 (v - (48 : Int32))
      have c := rng32 v
      simp only [Int32.lt_iff_toInt_lt, Int32.reduceToInt] at h h1 h2 a
      omega
theorem own_dec {v : Int32} : F6 v < (0 : Int32) ↔ (v < (48 : Int32) ∨ (57 : Int32) < v) := ⟨own_dig1, fun h => by
  refine Decidable.byContradiction fun q => ?_
  obtain ⟨a, b, -⟩ := own_dig0 q
  exact h.elim a b⟩
theorem own_bad0 {v k f e : Int32} (h : ¬ F2 v k f e = (0 : Int32)) : ¬ F3 k f e = (0 : Int32) ∧ F6 v < (0 : Int32) := by
  unfold F2 at h
  by_cases h1 : F3 k f e = (0 : Int32)
  · simp [h1] at h
  · by_cases h2 : F6 v < (0 : Int32)
    · exact ⟨h1, h2⟩
    · simp [h1, h2] at h
theorem own_bad1 {v k f e : Int32} (h : F2 v k f e = (0 : Int32)) (h1 : ¬ F3 k f e = (0 : Int32)) : ¬ F6 v < (0 : Int32) := by
  intro h2
  unfold F2 at h
  simp [h1, h2] at h
theorem own_win {k f e : Int32} (h : ¬ F3 k f e = (0 : Int32)) : f.toInt ≤ k.toInt ∧ k.toInt < e.toInt := by
  unfold F3 at h
  by_cases h1 : k < f
  · simp [h1] at h
  · by_cases h2 : k < e
    · simp only [Int32.lt_iff_toInt_lt] at h1 h2; omega
    · simp [h1, h2] at h
theorem own_tin {v k f e : Int32} (h1 : ¬ F3 k f e = (0 : Int32)) : F4 v k f e = F6 v * F7 ((e - (1 : Int32)) - k) := by
  unfold F4
  simp [h1]
theorem own_tout {v k f e : Int32} (h1 : F3 k f e = (0 : Int32)) : F4 v k f e = (0 : Int32) := by
  unfold F4
  simp [h1]
theorem own_badrun (cl : Cell) : ∀ (n : Nat) (i acc j : Int32), 0 ≤ i.toInt → i.toInt + n ≤ 5 → i.toInt ≤ j.toInt → j.toInt < i.toInt + n → (atv cl j < (48 : Int32) ∨ (57 : Int32) < atv cl j) → own_Dig cl n i acc = (-1 : Int32) := by
  intro n
  induction n with
  | zero => intro i acc j _ _ h1 h2 _; omega
  | succ n ih =>
    intro i acc j h0 h5 h1 h2 hb
    have a := c_iadd i (1 : Int32)
    have b := rng32 (i + (1 : Int32))
    have k : (1 : Int32).toInt = 1 := by decide
    simp only [own_Dig]
    by_cases q1 : atv cl i < (48 : Int32)
    · rw [if_pos q1]
    · by_cases q2 : (57 : Int32) < atv cl i
      · rw [if_neg q1, if_pos q2]
      · rw [if_neg q1, if_neg q2]
        have hne : ¬ j.toInt = i.toInt := by
          intro h
          have : j = i := Int32.toInt_inj.mp h
          subst this
          exact hb.elim q1 q2
        exact ih _ _ j (by omega) (by omega) (by omega) (by omega) hb
theorem own_bad (cl : Cell) (v0 v1 v2 v3 v4 fr ct : Int32) (e0 : atv cl (0 : Int32) = v0) (e1 : atv cl (1 : Int32) = v1) (e2 : atv cl (2 : Int32) = v2) (e3 : atv cl (3 : Int32) = v3) (e4 : atv cl (4 : Int32) = v4) (h0 : 0 ≤ fr.toInt) (h5 : fr.toInt ≤ 5) (c0 : 0 ≤ ct.toInt) (c5 : ct.toInt + fr.toInt ≤ 5)
    (h : ¬ F2 v0 (0 : Int32) fr (fr + ct) = (0 : Int32) ∨ ¬ F2 v1 (1 : Int32) fr (fr + ct) = (0 : Int32) ∨ ¬ F2 v2 (2 : Int32) fr (fr + ct) = (0 : Int32) ∨ ¬ F2 v3 (3 : Int32) fr (fr + ct) = (0 : Int32) ∨ ¬ F2 v4 (4 : Int32) fr (fr + ct) = (0 : Int32)) : own_Dig cl ct.toInt.toNat fr (0 : Int32) = (-1 : Int32) := by
  have hen := own_end h0 c0 (by omega)
  obtain ⟨j, v, hj, hv⟩ : ∃ (j v : Int32), atv cl j = v ∧ ¬ F2 v j fr (fr + ct) = (0 : Int32) := by
    rcases h with h | h | h | h | h
    · exact ⟨_, _, e0, h⟩
    · exact ⟨_, _, e1, h⟩
    · exact ⟨_, _, e2, h⟩
    · exact ⟨_, _, e3, h⟩
    · exact ⟨_, _, e4, h⟩
  obtain ⟨w1, w2⟩ := own_bad0 hv
  have w3 := own_win w1
  refine own_badrun cl _ fr _ j h0 (by omega) (by omega) (by omega) ?_
  rw [hj]
  exact own_dig1 w2
set_option maxRecDepth 8000 in
set_option maxHeartbeats 40000000 in
theorem own_good (cl : Cell) (v0 v1 v2 v3 v4 fr ct : Int32) (e0 : atv cl (0 : Int32) = v0) (e1 : atv cl (1 : Int32) = v1) (e2 : atv cl (2 : Int32) = v2) (e3 : atv cl (3 : Int32) = v3) (e4 : atv cl (4 : Int32) = v4) (h0 : 0 ≤ fr.toInt) (h5 : fr.toInt ≤ 5) (c0 : 0 ≤ ct.toInt) (c5 : ct.toInt + fr.toInt ≤ 5)
    (b0 : F2 v0 (0 : Int32) fr (fr + ct) = (0 : Int32)) (b1 : F2 v1 (1 : Int32) fr (fr + ct) = (0 : Int32)) (b2 : F2 v2 (2 : Int32) fr (fr + ct) = (0 : Int32)) (b3 : F2 v3 (3 : Int32) fr (fr + ct) = (0 : Int32)) (b4 : F2 v4 (4 : Int32) fr (fr + ct) = (0 : Int32)) : own_Dig cl ct.toInt.toNat fr (0 : Int32) = ((((F4 v0 (0 : Int32) fr (fr + ct)) + (F4 v1 (1 : Int32) fr (fr + ct))) + (F4 v2 (2 : Int32) fr (fr + ct))) + (F4 v3 (3 : Int32) fr (fr + ct))) + (F4 v4 (4 : Int32) fr (fr + ct)) := by
  rcases own_cases h0 h5 c0 c5 with ⟨rfl, rfl⟩ | ⟨rfl, rfl⟩ | ⟨rfl, rfl⟩ | ⟨rfl, rfl⟩ | ⟨rfl, rfl⟩ | ⟨rfl, rfl⟩ | ⟨rfl, rfl⟩ | ⟨rfl, rfl⟩ | ⟨rfl, rfl⟩ | ⟨rfl, rfl⟩ | ⟨rfl, rfl⟩ | ⟨rfl, rfl⟩ | ⟨rfl, rfl⟩ | ⟨rfl, rfl⟩ | ⟨rfl, rfl⟩ | ⟨rfl, rfl⟩ | ⟨rfl, rfl⟩ | ⟨rfl, rfl⟩ | ⟨rfl, rfl⟩ | ⟨rfl, rfl⟩ | ⟨rfl, rfl⟩
  · rw [own_tout (v := v0) (k := (0 : Int32)) (f := 0) (e := 0 + 0) (by decide)]
    rw [own_tout (v := v1) (k := (1 : Int32)) (f := 0) (e := 0 + 0) (by decide)]
    rw [own_tout (v := v2) (k := (2 : Int32)) (f := 0) (e := 0 + 0) (by decide)]
    rw [own_tout (v := v3) (k := (3 : Int32)) (f := 0) (e := 0 + 0) (by decide)]
    rw [own_tout (v := v4) (k := (4 : Int32)) (f := 0) (e := 0 + 0) (by decide)]
    rw [(by decide : (0 : Int32).toInt.toNat = 0)]
    simp only [own_Dig]
    clear b0 b1 b2 b3 b4
    decide
  · have a0 := own_dig0 (own_bad1 b0 (by decide))
    rw [own_tin (v := v0) (k := (0 : Int32)) (f := 0) (e := 0 + 1) (by decide), a0.2.2, (by decide : F7 (((0 : Int32) + 1 - (1 : Int32)) - (0 : Int32)) = (1 : Int32))]
    rw [own_tout (v := v1) (k := (1 : Int32)) (f := 0) (e := 0 + 1) (by decide)]
    rw [own_tout (v := v2) (k := (2 : Int32)) (f := 0) (e := 0 + 1) (by decide)]
    rw [own_tout (v := v3) (k := (3 : Int32)) (f := 0) (e := 0 + 1) (by decide)]
    rw [own_tout (v := v4) (k := (4 : Int32)) (f := 0) (e := 0 + 1) (by decide)]
    rw [(by decide : (1 : Int32).toInt.toNat = 1)]
    simp only [own_Dig, Int32.reduceAdd, e0, e1, e2, e3, e4, if_neg a0.1, if_neg a0.2.1]
    clear b0 b1 b2 b3 b4
    grind
  · have a0 := own_dig0 (own_bad1 b0 (by decide))
    rw [own_tin (v := v0) (k := (0 : Int32)) (f := 0) (e := 0 + 2) (by decide), a0.2.2, (by decide : F7 (((0 : Int32) + 2 - (1 : Int32)) - (0 : Int32)) = (10 : Int32))]
    have a1 := own_dig0 (own_bad1 b1 (by decide))
    rw [own_tin (v := v1) (k := (1 : Int32)) (f := 0) (e := 0 + 2) (by decide), a1.2.2, (by decide : F7 (((0 : Int32) + 2 - (1 : Int32)) - (1 : Int32)) = (1 : Int32))]
    rw [own_tout (v := v2) (k := (2 : Int32)) (f := 0) (e := 0 + 2) (by decide)]
    rw [own_tout (v := v3) (k := (3 : Int32)) (f := 0) (e := 0 + 2) (by decide)]
    rw [own_tout (v := v4) (k := (4 : Int32)) (f := 0) (e := 0 + 2) (by decide)]
    rw [(by decide : (2 : Int32).toInt.toNat = 2)]
    simp only [own_Dig, Int32.reduceAdd, e0, e1, e2, e3, e4, if_neg a0.1, if_neg a0.2.1, if_neg a1.1, if_neg a1.2.1]
    clear b0 b1 b2 b3 b4
    grind
  · have a0 := own_dig0 (own_bad1 b0 (by decide))
    rw [own_tin (v := v0) (k := (0 : Int32)) (f := 0) (e := 0 + 3) (by decide), a0.2.2, (by decide : F7 (((0 : Int32) + 3 - (1 : Int32)) - (0 : Int32)) = (100 : Int32))]
    have a1 := own_dig0 (own_bad1 b1 (by decide))
    rw [own_tin (v := v1) (k := (1 : Int32)) (f := 0) (e := 0 + 3) (by decide), a1.2.2, (by decide : F7 (((0 : Int32) + 3 - (1 : Int32)) - (1 : Int32)) = (10 : Int32))]
    have a2 := own_dig0 (own_bad1 b2 (by decide))
    rw [own_tin (v := v2) (k := (2 : Int32)) (f := 0) (e := 0 + 3) (by decide), a2.2.2, (by decide : F7 (((0 : Int32) + 3 - (1 : Int32)) - (2 : Int32)) = (1 : Int32))]
    rw [own_tout (v := v3) (k := (3 : Int32)) (f := 0) (e := 0 + 3) (by decide)]
    rw [own_tout (v := v4) (k := (4 : Int32)) (f := 0) (e := 0 + 3) (by decide)]
    rw [(by decide : (3 : Int32).toInt.toNat = 3)]
    simp only [own_Dig, Int32.reduceAdd, e0, e1, e2, e3, e4, if_neg a0.1, if_neg a0.2.1, if_neg a1.1, if_neg a1.2.1, if_neg a2.1, if_neg a2.2.1]
    clear b0 b1 b2 b3 b4
    grind
  · have a0 := own_dig0 (own_bad1 b0 (by decide))
    rw [own_tin (v := v0) (k := (0 : Int32)) (f := 0) (e := 0 + 4) (by decide), a0.2.2, (by decide : F7 (((0 : Int32) + 4 - (1 : Int32)) - (0 : Int32)) = (1000 : Int32))]
    have a1 := own_dig0 (own_bad1 b1 (by decide))
    rw [own_tin (v := v1) (k := (1 : Int32)) (f := 0) (e := 0 + 4) (by decide), a1.2.2, (by decide : F7 (((0 : Int32) + 4 - (1 : Int32)) - (1 : Int32)) = (100 : Int32))]
    have a2 := own_dig0 (own_bad1 b2 (by decide))
    rw [own_tin (v := v2) (k := (2 : Int32)) (f := 0) (e := 0 + 4) (by decide), a2.2.2, (by decide : F7 (((0 : Int32) + 4 - (1 : Int32)) - (2 : Int32)) = (10 : Int32))]
    have a3 := own_dig0 (own_bad1 b3 (by decide))
    rw [own_tin (v := v3) (k := (3 : Int32)) (f := 0) (e := 0 + 4) (by decide), a3.2.2, (by decide : F7 (((0 : Int32) + 4 - (1 : Int32)) - (3 : Int32)) = (1 : Int32))]
    rw [own_tout (v := v4) (k := (4 : Int32)) (f := 0) (e := 0 + 4) (by decide)]
    rw [(by decide : (4 : Int32).toInt.toNat = 4)]
    simp only [own_Dig, Int32.reduceAdd, e0, e1, e2, e3, e4, if_neg a0.1, if_neg a0.2.1, if_neg a1.1, if_neg a1.2.1, if_neg a2.1, if_neg a2.2.1, if_neg a3.1, if_neg a3.2.1]
    clear b0 b1 b2 b3 b4
    grind
  · have a0 := own_dig0 (own_bad1 b0 (by decide))
    rw [own_tin (v := v0) (k := (0 : Int32)) (f := 0) (e := 0 + 5) (by decide), a0.2.2, (by decide : F7 (((0 : Int32) + 5 - (1 : Int32)) - (0 : Int32)) = (10000 : Int32))]
    have a1 := own_dig0 (own_bad1 b1 (by decide))
    rw [own_tin (v := v1) (k := (1 : Int32)) (f := 0) (e := 0 + 5) (by decide), a1.2.2, (by decide : F7 (((0 : Int32) + 5 - (1 : Int32)) - (1 : Int32)) = (1000 : Int32))]
    have a2 := own_dig0 (own_bad1 b2 (by decide))
    rw [own_tin (v := v2) (k := (2 : Int32)) (f := 0) (e := 0 + 5) (by decide), a2.2.2, (by decide : F7 (((0 : Int32) + 5 - (1 : Int32)) - (2 : Int32)) = (100 : Int32))]
    have a3 := own_dig0 (own_bad1 b3 (by decide))
    rw [own_tin (v := v3) (k := (3 : Int32)) (f := 0) (e := 0 + 5) (by decide), a3.2.2, (by decide : F7 (((0 : Int32) + 5 - (1 : Int32)) - (3 : Int32)) = (10 : Int32))]
    have a4 := own_dig0 (own_bad1 b4 (by decide))
    rw [own_tin (v := v4) (k := (4 : Int32)) (f := 0) (e := 0 + 5) (by decide), a4.2.2, (by decide : F7 (((0 : Int32) + 5 - (1 : Int32)) - (4 : Int32)) = (1 : Int32))]
    rw [(by decide : (5 : Int32).toInt.toNat = 5)]
    simp only [own_Dig, Int32.reduceAdd, e0, e1, e2, e3, e4, if_neg a0.1, if_neg a0.2.1, if_neg a1.1, if_neg a1.2.1, if_neg a2.1, if_neg a2.2.1, if_neg a3.1, if_neg a3.2.1, if_neg a4.1, if_neg a4.2.1]
    clear b0 b1 b2 b3 b4
    grind
  · rw [own_tout (v := v0) (k := (0 : Int32)) (f := 1) (e := 1 + 0) (by decide)]
    rw [own_tout (v := v1) (k := (1 : Int32)) (f := 1) (e := 1 + 0) (by decide)]
    rw [own_tout (v := v2) (k := (2 : Int32)) (f := 1) (e := 1 + 0) (by decide)]
    rw [own_tout (v := v3) (k := (3 : Int32)) (f := 1) (e := 1 + 0) (by decide)]
    rw [own_tout (v := v4) (k := (4 : Int32)) (f := 1) (e := 1 + 0) (by decide)]
    rw [(by decide : (0 : Int32).toInt.toNat = 0)]
    simp only [own_Dig]
    clear b0 b1 b2 b3 b4
    decide
  · rw [own_tout (v := v0) (k := (0 : Int32)) (f := 1) (e := 1 + 1) (by decide)]
    have a1 := own_dig0 (own_bad1 b1 (by decide))
    rw [own_tin (v := v1) (k := (1 : Int32)) (f := 1) (e := 1 + 1) (by decide), a1.2.2, (by decide : F7 (((1 : Int32) + 1 - (1 : Int32)) - (1 : Int32)) = (1 : Int32))]
    rw [own_tout (v := v2) (k := (2 : Int32)) (f := 1) (e := 1 + 1) (by decide)]
    rw [own_tout (v := v3) (k := (3 : Int32)) (f := 1) (e := 1 + 1) (by decide)]
    rw [own_tout (v := v4) (k := (4 : Int32)) (f := 1) (e := 1 + 1) (by decide)]
    rw [(by decide : (1 : Int32).toInt.toNat = 1)]
    simp only [own_Dig, Int32.reduceAdd, e0, e1, e2, e3, e4, if_neg a1.1, if_neg a1.2.1]
    clear b0 b1 b2 b3 b4
    grind
  · rw [own_tout (v := v0) (k := (0 : Int32)) (f := 1) (e := 1 + 2) (by decide)]
    have a1 := own_dig0 (own_bad1 b1 (by decide))
    rw [own_tin (v := v1) (k := (1 : Int32)) (f := 1) (e := 1 + 2) (by decide), a1.2.2, (by decide : F7 (((1 : Int32) + 2 - (1 : Int32)) - (1 : Int32)) = (10 : Int32))]
    have a2 := own_dig0 (own_bad1 b2 (by decide))
    rw [own_tin (v := v2) (k := (2 : Int32)) (f := 1) (e := 1 + 2) (by decide), a2.2.2, (by decide : F7 (((1 : Int32) + 2 - (1 : Int32)) - (2 : Int32)) = (1 : Int32))]
    rw [own_tout (v := v3) (k := (3 : Int32)) (f := 1) (e := 1 + 2) (by decide)]
    rw [own_tout (v := v4) (k := (4 : Int32)) (f := 1) (e := 1 + 2) (by decide)]
    rw [(by decide : (2 : Int32).toInt.toNat = 2)]
    simp only [own_Dig, Int32.reduceAdd, e0, e1, e2, e3, e4, if_neg a1.1, if_neg a1.2.1, if_neg a2.1, if_neg a2.2.1]
    clear b0 b1 b2 b3 b4
    grind
  · rw [own_tout (v := v0) (k := (0 : Int32)) (f := 1) (e := 1 + 3) (by decide)]
    have a1 := own_dig0 (own_bad1 b1 (by decide))
    rw [own_tin (v := v1) (k := (1 : Int32)) (f := 1) (e := 1 + 3) (by decide), a1.2.2, (by decide : F7 (((1 : Int32) + 3 - (1 : Int32)) - (1 : Int32)) = (100 : Int32))]
    have a2 := own_dig0 (own_bad1 b2 (by decide))
    rw [own_tin (v := v2) (k := (2 : Int32)) (f := 1) (e := 1 + 3) (by decide), a2.2.2, (by decide : F7 (((1 : Int32) + 3 - (1 : Int32)) - (2 : Int32)) = (10 : Int32))]
    have a3 := own_dig0 (own_bad1 b3 (by decide))
    rw [own_tin (v := v3) (k := (3 : Int32)) (f := 1) (e := 1 + 3) (by decide), a3.2.2, (by decide : F7 (((1 : Int32) + 3 - (1 : Int32)) - (3 : Int32)) = (1 : Int32))]
    rw [own_tout (v := v4) (k := (4 : Int32)) (f := 1) (e := 1 + 3) (by decide)]
    rw [(by decide : (3 : Int32).toInt.toNat = 3)]
    simp only [own_Dig, Int32.reduceAdd, e0, e1, e2, e3, e4, if_neg a1.1, if_neg a1.2.1, if_neg a2.1, if_neg a2.2.1, if_neg a3.1, if_neg a3.2.1]
    clear b0 b1 b2 b3 b4
    grind
  · rw [own_tout (v := v0) (k := (0 : Int32)) (f := 1) (e := 1 + 4) (by decide)]
    have a1 := own_dig0 (own_bad1 b1 (by decide))
    rw [own_tin (v := v1) (k := (1 : Int32)) (f := 1) (e := 1 + 4) (by decide), a1.2.2, (by decide : F7 (((1 : Int32) + 4 - (1 : Int32)) - (1 : Int32)) = (1000 : Int32))]
    have a2 := own_dig0 (own_bad1 b2 (by decide))
    rw [own_tin (v := v2) (k := (2 : Int32)) (f := 1) (e := 1 + 4) (by decide), a2.2.2, (by decide : F7 (((1 : Int32) + 4 - (1 : Int32)) - (2 : Int32)) = (100 : Int32))]
    have a3 := own_dig0 (own_bad1 b3 (by decide))
    rw [own_tin (v := v3) (k := (3 : Int32)) (f := 1) (e := 1 + 4) (by decide), a3.2.2, (by decide : F7 (((1 : Int32) + 4 - (1 : Int32)) - (3 : Int32)) = (10 : Int32))]
    have a4 := own_dig0 (own_bad1 b4 (by decide))
    rw [own_tin (v := v4) (k := (4 : Int32)) (f := 1) (e := 1 + 4) (by decide), a4.2.2, (by decide : F7 (((1 : Int32) + 4 - (1 : Int32)) - (4 : Int32)) = (1 : Int32))]
    rw [(by decide : (4 : Int32).toInt.toNat = 4)]
    simp only [own_Dig, Int32.reduceAdd, e0, e1, e2, e3, e4, if_neg a1.1, if_neg a1.2.1, if_neg a2.1, if_neg a2.2.1, if_neg a3.1, if_neg a3.2.1, if_neg a4.1, if_neg a4.2.1]
    clear b0 b1 b2 b3 b4
    grind
  · rw [own_tout (v := v0) (k := (0 : Int32)) (f := 2) (e := 2 + 0) (by decide)]
    rw [own_tout (v := v1) (k := (1 : Int32)) (f := 2) (e := 2 + 0) (by decide)]
    rw [own_tout (v := v2) (k := (2 : Int32)) (f := 2) (e := 2 + 0) (by decide)]
    rw [own_tout (v := v3) (k := (3 : Int32)) (f := 2) (e := 2 + 0) (by decide)]
    rw [own_tout (v := v4) (k := (4 : Int32)) (f := 2) (e := 2 + 0) (by decide)]
    rw [(by decide : (0 : Int32).toInt.toNat = 0)]
    simp only [own_Dig]
    clear b0 b1 b2 b3 b4
    decide
  · rw [own_tout (v := v0) (k := (0 : Int32)) (f := 2) (e := 2 + 1) (by decide)]
    rw [own_tout (v := v1) (k := (1 : Int32)) (f := 2) (e := 2 + 1) (by decide)]
    have a2 := own_dig0 (own_bad1 b2 (by decide))
    rw [own_tin (v := v2) (k := (2 : Int32)) (f := 2) (e := 2 + 1) (by decide), a2.2.2, (by decide : F7 (((2 : Int32) + 1 - (1 : Int32)) - (2 : Int32)) = (1 : Int32))]
    rw [own_tout (v := v3) (k := (3 : Int32)) (f := 2) (e := 2 + 1) (by decide)]
    rw [own_tout (v := v4) (k := (4 : Int32)) (f := 2) (e := 2 + 1) (by decide)]
    rw [(by decide : (1 : Int32).toInt.toNat = 1)]
    simp only [own_Dig, Int32.reduceAdd, e0, e1, e2, e3, e4, if_neg a2.1, if_neg a2.2.1]
    clear b0 b1 b2 b3 b4
    grind
  · rw [own_tout (v := v0) (k := (0 : Int32)) (f := 2) (e := 2 + 2) (by decide)]
    rw [own_tout (v := v1) (k := (1 : Int32)) (f := 2) (e := 2 + 2) (by decide)]
    have a2 := own_dig0 (own_bad1 b2 (by decide))
    rw [own_tin (v := v2) (k := (2 : Int32)) (f := 2) (e := 2 + 2) (by decide), a2.2.2, (by decide : F7 (((2 : Int32) + 2 - (1 : Int32)) - (2 : Int32)) = (10 : Int32))]
    have a3 := own_dig0 (own_bad1 b3 (by decide))
    rw [own_tin (v := v3) (k := (3 : Int32)) (f := 2) (e := 2 + 2) (by decide), a3.2.2, (by decide : F7 (((2 : Int32) + 2 - (1 : Int32)) - (3 : Int32)) = (1 : Int32))]
    rw [own_tout (v := v4) (k := (4 : Int32)) (f := 2) (e := 2 + 2) (by decide)]
    rw [(by decide : (2 : Int32).toInt.toNat = 2)]
    simp only [own_Dig, Int32.reduceAdd, e0, e1, e2, e3, e4, if_neg a2.1, if_neg a2.2.1, if_neg a3.1, if_neg a3.2.1]
    clear b0 b1 b2 b3 b4
    grind
  · rw [own_tout (v := v0) (k := (0 : Int32)) (f := 2) (e := 2 + 3) (by decide)]
    rw [own_tout (v := v1) (k := (1 : Int32)) (f := 2) (e := 2 + 3) (by decide)]
    have a2 := own_dig0 (own_bad1 b2 (by decide))
    rw [own_tin (v := v2) (k := (2 : Int32)) (f := 2) (e := 2 + 3) (by decide), a2.2.2, (by decide : F7 (((2 : Int32) + 3 - (1 : Int32)) - (2 : Int32)) = (100 : Int32))]
    have a3 := own_dig0 (own_bad1 b3 (by decide))
    rw [own_tin (v := v3) (k := (3 : Int32)) (f := 2) (e := 2 + 3) (by decide), a3.2.2, (by decide : F7 (((2 : Int32) + 3 - (1 : Int32)) - (3 : Int32)) = (10 : Int32))]
    have a4 := own_dig0 (own_bad1 b4 (by decide))
    rw [own_tin (v := v4) (k := (4 : Int32)) (f := 2) (e := 2 + 3) (by decide), a4.2.2, (by decide : F7 (((2 : Int32) + 3 - (1 : Int32)) - (4 : Int32)) = (1 : Int32))]
    rw [(by decide : (3 : Int32).toInt.toNat = 3)]
    simp only [own_Dig, Int32.reduceAdd, e0, e1, e2, e3, e4, if_neg a2.1, if_neg a2.2.1, if_neg a3.1, if_neg a3.2.1, if_neg a4.1, if_neg a4.2.1]
    clear b0 b1 b2 b3 b4
    grind
  · rw [own_tout (v := v0) (k := (0 : Int32)) (f := 3) (e := 3 + 0) (by decide)]
    rw [own_tout (v := v1) (k := (1 : Int32)) (f := 3) (e := 3 + 0) (by decide)]
    rw [own_tout (v := v2) (k := (2 : Int32)) (f := 3) (e := 3 + 0) (by decide)]
    rw [own_tout (v := v3) (k := (3 : Int32)) (f := 3) (e := 3 + 0) (by decide)]
    rw [own_tout (v := v4) (k := (4 : Int32)) (f := 3) (e := 3 + 0) (by decide)]
    rw [(by decide : (0 : Int32).toInt.toNat = 0)]
    simp only [own_Dig]
    clear b0 b1 b2 b3 b4
    decide
  · rw [own_tout (v := v0) (k := (0 : Int32)) (f := 3) (e := 3 + 1) (by decide)]
    rw [own_tout (v := v1) (k := (1 : Int32)) (f := 3) (e := 3 + 1) (by decide)]
    rw [own_tout (v := v2) (k := (2 : Int32)) (f := 3) (e := 3 + 1) (by decide)]
    have a3 := own_dig0 (own_bad1 b3 (by decide))
    rw [own_tin (v := v3) (k := (3 : Int32)) (f := 3) (e := 3 + 1) (by decide), a3.2.2, (by decide : F7 (((3 : Int32) + 1 - (1 : Int32)) - (3 : Int32)) = (1 : Int32))]
    rw [own_tout (v := v4) (k := (4 : Int32)) (f := 3) (e := 3 + 1) (by decide)]
    rw [(by decide : (1 : Int32).toInt.toNat = 1)]
    simp only [own_Dig, Int32.reduceAdd, e0, e1, e2, e3, e4, if_neg a3.1, if_neg a3.2.1]
    clear b0 b1 b2 b3 b4
    grind
  · rw [own_tout (v := v0) (k := (0 : Int32)) (f := 3) (e := 3 + 2) (by decide)]
    rw [own_tout (v := v1) (k := (1 : Int32)) (f := 3) (e := 3 + 2) (by decide)]
    rw [own_tout (v := v2) (k := (2 : Int32)) (f := 3) (e := 3 + 2) (by decide)]
    have a3 := own_dig0 (own_bad1 b3 (by decide))
    rw [own_tin (v := v3) (k := (3 : Int32)) (f := 3) (e := 3 + 2) (by decide), a3.2.2, (by decide : F7 (((3 : Int32) + 2 - (1 : Int32)) - (3 : Int32)) = (10 : Int32))]
    have a4 := own_dig0 (own_bad1 b4 (by decide))
    rw [own_tin (v := v4) (k := (4 : Int32)) (f := 3) (e := 3 + 2) (by decide), a4.2.2, (by decide : F7 (((3 : Int32) + 2 - (1 : Int32)) - (4 : Int32)) = (1 : Int32))]
    rw [(by decide : (2 : Int32).toInt.toNat = 2)]
    simp only [own_Dig, Int32.reduceAdd, e0, e1, e2, e3, e4, if_neg a3.1, if_neg a3.2.1, if_neg a4.1, if_neg a4.2.1]
    clear b0 b1 b2 b3 b4
    grind
  · rw [own_tout (v := v0) (k := (0 : Int32)) (f := 4) (e := 4 + 0) (by decide)]
    rw [own_tout (v := v1) (k := (1 : Int32)) (f := 4) (e := 4 + 0) (by decide)]
    rw [own_tout (v := v2) (k := (2 : Int32)) (f := 4) (e := 4 + 0) (by decide)]
    rw [own_tout (v := v3) (k := (3 : Int32)) (f := 4) (e := 4 + 0) (by decide)]
    rw [own_tout (v := v4) (k := (4 : Int32)) (f := 4) (e := 4 + 0) (by decide)]
    rw [(by decide : (0 : Int32).toInt.toNat = 0)]
    simp only [own_Dig]
    clear b0 b1 b2 b3 b4
    decide
  · rw [own_tout (v := v0) (k := (0 : Int32)) (f := 4) (e := 4 + 1) (by decide)]
    rw [own_tout (v := v1) (k := (1 : Int32)) (f := 4) (e := 4 + 1) (by decide)]
    rw [own_tout (v := v2) (k := (2 : Int32)) (f := 4) (e := 4 + 1) (by decide)]
    rw [own_tout (v := v3) (k := (3 : Int32)) (f := 4) (e := 4 + 1) (by decide)]
    have a4 := own_dig0 (own_bad1 b4 (by decide))
    rw [own_tin (v := v4) (k := (4 : Int32)) (f := 4) (e := 4 + 1) (by decide), a4.2.2, (by decide : F7 (((4 : Int32) + 1 - (1 : Int32)) - (4 : Int32)) = (1 : Int32))]
    rw [(by decide : (1 : Int32).toInt.toNat = 1)]
    simp only [own_Dig, Int32.reduceAdd, e0, e1, e2, e3, e4, if_neg a4.1, if_neg a4.2.1]
    clear b0 b1 b2 b3 b4
    grind
  · rw [own_tout (v := v0) (k := (0 : Int32)) (f := 5) (e := 5 + 0) (by decide)]
    rw [own_tout (v := v1) (k := (1 : Int32)) (f := 5) (e := 5 + 0) (by decide)]
    rw [own_tout (v := v2) (k := (2 : Int32)) (f := 5) (e := 5 + 0) (by decide)]
    rw [own_tout (v := v3) (k := (3 : Int32)) (f := 5) (e := 5 + 0) (by decide)]
    rw [own_tout (v := v4) (k := (4 : Int32)) (f := 5) (e := 5 + 0) (by decide)]
    rw [(by decide : (0 : Int32).toInt.toNat = 0)]
    simp only [own_Dig]
    clear b0 b1 b2 b3 b4
    decide
theorem own_Hv {cl : Cell} {v0 v1 v2 v3 v4 : Int32} (S : cl.slots.size = 5) (H : Has cl [(.int v0), (.int v1), (.int v2), (.int v3), (.int v4)] (.int (0 : Int32))) : ∀ j : Int32, ¬ (j < 0 ∨ cl.slots.size ≤ j.toNatClampNeg) → cl.slots[j.toNatClampNeg]? = some (.int (atv cl j)) := by
  intro j hj
  have hlt : j.toNatClampNeg < cl.slots.size := Nat.lt_of_not_le fun y => hj (Or.inr y)
  have h := H _ hlt
  rw [S] at hlt
  have : ∃ x, cl.slots[j.toNatClampNeg]? = some (.int x) := by
    rw [h]
    generalize j.toNatClampNeg = k at hlt
    rcases (by omega : k = 0 ∨ k = 1 ∨ k = 2 ∨ k = 3 ∨ k = 4) with rfl | rfl | rfl | rfl | rfl <;> exact ⟨_, rfl⟩
  obtain ⟨x, hx⟩ := this
  rw [atv_of hx]; exact hx
theorem pn_0 : plainName "com/example/platemark/platemark/records/Iso2709DigitsPinLaw" = true := by first | (simp [plainName, overriddenIn]; done) | decide +kernel
theorem pd_0_0 : parseMethodDescriptor "(I)B" = some ⟨[.int], some .byte⟩ := by decide +kernel
theorem pd_0_1 : parseMethodDescriptor "(BIII)Z" = some ⟨[.byte, .int, .int, .int], some .boolean⟩ := by decide +kernel
theorem pd_0_2 : parseMethodDescriptor "(BIII)I" = some ⟨[.byte, .int, .int, .int], some .int⟩ := by decide +kernel
theorem pd_0_3 : parseMethodDescriptor "([BII)I" = some ⟨[(.array .byte), .int, .int], some .int⟩ := by decide +kernel
theorem ef_0 (m : MethodId) (x0 : Int32) (x1 : Int32) (x2 : Int32) (x3 : Int32) (x4 : Int32) (x5 : Int32) : entryFrame m #[(.int x0), (.int x1), (.int x2), (.int x3), (.int x4), (.int x5)] maxLocals = mkF m 0 #[.val (.int x0), .val (.int x1), .val (.int x2), .val (.int x3), .val (.int x4), .val (.int x5), .unset, .unset, .unset, .unset, .unset, .unset] [] := by first | (simp [entryFrame, mkF, argsToLocals, Value.category, maxLocals]; done) | rfl
def Q0 (Z : State) (p0 : Int32) (p1 : Int32) (p2 : Int32) (p3 : Int32) (p4 : Int32) (p5 : Int32) (h0 : Heap) (n0 : Nat) (v : Option Value) (h : Heap) (L : List Loc) : Prop := v = some (.int (1 : Int32)) ∧ Fr n0 L
set_option maxRecDepth 65536 in
set_option maxHeartbeats 40000000 in
theorem rm0 (l : Launch) (Z : State) (ta : Array Value) (hw : ∀ d ∈ tables_1, d.before ta Z = true) (ws : List Jvm.Cond) (p0 : Int32) (p1 : Int32) (p2 : Int32) (p3 : Int32) (p4 : Int32) (p5 : Int32)  (h0 : Heap) (n0 : Nat) (Z0 : n0 ≤ h0.size) :
    MetFree l x (head1 (Jvm.Cond.code x code maxLocals ret :: ws) room_1) (fun a U => a = #[(.int p0), (.int p1), (.int p2), (.int p3), (.int p4), (.int p5)] ∧ Z.Warmed39 U.vm ∧ U.heap = h0) (fun _ _ _ _ _ => True) (fun _ U o U' => ∃ v L, o = .returned v ∧ Q0 Z p0 p1 p2 p3 p4 p5  h0 n0 v U'.heap L ∧ FrameEnd U o U' L room_1.cells room_1.slots) := by
  refine MetFree.of_bodySF (plainFor_of_name pn_0) hisR ?_
  intro p e s m args below meth c s₁ Bd hml0 hP hK
  obtain ⟨rfl, hZ, hh⟩ := hP
  have hx := Bd.exec
  have hby := Bd.bytes
  have hml : c.maxLocals = 12 := hml0
  have hown : s.vm.findClass "com/example/platemark/platemark/records/Iso2709DigitsPinLaw" = some m.cls := findClass_of_methodNamed Bd.named
  have hnm := (name_of_methodNamed Bd.named Bd.method).1
  have X0 : Stand p l e room_1 s m #[(.int p0), (.int p1), (.int p2), (.int p3), (.int p4), (.int p5)] below meth c s₁ [] 0 0 := Stand.of_body Bd
  have e0 : s₁.heap = h0 := by rw [← hh, Bd.state]; rfl
  have N0 := Fr.nil n0
  refine own_go (B := (s₁.setTop (mkF m 0 #[.val (.int p0), .val (.int p1), .val (.int p2), .val (.int p3), .val (.int p4), .val (.int p5), .unset, .unset, .unset, .unset, .unset, .unset] []))) (fun t k => castTop (ef_0 m p0 p1 p2 p3 p4 p5) k) ?_
  refine own_go (B := (s₁.setTop (mkF m 1 #[.val (.int p0), .val (.int p1), .val (.int p2), .val (.int p3), .val (.int p4), .val (.int p5), .unset, .unset, .unset, .unset, .unset, .unset] [(.int (5 : Int32))]))) (fun t k => XS.iconst X0.here hx rfl (hb hby at_0) k) ?_
  obtain ⟨T1, h1, k1, X1, e1, E1, A1, st1⟩ := newP X0 hx hZ (hw _ (List.mem_of_getElem? (i := 0) rfl)) e0 (g := (mkF m 1 #[.val (.int p0), .val (.int p1), .val (.int p2), .val (.int p3), .val (.int p4), .val (.int p5), .unset, .unset, .unset, .unset, .unset, .unset] [(.int (5 : Int32))])) rfl (hb hby at_1) rfl (by decide) (cap := 5) (by decide) (by decide) (by decide) (by decide)
  obtain ⟨b1, g1⟩ : ∃ z, z = h0.size := ⟨_, rfl⟩
  rw [← g1] at A1 st1
  have g_b1 : n0 ≤ b1 := Nat.le_trans Z0 (Nat.le_of_eq g1.symm)
  have Zs1 : n0 ≤ h1.size := Nat.le_trans Z0 E1.1
  have V_b1 : Arv Z h1 b1 k1 .byte (5 : Int32) [(.int (0 : Int32)), (.int (0 : Int32)), (.int (0 : Int32)), (.int (0 : Int32)), (.int (0 : Int32))] (.int (0 : Int32)) := (Arv.new A1 (by decide)).pad (pad_rep [] (.int (0 : Int32)) 5)
  refine own_go (B := (T1.setTop (mkF m 3 #[.val (.int p0), .val (.int p1), .val (.int p2), .val (.int p3), .val (.int p4), .val (.int p5), .unset, .unset, .unset, .unset, .unset, .unset] [(.ref b1)]))) (fun t k => st1 _ k) ?_
  refine own_go (B := (T1.setTop (mkF m 5 #[.val (.int p0), .val (.int p1), .val (.int p2), .val (.int p3), .val (.int p4), .val (.int p5), .val (.ref b1), .unset, .unset, .unset, .unset, .unset] []))) (fun t k => XS.astore X1.here hx rfl (hb hby at_3) rfl rfl (l' := #[.val (.int p0), .val (.int p1), .val (.int p2), .val (.int p3), .val (.int p4), .val (.int p5), .val (.ref b1), .unset, .unset, .unset, .unset, .unset]) rfl k) ?_
  refine own_go (B := (T1.setTop (mkF m 7 #[.val (.int p0), .val (.int p1), .val (.int p2), .val (.int p3), .val (.int p4), .val (.int p5), .val (.ref b1), .unset, .unset, .unset, .unset, .unset] [(.ref b1)]))) (fun t k => XS.aload X1.here hx rfl (hb hby at_5) rfl rfl k) ?_
  refine own_go (B := (T1.setTop (mkF m 8 #[.val (.int p0), .val (.int p1), .val (.int p2), .val (.int p3), .val (.int p4), .val (.int p5), .val (.ref b1), .unset, .unset, .unset, .unset, .unset] [(.int (0 : Int32)), (.ref b1)]))) (fun t k => XS.iconst X1.here hx rfl (hb hby at_7) k) ?_
  refine own_go (B := (T1.setTop (mkF m 9 #[.val (.int p0), .val (.int p1), .val (.int p2), .val (.int p3), .val (.int p4), .val (.int p5), .val (.ref b1), .unset, .unset, .unset, .unset, .unset] [(.int p0), (.int (0 : Int32)), (.ref b1)]))) (fun t k => XS.iloadN X1.here hx rfl (hb hby at_8) rfl k) ?_
  obtain ⟨_, _, ⟨T2, L2, k2, n2⟩, -, X2, ⟨Lc2, hQ2, l2, y2, z2⟩, st2⟩ := Jvm.LawKit.callS X1 hx (y := (⟨"com/example/platemark/platemark/records/Iso2709DigitsPinLaw", "mk", "(I)B"⟩ : MethodName)) hown (mvT hZ (hw _ (List.mem_of_getElem? (i := 1) rfl))) (mvT hZ (hw _ (List.mem_of_getElem? (i := 2) rfl))) (mvT hZ (hw _ (List.mem_of_getElem? (i := 3) rfl))) (mvT hZ (hw _ (List.mem_of_getElem? (i := 4) rfl))) (by decide) (backOf (W := 2) (rm1 l Z ta hw [] p0  h1 n0 ) hZ (hw _ (List.mem_of_getElem? (i := 4) rfl)) (hw _ (List.mem_of_getElem? (i := 3) rfl)) (by decide) (by decide)) (g := (mkF m 9 #[.val (.int p0), .val (.int p1), .val (.int p2), .val (.int p3), .val (.int p4), .val (.int p5), .val (.ref b1), .unset, .unset, .unset, .unset, .unset] [(.int p0), (.int (0 : Int32)), (.ref b1)])) rfl (by rw [hml]; rfl) (argsL := [(.int p0)]) (rest := [(.int (0 : Int32)), (.ref b1)]) (lenOf pd_0_0 rfl) rfl (by show 2 * 0 + _ ≤ _; exact Nat.le_of_eq rfl) (hb hby at_9) (fun _ _ => ⟨rfl, e1, (by decide : (0 + 1) + 0 ≤ _), (by decide : (0 + 5) + 0 ≤ _)⟩)
  dsimp only [Pt.U, Pt.locs, Pt.cells, Pt.slots] at X2 l2 y2 z2 st2 hQ2
  subst l2 y2 z2
  obtain ⟨rfl, N2q, e2⟩ := hQ2
  replace e2 := e2
  have N2 := Fr.app N0 N2q
  refine own_go (B := (T2.setTop (mkF m 12 #[.val (.int p0), .val (.int p1), .val (.int p2), .val (.int p3), .val (.int p4), .val (.int p5), .val (.ref b1), .unset, .unset, .unset, .unset, .unset] [(.int (F1 p0)), (.int (0 : Int32)), (.ref b1)]))) (fun t k => st2 _ k) ?_
  obtain ⟨cl3, Ar3, q3, S3, Nn3, H3, G3⟩ := id V_b1
  have hin3 : ¬ ((0 : Int32) < 0 ∨ cl3.slots.size ≤ ((0 : Int32)).toNatClampNeg) := inb_of S3 ⟨by decide, by decide⟩
  obtain ⟨T3, h3, X3, e3, W3, st3⟩ := stB X2 hx hZ e2 Ar3 (j := (0 : Int32)) hin3 (g := (mkF m 12 #[.val (.int p0), .val (.int p1), .val (.int p2), .val (.int p3), .val (.int p4), .val (.int p5), .val (.ref b1), .unset, .unset, .unset, .unset, .unset] [(.int (F1 p0)), (.int (0 : Int32)), (.ref b1)])) rfl rfl (hb hby at_12)
  have V_b1_3 : Arv Z h3 b1 k1 .byte (5 : Int32) [(.int (nar .byte (F1 p0))), (.int (0 : Int32)), (.int (0 : Int32)), (.int (0 : Int32)), (.int (0 : Int32))] (.int (0 : Int32)) := Arv.set Ar3 q3 S3 Nn3 H3 G3 (fits_nar_byte _) W3 0 rfl (Nat.le_of_ble_eq_true rfl)
  have Zs3 : n0 ≤ h3.size := Nat.le_trans Zs1 (Keep.of_wr W3).1
  have N3 := Fr.snoc X3 N2 g_b1
  refine own_go (B := (T3.setTop (mkF m 13 #[.val (.int p0), .val (.int p1), .val (.int p2), .val (.int p3), .val (.int p4), .val (.int p5), .val (.ref b1), .unset, .unset, .unset, .unset, .unset] []))) (fun t k => st3 _ k) ?_
  refine own_go (B := (T3.setTop (mkF m 15 #[.val (.int p0), .val (.int p1), .val (.int p2), .val (.int p3), .val (.int p4), .val (.int p5), .val (.ref b1), .unset, .unset, .unset, .unset, .unset] [(.ref b1)]))) (fun t k => XS.aload X3.here hx rfl (hb hby at_13) rfl rfl k) ?_
  refine own_go (B := (T3.setTop (mkF m 16 #[.val (.int p0), .val (.int p1), .val (.int p2), .val (.int p3), .val (.int p4), .val (.int p5), .val (.ref b1), .unset, .unset, .unset, .unset, .unset] [(.int (1 : Int32)), (.ref b1)]))) (fun t k => XS.iconst X3.here hx rfl (hb hby at_15) k) ?_
  refine own_go (B := (T3.setTop (mkF m 17 #[.val (.int p0), .val (.int p1), .val (.int p2), .val (.int p3), .val (.int p4), .val (.int p5), .val (.ref b1), .unset, .unset, .unset, .unset, .unset] [(.int p1), (.int (1 : Int32)), (.ref b1)]))) (fun t k => XS.iloadN X3.here hx rfl (hb hby at_16) rfl k) ?_
  obtain ⟨_, _, ⟨T4, L4, k4, n4⟩, -, X4, ⟨Lc4, hQ4, l4, y4, z4⟩, st4⟩ := Jvm.LawKit.callS X3 hx (y := (⟨"com/example/platemark/platemark/records/Iso2709DigitsPinLaw", "mk", "(I)B"⟩ : MethodName)) hown (mvT hZ (hw _ (List.mem_of_getElem? (i := 1) rfl))) (mvT hZ (hw _ (List.mem_of_getElem? (i := 2) rfl))) (mvT hZ (hw _ (List.mem_of_getElem? (i := 3) rfl))) (mvT hZ (hw _ (List.mem_of_getElem? (i := 4) rfl))) (by decide) (backOf (W := 2) (rm1 l Z ta hw [] p1  h3 n0 ) hZ (hw _ (List.mem_of_getElem? (i := 4) rfl)) (hw _ (List.mem_of_getElem? (i := 3) rfl)) (by decide) (by decide)) (g := (mkF m 17 #[.val (.int p0), .val (.int p1), .val (.int p2), .val (.int p3), .val (.int p4), .val (.int p5), .val (.ref b1), .unset, .unset, .unset, .unset, .unset] [(.int p1), (.int (1 : Int32)), (.ref b1)])) rfl (by rw [hml]; rfl) (argsL := [(.int p1)]) (rest := [(.int (1 : Int32)), (.ref b1)]) (lenOf pd_0_0 rfl) rfl (by show 2 * 0 + _ ≤ _; exact Nat.le_of_eq rfl) (hb hby at_17) (fun _ _ => ⟨rfl, e3, (by decide : ((0 + 1) + 0) + 0 ≤ _), (by decide : ((0 + 5) + 0) + 0 ≤ _)⟩)
  dsimp only [Pt.U, Pt.locs, Pt.cells, Pt.slots] at X4 l4 y4 z4 st4 hQ4
  subst l4 y4 z4
  obtain ⟨rfl, N4q, e4⟩ := hQ4
  replace e4 := e4
  have N4 := Fr.app N3 N4q
  refine own_go (B := (T4.setTop (mkF m 20 #[.val (.int p0), .val (.int p1), .val (.int p2), .val (.int p3), .val (.int p4), .val (.int p5), .val (.ref b1), .unset, .unset, .unset, .unset, .unset] [(.int (F1 p1)), (.int (1 : Int32)), (.ref b1)]))) (fun t k => st4 _ k) ?_
  obtain ⟨cl5, Ar5, q5, S5, Nn5, H5, G5⟩ := id V_b1_3
  have hin5 : ¬ ((1 : Int32) < 0 ∨ cl5.slots.size ≤ ((1 : Int32)).toNatClampNeg) := inb_of S5 ⟨by decide, by decide⟩
  obtain ⟨T5, h5, X5, e5, W5, st5⟩ := stB X4 hx hZ e4 Ar5 (j := (1 : Int32)) hin5 (g := (mkF m 20 #[.val (.int p0), .val (.int p1), .val (.int p2), .val (.int p3), .val (.int p4), .val (.int p5), .val (.ref b1), .unset, .unset, .unset, .unset, .unset] [(.int (F1 p1)), (.int (1 : Int32)), (.ref b1)])) rfl rfl (hb hby at_20)
  have V_b1_5 : Arv Z h5 b1 k1 .byte (5 : Int32) [(.int (nar .byte (F1 p0))), (.int (nar .byte (F1 p1))), (.int (0 : Int32)), (.int (0 : Int32)), (.int (0 : Int32))] (.int (0 : Int32)) := Arv.set Ar5 q5 S5 Nn5 H5 G5 (fits_nar_byte _) W5 1 rfl (Nat.le_of_ble_eq_true rfl)
  have Zs5 : n0 ≤ h5.size := Nat.le_trans Zs3 (Keep.of_wr W5).1
  have N5 := Fr.snoc X5 N4 g_b1
  refine own_go (B := (T5.setTop (mkF m 21 #[.val (.int p0), .val (.int p1), .val (.int p2), .val (.int p3), .val (.int p4), .val (.int p5), .val (.ref b1), .unset, .unset, .unset, .unset, .unset] []))) (fun t k => st5 _ k) ?_
  refine own_go (B := (T5.setTop (mkF m 23 #[.val (.int p0), .val (.int p1), .val (.int p2), .val (.int p3), .val (.int p4), .val (.int p5), .val (.ref b1), .unset, .unset, .unset, .unset, .unset] [(.ref b1)]))) (fun t k => XS.aload X5.here hx rfl (hb hby at_21) rfl rfl k) ?_
  refine own_go (B := (T5.setTop (mkF m 24 #[.val (.int p0), .val (.int p1), .val (.int p2), .val (.int p3), .val (.int p4), .val (.int p5), .val (.ref b1), .unset, .unset, .unset, .unset, .unset] [(.int (2 : Int32)), (.ref b1)]))) (fun t k => XS.iconst X5.here hx rfl (hb hby at_23) k) ?_
  refine own_go (B := (T5.setTop (mkF m 25 #[.val (.int p0), .val (.int p1), .val (.int p2), .val (.int p3), .val (.int p4), .val (.int p5), .val (.ref b1), .unset, .unset, .unset, .unset, .unset] [(.int p2), (.int (2 : Int32)), (.ref b1)]))) (fun t k => XS.iloadN X5.here hx rfl (hb hby at_24) rfl k) ?_
  obtain ⟨_, _, ⟨T6, L6, k6, n6⟩, -, X6, ⟨Lc6, hQ6, l6, y6, z6⟩, st6⟩ := Jvm.LawKit.callS X5 hx (y := (⟨"com/example/platemark/platemark/records/Iso2709DigitsPinLaw", "mk", "(I)B"⟩ : MethodName)) hown (mvT hZ (hw _ (List.mem_of_getElem? (i := 1) rfl))) (mvT hZ (hw _ (List.mem_of_getElem? (i := 2) rfl))) (mvT hZ (hw _ (List.mem_of_getElem? (i := 3) rfl))) (mvT hZ (hw _ (List.mem_of_getElem? (i := 4) rfl))) (by decide) (backOf (W := 2) (rm1 l Z ta hw [] p2  h5 n0 ) hZ (hw _ (List.mem_of_getElem? (i := 4) rfl)) (hw _ (List.mem_of_getElem? (i := 3) rfl)) (by decide) (by decide)) (g := (mkF m 25 #[.val (.int p0), .val (.int p1), .val (.int p2), .val (.int p3), .val (.int p4), .val (.int p5), .val (.ref b1), .unset, .unset, .unset, .unset, .unset] [(.int p2), (.int (2 : Int32)), (.ref b1)])) rfl (by rw [hml]; rfl) (argsL := [(.int p2)]) (rest := [(.int (2 : Int32)), (.ref b1)]) (lenOf pd_0_0 rfl) rfl (by show 2 * 0 + _ ≤ _; exact Nat.le_of_eq rfl) (hb hby at_25) (fun _ _ => ⟨rfl, e5, (by decide : (((0 + 1) + 0) + 0) + 0 ≤ _), (by decide : (((0 + 5) + 0) + 0) + 0 ≤ _)⟩)
  dsimp only [Pt.U, Pt.locs, Pt.cells, Pt.slots] at X6 l6 y6 z6 st6 hQ6
  subst l6 y6 z6
  obtain ⟨rfl, N6q, e6⟩ := hQ6
  replace e6 := e6
  have N6 := Fr.app N5 N6q
  refine own_go (B := (T6.setTop (mkF m 28 #[.val (.int p0), .val (.int p1), .val (.int p2), .val (.int p3), .val (.int p4), .val (.int p5), .val (.ref b1), .unset, .unset, .unset, .unset, .unset] [(.int (F1 p2)), (.int (2 : Int32)), (.ref b1)]))) (fun t k => st6 _ k) ?_
  obtain ⟨cl7, Ar7, q7, S7, Nn7, H7, G7⟩ := id V_b1_5
  have hin7 : ¬ ((2 : Int32) < 0 ∨ cl7.slots.size ≤ ((2 : Int32)).toNatClampNeg) := inb_of S7 ⟨by decide, by decide⟩
  obtain ⟨T7, h7, X7, e7, W7, st7⟩ := stB X6 hx hZ e6 Ar7 (j := (2 : Int32)) hin7 (g := (mkF m 28 #[.val (.int p0), .val (.int p1), .val (.int p2), .val (.int p3), .val (.int p4), .val (.int p5), .val (.ref b1), .unset, .unset, .unset, .unset, .unset] [(.int (F1 p2)), (.int (2 : Int32)), (.ref b1)])) rfl rfl (hb hby at_28)
  have V_b1_7 : Arv Z h7 b1 k1 .byte (5 : Int32) [(.int (nar .byte (F1 p0))), (.int (nar .byte (F1 p1))), (.int (nar .byte (F1 p2))), (.int (0 : Int32)), (.int (0 : Int32))] (.int (0 : Int32)) := Arv.set Ar7 q7 S7 Nn7 H7 G7 (fits_nar_byte _) W7 2 rfl (Nat.le_of_ble_eq_true rfl)
  have Zs7 : n0 ≤ h7.size := Nat.le_trans Zs5 (Keep.of_wr W7).1
  have N7 := Fr.snoc X7 N6 g_b1
  refine own_go (B := (T7.setTop (mkF m 29 #[.val (.int p0), .val (.int p1), .val (.int p2), .val (.int p3), .val (.int p4), .val (.int p5), .val (.ref b1), .unset, .unset, .unset, .unset, .unset] []))) (fun t k => st7 _ k) ?_
  refine own_go (B := (T7.setTop (mkF m 31 #[.val (.int p0), .val (.int p1), .val (.int p2), .val (.int p3), .val (.int p4), .val (.int p5), .val (.ref b1), .unset, .unset, .unset, .unset, .unset] [(.ref b1)]))) (fun t k => XS.aload X7.here hx rfl (hb hby at_29) rfl rfl k) ?_
  refine own_go (B := (T7.setTop (mkF m 32 #[.val (.int p0), .val (.int p1), .val (.int p2), .val (.int p3), .val (.int p4), .val (.int p5), .val (.ref b1), .unset, .unset, .unset, .unset, .unset] [(.int (3 : Int32)), (.ref b1)]))) (fun t k => XS.iconst X7.here hx rfl (hb hby at_31) k) ?_
  refine own_go (B := (T7.setTop (mkF m 33 #[.val (.int p0), .val (.int p1), .val (.int p2), .val (.int p3), .val (.int p4), .val (.int p5), .val (.ref b1), .unset, .unset, .unset, .unset, .unset] [(.int p3), (.int (3 : Int32)), (.ref b1)]))) (fun t k => XS.iloadN X7.here hx rfl (hb hby at_32) rfl k) ?_
  obtain ⟨_, _, ⟨T8, L8, k8, n8⟩, -, X8, ⟨Lc8, hQ8, l8, y8, z8⟩, st8⟩ := Jvm.LawKit.callS X7 hx (y := (⟨"com/example/platemark/platemark/records/Iso2709DigitsPinLaw", "mk", "(I)B"⟩ : MethodName)) hown (mvT hZ (hw _ (List.mem_of_getElem? (i := 1) rfl))) (mvT hZ (hw _ (List.mem_of_getElem? (i := 2) rfl))) (mvT hZ (hw _ (List.mem_of_getElem? (i := 3) rfl))) (mvT hZ (hw _ (List.mem_of_getElem? (i := 4) rfl))) (by decide) (backOf (W := 2) (rm1 l Z ta hw [] p3  h7 n0 ) hZ (hw _ (List.mem_of_getElem? (i := 4) rfl)) (hw _ (List.mem_of_getElem? (i := 3) rfl)) (by decide) (by decide)) (g := (mkF m 33 #[.val (.int p0), .val (.int p1), .val (.int p2), .val (.int p3), .val (.int p4), .val (.int p5), .val (.ref b1), .unset, .unset, .unset, .unset, .unset] [(.int p3), (.int (3 : Int32)), (.ref b1)])) rfl (by rw [hml]; rfl) (argsL := [(.int p3)]) (rest := [(.int (3 : Int32)), (.ref b1)]) (lenOf pd_0_0 rfl) rfl (by show 2 * 0 + _ ≤ _; exact Nat.le_of_eq rfl) (hb hby at_33) (fun _ _ => ⟨rfl, e7, (by decide : ((((0 + 1) + 0) + 0) + 0) + 0 ≤ _), (by decide : ((((0 + 5) + 0) + 0) + 0) + 0 ≤ _)⟩)
  dsimp only [Pt.U, Pt.locs, Pt.cells, Pt.slots] at X8 l8 y8 z8 st8 hQ8
  subst l8 y8 z8
  obtain ⟨rfl, N8q, e8⟩ := hQ8
  replace e8 := e8
  have N8 := Fr.app N7 N8q
  refine own_go (B := (T8.setTop (mkF m 36 #[.val (.int p0), .val (.int p1), .val (.int p2), .val (.int p3), .val (.int p4), .val (.int p5), .val (.ref b1), .unset, .unset, .unset, .unset, .unset] [(.int (F1 p3)), (.int (3 : Int32)), (.ref b1)]))) (fun t k => st8 _ k) ?_
  obtain ⟨cl9, Ar9, q9, S9, Nn9, H9, G9⟩ := id V_b1_7
  have hin9 : ¬ ((3 : Int32) < 0 ∨ cl9.slots.size ≤ ((3 : Int32)).toNatClampNeg) := inb_of S9 ⟨by decide, by decide⟩
  obtain ⟨T9, h9, X9, e9, W9, st9⟩ := stB X8 hx hZ e8 Ar9 (j := (3 : Int32)) hin9 (g := (mkF m 36 #[.val (.int p0), .val (.int p1), .val (.int p2), .val (.int p3), .val (.int p4), .val (.int p5), .val (.ref b1), .unset, .unset, .unset, .unset, .unset] [(.int (F1 p3)), (.int (3 : Int32)), (.ref b1)])) rfl rfl (hb hby at_36)
  have V_b1_9 : Arv Z h9 b1 k1 .byte (5 : Int32) [(.int (nar .byte (F1 p0))), (.int (nar .byte (F1 p1))), (.int (nar .byte (F1 p2))), (.int (nar .byte (F1 p3))), (.int (0 : Int32))] (.int (0 : Int32)) := Arv.set Ar9 q9 S9 Nn9 H9 G9 (fits_nar_byte _) W9 3 rfl (Nat.le_of_ble_eq_true rfl)
  have Zs9 : n0 ≤ h9.size := Nat.le_trans Zs7 (Keep.of_wr W9).1
  have N9 := Fr.snoc X9 N8 g_b1
  refine own_go (B := (T9.setTop (mkF m 37 #[.val (.int p0), .val (.int p1), .val (.int p2), .val (.int p3), .val (.int p4), .val (.int p5), .val (.ref b1), .unset, .unset, .unset, .unset, .unset] []))) (fun t k => st9 _ k) ?_
  refine own_go (B := (T9.setTop (mkF m 39 #[.val (.int p0), .val (.int p1), .val (.int p2), .val (.int p3), .val (.int p4), .val (.int p5), .val (.ref b1), .unset, .unset, .unset, .unset, .unset] [(.ref b1)]))) (fun t k => XS.aload X9.here hx rfl (hb hby at_37) rfl rfl k) ?_
  refine own_go (B := (T9.setTop (mkF m 40 #[.val (.int p0), .val (.int p1), .val (.int p2), .val (.int p3), .val (.int p4), .val (.int p5), .val (.ref b1), .unset, .unset, .unset, .unset, .unset] [(.int (4 : Int32)), (.ref b1)]))) (fun t k => XS.iconst X9.here hx rfl (hb hby at_39) k) ?_
  refine own_go (B := (T9.setTop (mkF m 42 #[.val (.int p0), .val (.int p1), .val (.int p2), .val (.int p3), .val (.int p4), .val (.int p5), .val (.ref b1), .unset, .unset, .unset, .unset, .unset] [(.int p4), (.int (4 : Int32)), (.ref b1)]))) (fun t k => XS.iload X9.here hx rfl (hb hby at_40) rfl k) ?_
  obtain ⟨_, _, ⟨T10, L10, k10, n10⟩, -, X10, ⟨Lc10, hQ10, l10, y10, z10⟩, st10⟩ := Jvm.LawKit.callS X9 hx (y := (⟨"com/example/platemark/platemark/records/Iso2709DigitsPinLaw", "mk", "(I)B"⟩ : MethodName)) hown (mvT hZ (hw _ (List.mem_of_getElem? (i := 1) rfl))) (mvT hZ (hw _ (List.mem_of_getElem? (i := 2) rfl))) (mvT hZ (hw _ (List.mem_of_getElem? (i := 3) rfl))) (mvT hZ (hw _ (List.mem_of_getElem? (i := 4) rfl))) (by decide) (backOf (W := 2) (rm1 l Z ta hw [] p4  h9 n0 ) hZ (hw _ (List.mem_of_getElem? (i := 4) rfl)) (hw _ (List.mem_of_getElem? (i := 3) rfl)) (by decide) (by decide)) (g := (mkF m 42 #[.val (.int p0), .val (.int p1), .val (.int p2), .val (.int p3), .val (.int p4), .val (.int p5), .val (.ref b1), .unset, .unset, .unset, .unset, .unset] [(.int p4), (.int (4 : Int32)), (.ref b1)])) rfl (by rw [hml]; rfl) (argsL := [(.int p4)]) (rest := [(.int (4 : Int32)), (.ref b1)]) (lenOf pd_0_0 rfl) rfl (by show 2 * 0 + _ ≤ _; exact Nat.le_of_eq rfl) (hb hby at_42) (fun _ _ => ⟨rfl, e9, (by decide : (((((0 + 1) + 0) + 0) + 0) + 0) + 0 ≤ _), (by decide : (((((0 + 5) + 0) + 0) + 0) + 0) + 0 ≤ _)⟩)
  dsimp only [Pt.U, Pt.locs, Pt.cells, Pt.slots] at X10 l10 y10 z10 st10 hQ10
  subst l10 y10 z10
  obtain ⟨rfl, N10q, e10⟩ := hQ10
  replace e10 := e10
  have N10 := Fr.app N9 N10q
  refine own_go (B := (T10.setTop (mkF m 45 #[.val (.int p0), .val (.int p1), .val (.int p2), .val (.int p3), .val (.int p4), .val (.int p5), .val (.ref b1), .unset, .unset, .unset, .unset, .unset] [(.int (F1 p4)), (.int (4 : Int32)), (.ref b1)]))) (fun t k => st10 _ k) ?_
  obtain ⟨cl11, Ar11, q11, S11, Nn11, H11, G11⟩ := id V_b1_9
  have hin11 : ¬ ((4 : Int32) < 0 ∨ cl11.slots.size ≤ ((4 : Int32)).toNatClampNeg) := inb_of S11 ⟨by decide, by decide⟩
  obtain ⟨T11, h11, X11, e11, W11, st11⟩ := stB X10 hx hZ e10 Ar11 (j := (4 : Int32)) hin11 (g := (mkF m 45 #[.val (.int p0), .val (.int p1), .val (.int p2), .val (.int p3), .val (.int p4), .val (.int p5), .val (.ref b1), .unset, .unset, .unset, .unset, .unset] [(.int (F1 p4)), (.int (4 : Int32)), (.ref b1)])) rfl rfl (hb hby at_45)
  have V_b1_11 : Arv Z h11 b1 k1 .byte (5 : Int32) [(.int (nar .byte (F1 p0))), (.int (nar .byte (F1 p1))), (.int (nar .byte (F1 p2))), (.int (nar .byte (F1 p3))), (.int (nar .byte (F1 p4)))] (.int (0 : Int32)) := Arv.set Ar11 q11 S11 Nn11 H11 G11 (fits_nar_byte _) W11 4 rfl (Nat.le_of_ble_eq_true rfl)
  have Zs11 : n0 ≤ h11.size := Nat.le_trans Zs9 (Keep.of_wr W11).1
  have N11 := Fr.snoc X11 N10 g_b1
  refine own_go (B := (T11.setTop (mkF m 46 #[.val (.int p0), .val (.int p1), .val (.int p2), .val (.int p3), .val (.int p4), .val (.int p5), .val (.ref b1), .unset, .unset, .unset, .unset, .unset] []))) (fun t k => st11 _ k) ?_
  revert V_b1_11
  generalize hv0 : (nar .byte (F1 p0)) = v0
  generalize hv1 : (nar .byte (F1 p1)) = v1
  generalize hv2 : (nar .byte (F1 p2)) = v2
  generalize hv3 : (nar .byte (F1 p3)) = v3
  generalize hv4 : (nar .byte (F1 p4)) = v4
  intro V_b1_11
  refine own_go (B := (T11.setTop (mkF m 48 #[.val (.int p0), .val (.int p1), .val (.int p2), .val (.int p3), .val (.int p4), .val (.int p5), .val (.ref b1), .unset, .unset, .unset, .unset, .unset] [(.int p5)]))) (fun t k => XS.iload X11.here hx rfl (hb hby at_46) rfl k) ?_
  refine own_go (B := (T11.setTop (mkF m 50 #[.val (.int p0), .val (.int p1), .val (.int p2), .val (.int p3), .val (.int p4), .val (.int p5), .val (.ref b1), .unset, .unset, .unset, .unset, .unset] [(.int (7 : Int32)), (.int p5)]))) (fun t k => XS.bipush X11.here hx rfl (hb hby at_48) k) ?_
  refine own_go (B := (T11.setTop (mkF m 51 #[.val (.int p0), .val (.int p1), .val (.int p2), .val (.int p3), .val (.int p4), .val (.int p5), .val (.ref b1), .unset, .unset, .unset, .unset, .unset] [(.int (p5 &&& (7 : Int32)))]))) (fun t k => XS.iand X11.here hx rfl (hb hby at_50) rfl k) ?_
  refine own_go (B := (T11.setTop (mkF m 53 #[.val (.int p0), .val (.int p1), .val (.int p2), .val (.int p3), .val (.int p4), .val (.int p5), .val (.ref b1), .unset, .unset, .unset, .unset, .unset] [(.int (6 : Int32)), (.int (p5 &&& (7 : Int32)))]))) (fun t k => XS.bipush X11.here hx rfl (hb hby at_51) k) ?_
  refine own_go (B := (T11.setTop (mkF m 54 #[.val (.int p0), .val (.int p1), .val (.int p2), .val (.int p3), .val (.int p4), .val (.int p5), .val (.ref b1), .unset, .unset, .unset, .unset, .unset] [(.int ((p5 &&& (7 : Int32)) % (6 : Int32)))]))) (fun t k => iremM X11 hx rfl (hb hby at_53) rfl (by decide) k) ?_
  generalize hfr : ((p5 &&& (7 : Int32)) % (6 : Int32)) = fr
  have hf1 := own_from p5
  rw [hfr] at hf1
  refine own_go (B := (T11.setTop (mkF m 56 #[.val (.int p0), .val (.int p1), .val (.int p2), .val (.int p3), .val (.int p4), .val (.int p5), .val (.ref b1), .val (.int fr), .unset, .unset, .unset, .unset] []))) (fun t k => XS.istore X11.here hx rfl (hb hby at_54) rfl (l' := #[.val (.int p0), .val (.int p1), .val (.int p2), .val (.int p3), .val (.int p4), .val (.int p5), .val (.ref b1), .val (.int fr), .unset, .unset, .unset, .unset]) rfl k) ?_
  refine own_go (B := (T11.setTop (mkF m 58 #[.val (.int p0), .val (.int p1), .val (.int p2), .val (.int p3), .val (.int p4), .val (.int p5), .val (.ref b1), .val (.int fr), .unset, .unset, .unset, .unset] [(.int p5)]))) (fun t k => XS.iload X11.here hx rfl (hb hby at_56) rfl k) ?_
  refine own_go (B := (T11.setTop (mkF m 59 #[.val (.int p0), .val (.int p1), .val (.int p2), .val (.int p3), .val (.int p4), .val (.int p5), .val (.ref b1), .val (.int fr), .unset, .unset, .unset, .unset] [(.int (3 : Int32)), (.int p5)]))) (fun t k => XS.iconst X11.here hx rfl (hb hby at_58) k) ?_
  refine own_go (B := (T11.setTop (mkF m 60 #[.val (.int p0), .val (.int p1), .val (.int p2), .val (.int p3), .val (.int p4), .val (.int p5), .val (.ref b1), .val (.int fr), .unset, .unset, .unset, .unset] [(.int ((p5.toUInt32 >>> ((3 : Int32) &&& 31).toUInt32).toInt32))]))) (fun t k => XS.iushr X11.here hx rfl (hb hby at_59) rfl k) ?_
  refine own_go (B := (T11.setTop (mkF m 62 #[.val (.int p0), .val (.int p1), .val (.int p2), .val (.int p3), .val (.int p4), .val (.int p5), .val (.ref b1), .val (.int fr), .unset, .unset, .unset, .unset] [(.int (7 : Int32)), (.int ((p5.toUInt32 >>> ((3 : Int32) &&& 31).toUInt32).toInt32))]))) (fun t k => XS.bipush X11.here hx rfl (hb hby at_60) k) ?_
  refine own_go (B := (T11.setTop (mkF m 63 #[.val (.int p0), .val (.int p1), .val (.int p2), .val (.int p3), .val (.int p4), .val (.int p5), .val (.ref b1), .val (.int fr), .unset, .unset, .unset, .unset] [(.int (((p5.toUInt32 >>> ((3 : Int32) &&& 31).toUInt32).toInt32) &&& (7 : Int32)))]))) (fun t k => XS.iand X11.here hx rfl (hb hby at_62) rfl k) ?_
  refine own_go (B := (T11.setTop (mkF m 65 #[.val (.int p0), .val (.int p1), .val (.int p2), .val (.int p3), .val (.int p4), .val (.int p5), .val (.ref b1), .val (.int fr), .unset, .unset, .unset, .unset] [(.int (6 : Int32)), (.int (((p5.toUInt32 >>> ((3 : Int32) &&& 31).toUInt32).toInt32) &&& (7 : Int32)))]))) (fun t k => XS.bipush X11.here hx rfl (hb hby at_63) k) ?_
  refine own_go (B := (T11.setTop (mkF m 67 #[.val (.int p0), .val (.int p1), .val (.int p2), .val (.int p3), .val (.int p4), .val (.int p5), .val (.ref b1), .val (.int fr), .unset, .unset, .unset, .unset] [(.int fr), (.int (6 : Int32)), (.int (((p5.toUInt32 >>> ((3 : Int32) &&& 31).toUInt32).toInt32) &&& (7 : Int32)))]))) (fun t k => XS.iload X11.here hx rfl (hb hby at_65) rfl k) ?_
  refine own_go (B := (T11.setTop (mkF m 68 #[.val (.int p0), .val (.int p1), .val (.int p2), .val (.int p3), .val (.int p4), .val (.int p5), .val (.ref b1), .val (.int fr), .unset, .unset, .unset, .unset] [(.int ((6 : Int32) - fr)), (.int (((p5.toUInt32 >>> ((3 : Int32) &&& 31).toUInt32).toInt32) &&& (7 : Int32)))]))) (fun t k => XS.isub X11.here hx rfl (hb hby at_67) rfl k) ?_
  refine own_go (B := (T11.setTop (mkF m 69 #[.val (.int p0), .val (.int p1), .val (.int p2), .val (.int p3), .val (.int p4), .val (.int p5), .val (.ref b1), .val (.int fr), .unset, .unset, .unset, .unset] [(.int ((((p5.toUInt32 >>> ((3 : Int32) &&& 31).toUInt32).toInt32) &&& (7 : Int32)) % ((6 : Int32) - fr)))]))) (fun t k => iremM X11 hx rfl (hb hby at_68) rfl (own_nz hf1.1 hf1.2) k) ?_
  have hf2 := own_cnt ((p5.toUInt32 >>> ((3 : Int32) &&& 31).toUInt32).toInt32) hf1.1 hf1.2
  revert hf2
  generalize hct : ((((p5.toUInt32 >>> ((3 : Int32) &&& 31).toUInt32).toInt32) &&& (7 : Int32)) % ((6 : Int32) - fr)) = ct
  intro hf2
  refine own_go (B := (T11.setTop (mkF m 71 #[.val (.int p0), .val (.int p1), .val (.int p2), .val (.int p3), .val (.int p4), .val (.int p5), .val (.ref b1), .val (.int fr), .val (.int ct), .unset, .unset, .unset] []))) (fun t k => XS.istore X11.here hx rfl (hb hby at_69) rfl (l' := #[.val (.int p0), .val (.int p1), .val (.int p2), .val (.int p3), .val (.int p4), .val (.int p5), .val (.ref b1), .val (.int fr), .val (.int ct), .unset, .unset, .unset]) rfl k) ?_
  refine own_go (B := (T11.setTop (mkF m 73 #[.val (.int p0), .val (.int p1), .val (.int p2), .val (.int p3), .val (.int p4), .val (.int p5), .val (.ref b1), .val (.int fr), .val (.int ct), .unset, .unset, .unset] [(.int fr)]))) (fun t k => XS.iload X11.here hx rfl (hb hby at_71) rfl k) ?_
  refine own_go (B := (T11.setTop (mkF m 75 #[.val (.int p0), .val (.int p1), .val (.int p2), .val (.int p3), .val (.int p4), .val (.int p5), .val (.ref b1), .val (.int fr), .val (.int ct), .unset, .unset, .unset] [(.int ct), (.int fr)]))) (fun t k => XS.iload X11.here hx rfl (hb hby at_73) rfl k) ?_
  refine own_go (B := (T11.setTop (mkF m 76 #[.val (.int p0), .val (.int p1), .val (.int p2), .val (.int p3), .val (.int p4), .val (.int p5), .val (.ref b1), .val (.int fr), .val (.int ct), .unset, .unset, .unset] [(.int (fr + ct))]))) (fun t k => XS.iadd X11.here hx rfl (hb hby at_75) rfl k) ?_
  refine own_go (B := (T11.setTop (mkF m 78 #[.val (.int p0), .val (.int p1), .val (.int p2), .val (.int p3), .val (.int p4), .val (.int p5), .val (.ref b1), .val (.int fr), .val (.int ct), .val (.int (fr + ct)), .unset, .unset] []))) (fun t k => XS.istore X11.here hx rfl (hb hby at_76) rfl (l' := #[.val (.int p0), .val (.int p1), .val (.int p2), .val (.int p3), .val (.int p4), .val (.int p5), .val (.ref b1), .val (.int fr), .val (.int ct), .val (.int (fr + ct)), .unset, .unset]) rfl k) ?_
  refine own_go (B := (T11.setTop (mkF m 80 #[.val (.int p0), .val (.int p1), .val (.int p2), .val (.int p3), .val (.int p4), .val (.int p5), .val (.ref b1), .val (.int fr), .val (.int ct), .val (.int (fr + ct)), .unset, .unset] [(.ref b1)]))) (fun t k => XS.aload X11.here hx rfl (hb hby at_78) rfl rfl k) ?_
  refine own_go (B := (T11.setTop (mkF m 81 #[.val (.int p0), .val (.int p1), .val (.int p2), .val (.int p3), .val (.int p4), .val (.int p5), .val (.ref b1), .val (.int fr), .val (.int ct), .val (.int (fr + ct)), .unset, .unset] [(.int (0 : Int32)), (.ref b1)]))) (fun t k => XS.iconst X11.here hx rfl (hb hby at_80) k) ?_
  obtain ⟨cl12, Ar12, q12, S12, Nn12, H12, G12⟩ := id V_b1_11
  have hin12 : ¬ ((0 : Int32) < 0 ∨ cl12.slots.size ≤ ((0 : Int32)).toNatClampNeg) := inb_of S12 ⟨by decide, by decide⟩
  refine own_go (B := (T11.setTop (mkF m 82 #[.val (.int p0), .val (.int p1), .val (.int p2), .val (.int p3), .val (.int p4), .val (.int p5), .val (.ref b1), .val (.int fr), .val (.int ct), .val (.int (fr + ct)), .unset, .unset] [(.int v0)]))) (fun t k => X11.baloadBytes hx (j := (0 : Int32)) (v := (.int v0)) (by rw [e11]; exact Ar12.1) (State.isArrayOf_alike hZ.alike Ar12.2.1) Ar12.2.2 hin12 (Has.at H12 hin12 rfl) (g := (mkF m 81 #[.val (.int p0), .val (.int p1), .val (.int p2), .val (.int p3), .val (.int p4), .val (.int p5), .val (.ref b1), .val (.int fr), .val (.int ct), .val (.int (fr + ct)), .unset, .unset] [(.int (0 : Int32)), (.ref b1)])) rfl rfl (hb hby at_81) _ k) ?_
  refine own_go (B := (T11.setTop (mkF m 83 #[.val (.int p0), .val (.int p1), .val (.int p2), .val (.int p3), .val (.int p4), .val (.int p5), .val (.ref b1), .val (.int fr), .val (.int ct), .val (.int (fr + ct)), .unset, .unset] [(.int (0 : Int32)), (.int v0)]))) (fun t k => XS.iconst X11.here hx rfl (hb hby at_82) k) ?_
  refine own_go (B := (T11.setTop (mkF m 85 #[.val (.int p0), .val (.int p1), .val (.int p2), .val (.int p3), .val (.int p4), .val (.int p5), .val (.ref b1), .val (.int fr), .val (.int ct), .val (.int (fr + ct)), .unset, .unset] [(.int fr), (.int (0 : Int32)), (.int v0)]))) (fun t k => XS.iload X11.here hx rfl (hb hby at_83) rfl k) ?_
  refine own_go (B := (T11.setTop (mkF m 87 #[.val (.int p0), .val (.int p1), .val (.int p2), .val (.int p3), .val (.int p4), .val (.int p5), .val (.ref b1), .val (.int fr), .val (.int ct), .val (.int (fr + ct)), .unset, .unset] [(.int (fr + ct)), (.int fr), (.int (0 : Int32)), (.int v0)]))) (fun t k => XS.iload X11.here hx rfl (hb hby at_85) rfl k) ?_
  obtain ⟨_, _, ⟨T13, L13, k13, n13⟩, -, X13, ⟨Lc13, hQ13, l13, y13, z13⟩, st13⟩ := Jvm.LawKit.callS X11 hx (y := (⟨"com/example/platemark/platemark/records/Iso2709DigitsPinLaw", "bad", "(BIII)Z"⟩ : MethodName)) hown (mvT hZ (hw _ (List.mem_of_getElem? (i := 5) rfl))) (mvT hZ (hw _ (List.mem_of_getElem? (i := 6) rfl))) (mvT hZ (hw _ (List.mem_of_getElem? (i := 3) rfl))) (mvT hZ (hw _ (List.mem_of_getElem? (i := 7) rfl))) (by decide) (backOf (W := 0) (rm2 l Z ta hw [] v0 (0 : Int32) fr (fr + ct)  h11 n0 ) hZ (hw _ (List.mem_of_getElem? (i := 7) rfl)) (hw _ (List.mem_of_getElem? (i := 3) rfl)) (by decide) (by decide)) (g := (mkF m 87 #[.val (.int p0), .val (.int p1), .val (.int p2), .val (.int p3), .val (.int p4), .val (.int p5), .val (.ref b1), .val (.int fr), .val (.int ct), .val (.int (fr + ct)), .unset, .unset] [(.int (fr + ct)), (.int fr), (.int (0 : Int32)), (.int v0)])) rfl (by rw [hml]; rfl) (argsL := [(.int v0), (.int (0 : Int32)), (.int fr), (.int (fr + ct))]) (rest := []) (lenOf pd_0_1 rfl) rfl (by show 2 * 0 + _ ≤ _; exact Nat.le_of_eq rfl) (hb hby at_87) (fun _ _ => ⟨rfl, e11, (by decide : ((((((0 + 1) + 0) + 0) + 0) + 0) + 0) + 0 ≤ _), (by decide : ((((((0 + 5) + 0) + 0) + 0) + 0) + 0) + 0 ≤ _)⟩)
  dsimp only [Pt.U, Pt.locs, Pt.cells, Pt.slots] at X13 l13 y13 z13 st13 hQ13
  subst l13 y13 z13
  obtain ⟨rfl, N13q, e13⟩ := hQ13
  replace e13 := e13
  have N13 := Fr.app N11 N13q
  refine own_go (B := (T13.setTop (mkF m 90 #[.val (.int p0), .val (.int p1), .val (.int p2), .val (.int p3), .val (.int p4), .val (.int p5), .val (.ref b1), .val (.int fr), .val (.int ct), .val (.int (fr + ct)), .unset, .unset] [(.int (F2 v0 (0 : Int32) fr (fr + ct)))]))) (fun t k => st13 _ k) ?_
  by_cases hc90 : (F2 v0 (0 : Int32) fr (fr + ct)) = (0 : Int32)
  · refine own_go (B := (T13.setTop (mkF m 93 #[.val (.int p0), .val (.int p1), .val (.int p2), .val (.int p3), .val (.int p4), .val (.int p5), .val (.ref b1), .val (.int fr), .val (.int ct), .val (.int (fr + ct)), .unset, .unset] []))) (fun t k => XS.ifNo X13.here hx rfl (hb hby at_90) rfl ((if0 _ _).trans (teq hc90).2) k) ?_
    refine own_go (B := (T13.setTop (mkF m 95 #[.val (.int p0), .val (.int p1), .val (.int p2), .val (.int p3), .val (.int p4), .val (.int p5), .val (.ref b1), .val (.int fr), .val (.int ct), .val (.int (fr + ct)), .unset, .unset] [(.ref b1)]))) (fun t k => XS.aload X13.here hx rfl (hb hby at_93) rfl rfl k) ?_
    refine own_go (B := (T13.setTop (mkF m 96 #[.val (.int p0), .val (.int p1), .val (.int p2), .val (.int p3), .val (.int p4), .val (.int p5), .val (.ref b1), .val (.int fr), .val (.int ct), .val (.int (fr + ct)), .unset, .unset] [(.int (1 : Int32)), (.ref b1)]))) (fun t k => XS.iconst X13.here hx rfl (hb hby at_95) k) ?_
    obtain ⟨cl14, Ar14, q14, S14, Nn14, H14, G14⟩ := id V_b1_11
    have hin14 : ¬ ((1 : Int32) < 0 ∨ cl14.slots.size ≤ ((1 : Int32)).toNatClampNeg) := inb_of S14 ⟨by decide, by decide⟩
    refine own_go (B := (T13.setTop (mkF m 97 #[.val (.int p0), .val (.int p1), .val (.int p2), .val (.int p3), .val (.int p4), .val (.int p5), .val (.ref b1), .val (.int fr), .val (.int ct), .val (.int (fr + ct)), .unset, .unset] [(.int v1)]))) (fun t k => X13.baloadBytes hx (j := (1 : Int32)) (v := (.int v1)) (by rw [e13]; exact Ar14.1) (State.isArrayOf_alike hZ.alike Ar14.2.1) Ar14.2.2 hin14 (Has.at H14 hin14 rfl) (g := (mkF m 96 #[.val (.int p0), .val (.int p1), .val (.int p2), .val (.int p3), .val (.int p4), .val (.int p5), .val (.ref b1), .val (.int fr), .val (.int ct), .val (.int (fr + ct)), .unset, .unset] [(.int (1 : Int32)), (.ref b1)])) rfl rfl (hb hby at_96) _ k) ?_
    refine own_go (B := (T13.setTop (mkF m 98 #[.val (.int p0), .val (.int p1), .val (.int p2), .val (.int p3), .val (.int p4), .val (.int p5), .val (.ref b1), .val (.int fr), .val (.int ct), .val (.int (fr + ct)), .unset, .unset] [(.int (1 : Int32)), (.int v1)]))) (fun t k => XS.iconst X13.here hx rfl (hb hby at_97) k) ?_
    refine own_go (B := (T13.setTop (mkF m 100 #[.val (.int p0), .val (.int p1), .val (.int p2), .val (.int p3), .val (.int p4), .val (.int p5), .val (.ref b1), .val (.int fr), .val (.int ct), .val (.int (fr + ct)), .unset, .unset] [(.int fr), (.int (1 : Int32)), (.int v1)]))) (fun t k => XS.iload X13.here hx rfl (hb hby at_98) rfl k) ?_
    refine own_go (B := (T13.setTop (mkF m 102 #[.val (.int p0), .val (.int p1), .val (.int p2), .val (.int p3), .val (.int p4), .val (.int p5), .val (.ref b1), .val (.int fr), .val (.int ct), .val (.int (fr + ct)), .unset, .unset] [(.int (fr + ct)), (.int fr), (.int (1 : Int32)), (.int v1)]))) (fun t k => XS.iload X13.here hx rfl (hb hby at_100) rfl k) ?_
    obtain ⟨_, _, ⟨T15, L15, k15, n15⟩, -, X15, ⟨Lc15, hQ15, l15, y15, z15⟩, st15⟩ := Jvm.LawKit.callS X13 hx (y := (⟨"com/example/platemark/platemark/records/Iso2709DigitsPinLaw", "bad", "(BIII)Z"⟩ : MethodName)) hown (mvT hZ (hw _ (List.mem_of_getElem? (i := 5) rfl))) (mvT hZ (hw _ (List.mem_of_getElem? (i := 6) rfl))) (mvT hZ (hw _ (List.mem_of_getElem? (i := 3) rfl))) (mvT hZ (hw _ (List.mem_of_getElem? (i := 7) rfl))) (by decide) (backOf (W := 0) (rm2 l Z ta hw [] v1 (1 : Int32) fr (fr + ct)  h11 n0 ) hZ (hw _ (List.mem_of_getElem? (i := 7) rfl)) (hw _ (List.mem_of_getElem? (i := 3) rfl)) (by decide) (by decide)) (g := (mkF m 102 #[.val (.int p0), .val (.int p1), .val (.int p2), .val (.int p3), .val (.int p4), .val (.int p5), .val (.ref b1), .val (.int fr), .val (.int ct), .val (.int (fr + ct)), .unset, .unset] [(.int (fr + ct)), (.int fr), (.int (1 : Int32)), (.int v1)])) rfl (by rw [hml]; rfl) (argsL := [(.int v1), (.int (1 : Int32)), (.int fr), (.int (fr + ct))]) (rest := []) (lenOf pd_0_1 rfl) rfl (by show 2 * 0 + _ ≤ _; exact Nat.le_of_eq rfl) (hb hby at_102) (fun _ _ => ⟨rfl, e13, (by decide : (((((((0 + 1) + 0) + 0) + 0) + 0) + 0) + 0) + 0 ≤ _), (by decide : (((((((0 + 5) + 0) + 0) + 0) + 0) + 0) + 0) + 0 ≤ _)⟩)
    dsimp only [Pt.U, Pt.locs, Pt.cells, Pt.slots] at X15 l15 y15 z15 st15 hQ15
    subst l15 y15 z15
    obtain ⟨rfl, N15q, e15⟩ := hQ15
    replace e15 := e15
    have N15 := Fr.app N13 N15q
    refine own_go (B := (T15.setTop (mkF m 105 #[.val (.int p0), .val (.int p1), .val (.int p2), .val (.int p3), .val (.int p4), .val (.int p5), .val (.ref b1), .val (.int fr), .val (.int ct), .val (.int (fr + ct)), .unset, .unset] [(.int (F2 v1 (1 : Int32) fr (fr + ct)))]))) (fun t k => st15 _ k) ?_
    by_cases hc105 : (F2 v1 (1 : Int32) fr (fr + ct)) = (0 : Int32)
    · refine own_go (B := (T15.setTop (mkF m 108 #[.val (.int p0), .val (.int p1), .val (.int p2), .val (.int p3), .val (.int p4), .val (.int p5), .val (.ref b1), .val (.int fr), .val (.int ct), .val (.int (fr + ct)), .unset, .unset] []))) (fun t k => XS.ifNo X15.here hx rfl (hb hby at_105) rfl ((if0 _ _).trans (teq hc105).2) k) ?_
      refine own_go (B := (T15.setTop (mkF m 110 #[.val (.int p0), .val (.int p1), .val (.int p2), .val (.int p3), .val (.int p4), .val (.int p5), .val (.ref b1), .val (.int fr), .val (.int ct), .val (.int (fr + ct)), .unset, .unset] [(.ref b1)]))) (fun t k => XS.aload X15.here hx rfl (hb hby at_108) rfl rfl k) ?_
      refine own_go (B := (T15.setTop (mkF m 111 #[.val (.int p0), .val (.int p1), .val (.int p2), .val (.int p3), .val (.int p4), .val (.int p5), .val (.ref b1), .val (.int fr), .val (.int ct), .val (.int (fr + ct)), .unset, .unset] [(.int (2 : Int32)), (.ref b1)]))) (fun t k => XS.iconst X15.here hx rfl (hb hby at_110) k) ?_
      obtain ⟨cl16, Ar16, q16, S16, Nn16, H16, G16⟩ := id V_b1_11
      have hin16 : ¬ ((2 : Int32) < 0 ∨ cl16.slots.size ≤ ((2 : Int32)).toNatClampNeg) := inb_of S16 ⟨by decide, by decide⟩
      refine own_go (B := (T15.setTop (mkF m 112 #[.val (.int p0), .val (.int p1), .val (.int p2), .val (.int p3), .val (.int p4), .val (.int p5), .val (.ref b1), .val (.int fr), .val (.int ct), .val (.int (fr + ct)), .unset, .unset] [(.int v2)]))) (fun t k => X15.baloadBytes hx (j := (2 : Int32)) (v := (.int v2)) (by rw [e15]; exact Ar16.1) (State.isArrayOf_alike hZ.alike Ar16.2.1) Ar16.2.2 hin16 (Has.at H16 hin16 rfl) (g := (mkF m 111 #[.val (.int p0), .val (.int p1), .val (.int p2), .val (.int p3), .val (.int p4), .val (.int p5), .val (.ref b1), .val (.int fr), .val (.int ct), .val (.int (fr + ct)), .unset, .unset] [(.int (2 : Int32)), (.ref b1)])) rfl rfl (hb hby at_111) _ k) ?_
      refine own_go (B := (T15.setTop (mkF m 113 #[.val (.int p0), .val (.int p1), .val (.int p2), .val (.int p3), .val (.int p4), .val (.int p5), .val (.ref b1), .val (.int fr), .val (.int ct), .val (.int (fr + ct)), .unset, .unset] [(.int (2 : Int32)), (.int v2)]))) (fun t k => XS.iconst X15.here hx rfl (hb hby at_112) k) ?_
      refine own_go (B := (T15.setTop (mkF m 115 #[.val (.int p0), .val (.int p1), .val (.int p2), .val (.int p3), .val (.int p4), .val (.int p5), .val (.ref b1), .val (.int fr), .val (.int ct), .val (.int (fr + ct)), .unset, .unset] [(.int fr), (.int (2 : Int32)), (.int v2)]))) (fun t k => XS.iload X15.here hx rfl (hb hby at_113) rfl k) ?_
      refine own_go (B := (T15.setTop (mkF m 117 #[.val (.int p0), .val (.int p1), .val (.int p2), .val (.int p3), .val (.int p4), .val (.int p5), .val (.ref b1), .val (.int fr), .val (.int ct), .val (.int (fr + ct)), .unset, .unset] [(.int (fr + ct)), (.int fr), (.int (2 : Int32)), (.int v2)]))) (fun t k => XS.iload X15.here hx rfl (hb hby at_115) rfl k) ?_
      obtain ⟨_, _, ⟨T17, L17, k17, n17⟩, -, X17, ⟨Lc17, hQ17, l17, y17, z17⟩, st17⟩ := Jvm.LawKit.callS X15 hx (y := (⟨"com/example/platemark/platemark/records/Iso2709DigitsPinLaw", "bad", "(BIII)Z"⟩ : MethodName)) hown (mvT hZ (hw _ (List.mem_of_getElem? (i := 5) rfl))) (mvT hZ (hw _ (List.mem_of_getElem? (i := 6) rfl))) (mvT hZ (hw _ (List.mem_of_getElem? (i := 3) rfl))) (mvT hZ (hw _ (List.mem_of_getElem? (i := 7) rfl))) (by decide) (backOf (W := 0) (rm2 l Z ta hw [] v2 (2 : Int32) fr (fr + ct)  h11 n0 ) hZ (hw _ (List.mem_of_getElem? (i := 7) rfl)) (hw _ (List.mem_of_getElem? (i := 3) rfl)) (by decide) (by decide)) (g := (mkF m 117 #[.val (.int p0), .val (.int p1), .val (.int p2), .val (.int p3), .val (.int p4), .val (.int p5), .val (.ref b1), .val (.int fr), .val (.int ct), .val (.int (fr + ct)), .unset, .unset] [(.int (fr + ct)), (.int fr), (.int (2 : Int32)), (.int v2)])) rfl (by rw [hml]; rfl) (argsL := [(.int v2), (.int (2 : Int32)), (.int fr), (.int (fr + ct))]) (rest := []) (lenOf pd_0_1 rfl) rfl (by show 2 * 0 + _ ≤ _; exact Nat.le_of_eq rfl) (hb hby at_117) (fun _ _ => ⟨rfl, e15, (by decide : ((((((((0 + 1) + 0) + 0) + 0) + 0) + 0) + 0) + 0) + 0 ≤ _), (by decide : ((((((((0 + 5) + 0) + 0) + 0) + 0) + 0) + 0) + 0) + 0 ≤ _)⟩)
      dsimp only [Pt.U, Pt.locs, Pt.cells, Pt.slots] at X17 l17 y17 z17 st17 hQ17
      subst l17 y17 z17
      obtain ⟨rfl, N17q, e17⟩ := hQ17
      replace e17 := e17
      have N17 := Fr.app N15 N17q
      refine own_go (B := (T17.setTop (mkF m 120 #[.val (.int p0), .val (.int p1), .val (.int p2), .val (.int p3), .val (.int p4), .val (.int p5), .val (.ref b1), .val (.int fr), .val (.int ct), .val (.int (fr + ct)), .unset, .unset] [(.int (F2 v2 (2 : Int32) fr (fr + ct)))]))) (fun t k => st17 _ k) ?_
      by_cases hc120 : (F2 v2 (2 : Int32) fr (fr + ct)) = (0 : Int32)
      · refine own_go (B := (T17.setTop (mkF m 123 #[.val (.int p0), .val (.int p1), .val (.int p2), .val (.int p3), .val (.int p4), .val (.int p5), .val (.ref b1), .val (.int fr), .val (.int ct), .val (.int (fr + ct)), .unset, .unset] []))) (fun t k => XS.ifNo X17.here hx rfl (hb hby at_120) rfl ((if0 _ _).trans (teq hc120).2) k) ?_
        refine own_go (B := (T17.setTop (mkF m 125 #[.val (.int p0), .val (.int p1), .val (.int p2), .val (.int p3), .val (.int p4), .val (.int p5), .val (.ref b1), .val (.int fr), .val (.int ct), .val (.int (fr + ct)), .unset, .unset] [(.ref b1)]))) (fun t k => XS.aload X17.here hx rfl (hb hby at_123) rfl rfl k) ?_
        refine own_go (B := (T17.setTop (mkF m 126 #[.val (.int p0), .val (.int p1), .val (.int p2), .val (.int p3), .val (.int p4), .val (.int p5), .val (.ref b1), .val (.int fr), .val (.int ct), .val (.int (fr + ct)), .unset, .unset] [(.int (3 : Int32)), (.ref b1)]))) (fun t k => XS.iconst X17.here hx rfl (hb hby at_125) k) ?_
        obtain ⟨cl18, Ar18, q18, S18, Nn18, H18, G18⟩ := id V_b1_11
        have hin18 : ¬ ((3 : Int32) < 0 ∨ cl18.slots.size ≤ ((3 : Int32)).toNatClampNeg) := inb_of S18 ⟨by decide, by decide⟩
        refine own_go (B := (T17.setTop (mkF m 127 #[.val (.int p0), .val (.int p1), .val (.int p2), .val (.int p3), .val (.int p4), .val (.int p5), .val (.ref b1), .val (.int fr), .val (.int ct), .val (.int (fr + ct)), .unset, .unset] [(.int v3)]))) (fun t k => X17.baloadBytes hx (j := (3 : Int32)) (v := (.int v3)) (by rw [e17]; exact Ar18.1) (State.isArrayOf_alike hZ.alike Ar18.2.1) Ar18.2.2 hin18 (Has.at H18 hin18 rfl) (g := (mkF m 126 #[.val (.int p0), .val (.int p1), .val (.int p2), .val (.int p3), .val (.int p4), .val (.int p5), .val (.ref b1), .val (.int fr), .val (.int ct), .val (.int (fr + ct)), .unset, .unset] [(.int (3 : Int32)), (.ref b1)])) rfl rfl (hb hby at_126) _ k) ?_
        refine own_go (B := (T17.setTop (mkF m 128 #[.val (.int p0), .val (.int p1), .val (.int p2), .val (.int p3), .val (.int p4), .val (.int p5), .val (.ref b1), .val (.int fr), .val (.int ct), .val (.int (fr + ct)), .unset, .unset] [(.int (3 : Int32)), (.int v3)]))) (fun t k => XS.iconst X17.here hx rfl (hb hby at_127) k) ?_
        refine own_go (B := (T17.setTop (mkF m 130 #[.val (.int p0), .val (.int p1), .val (.int p2), .val (.int p3), .val (.int p4), .val (.int p5), .val (.ref b1), .val (.int fr), .val (.int ct), .val (.int (fr + ct)), .unset, .unset] [(.int fr), (.int (3 : Int32)), (.int v3)]))) (fun t k => XS.iload X17.here hx rfl (hb hby at_128) rfl k) ?_
        refine own_go (B := (T17.setTop (mkF m 132 #[.val (.int p0), .val (.int p1), .val (.int p2), .val (.int p3), .val (.int p4), .val (.int p5), .val (.ref b1), .val (.int fr), .val (.int ct), .val (.int (fr + ct)), .unset, .unset] [(.int (fr + ct)), (.int fr), (.int (3 : Int32)), (.int v3)]))) (fun t k => XS.iload X17.here hx rfl (hb hby at_130) rfl k) ?_
        obtain ⟨_, _, ⟨T19, L19, k19, n19⟩, -, X19, ⟨Lc19, hQ19, l19, y19, z19⟩, st19⟩ := Jvm.LawKit.callS X17 hx (y := (⟨"com/example/platemark/platemark/records/Iso2709DigitsPinLaw", "bad", "(BIII)Z"⟩ : MethodName)) hown (mvT hZ (hw _ (List.mem_of_getElem? (i := 5) rfl))) (mvT hZ (hw _ (List.mem_of_getElem? (i := 6) rfl))) (mvT hZ (hw _ (List.mem_of_getElem? (i := 3) rfl))) (mvT hZ (hw _ (List.mem_of_getElem? (i := 7) rfl))) (by decide) (backOf (W := 0) (rm2 l Z ta hw [] v3 (3 : Int32) fr (fr + ct)  h11 n0 ) hZ (hw _ (List.mem_of_getElem? (i := 7) rfl)) (hw _ (List.mem_of_getElem? (i := 3) rfl)) (by decide) (by decide)) (g := (mkF m 132 #[.val (.int p0), .val (.int p1), .val (.int p2), .val (.int p3), .val (.int p4), .val (.int p5), .val (.ref b1), .val (.int fr), .val (.int ct), .val (.int (fr + ct)), .unset, .unset] [(.int (fr + ct)), (.int fr), (.int (3 : Int32)), (.int v3)])) rfl (by rw [hml]; rfl) (argsL := [(.int v3), (.int (3 : Int32)), (.int fr), (.int (fr + ct))]) (rest := []) (lenOf pd_0_1 rfl) rfl (by show 2 * 0 + _ ≤ _; exact Nat.le_of_eq rfl) (hb hby at_132) (fun _ _ => ⟨rfl, e17, (by decide : (((((((((0 + 1) + 0) + 0) + 0) + 0) + 0) + 0) + 0) + 0) + 0 ≤ _), (by decide : (((((((((0 + 5) + 0) + 0) + 0) + 0) + 0) + 0) + 0) + 0) + 0 ≤ _)⟩)
        dsimp only [Pt.U, Pt.locs, Pt.cells, Pt.slots] at X19 l19 y19 z19 st19 hQ19
        subst l19 y19 z19
        obtain ⟨rfl, N19q, e19⟩ := hQ19
        replace e19 := e19
        have N19 := Fr.app N17 N19q
        refine own_go (B := (T19.setTop (mkF m 135 #[.val (.int p0), .val (.int p1), .val (.int p2), .val (.int p3), .val (.int p4), .val (.int p5), .val (.ref b1), .val (.int fr), .val (.int ct), .val (.int (fr + ct)), .unset, .unset] [(.int (F2 v3 (3 : Int32) fr (fr + ct)))]))) (fun t k => st19 _ k) ?_
        by_cases hc135 : (F2 v3 (3 : Int32) fr (fr + ct)) = (0 : Int32)
        · refine own_go (B := (T19.setTop (mkF m 138 #[.val (.int p0), .val (.int p1), .val (.int p2), .val (.int p3), .val (.int p4), .val (.int p5), .val (.ref b1), .val (.int fr), .val (.int ct), .val (.int (fr + ct)), .unset, .unset] []))) (fun t k => XS.ifNo X19.here hx rfl (hb hby at_135) rfl ((if0 _ _).trans (teq hc135).2) k) ?_
          refine own_go (B := (T19.setTop (mkF m 140 #[.val (.int p0), .val (.int p1), .val (.int p2), .val (.int p3), .val (.int p4), .val (.int p5), .val (.ref b1), .val (.int fr), .val (.int ct), .val (.int (fr + ct)), .unset, .unset] [(.ref b1)]))) (fun t k => XS.aload X19.here hx rfl (hb hby at_138) rfl rfl k) ?_
          refine own_go (B := (T19.setTop (mkF m 141 #[.val (.int p0), .val (.int p1), .val (.int p2), .val (.int p3), .val (.int p4), .val (.int p5), .val (.ref b1), .val (.int fr), .val (.int ct), .val (.int (fr + ct)), .unset, .unset] [(.int (4 : Int32)), (.ref b1)]))) (fun t k => XS.iconst X19.here hx rfl (hb hby at_140) k) ?_
          obtain ⟨cl20, Ar20, q20, S20, Nn20, H20, G20⟩ := id V_b1_11
          have hin20 : ¬ ((4 : Int32) < 0 ∨ cl20.slots.size ≤ ((4 : Int32)).toNatClampNeg) := inb_of S20 ⟨by decide, by decide⟩
          refine own_go (B := (T19.setTop (mkF m 142 #[.val (.int p0), .val (.int p1), .val (.int p2), .val (.int p3), .val (.int p4), .val (.int p5), .val (.ref b1), .val (.int fr), .val (.int ct), .val (.int (fr + ct)), .unset, .unset] [(.int v4)]))) (fun t k => X19.baloadBytes hx (j := (4 : Int32)) (v := (.int v4)) (by rw [e19]; exact Ar20.1) (State.isArrayOf_alike hZ.alike Ar20.2.1) Ar20.2.2 hin20 (Has.at H20 hin20 rfl) (g := (mkF m 141 #[.val (.int p0), .val (.int p1), .val (.int p2), .val (.int p3), .val (.int p4), .val (.int p5), .val (.ref b1), .val (.int fr), .val (.int ct), .val (.int (fr + ct)), .unset, .unset] [(.int (4 : Int32)), (.ref b1)])) rfl rfl (hb hby at_141) _ k) ?_
          refine own_go (B := (T19.setTop (mkF m 143 #[.val (.int p0), .val (.int p1), .val (.int p2), .val (.int p3), .val (.int p4), .val (.int p5), .val (.ref b1), .val (.int fr), .val (.int ct), .val (.int (fr + ct)), .unset, .unset] [(.int (4 : Int32)), (.int v4)]))) (fun t k => XS.iconst X19.here hx rfl (hb hby at_142) k) ?_
          refine own_go (B := (T19.setTop (mkF m 145 #[.val (.int p0), .val (.int p1), .val (.int p2), .val (.int p3), .val (.int p4), .val (.int p5), .val (.ref b1), .val (.int fr), .val (.int ct), .val (.int (fr + ct)), .unset, .unset] [(.int fr), (.int (4 : Int32)), (.int v4)]))) (fun t k => XS.iload X19.here hx rfl (hb hby at_143) rfl k) ?_
          refine own_go (B := (T19.setTop (mkF m 147 #[.val (.int p0), .val (.int p1), .val (.int p2), .val (.int p3), .val (.int p4), .val (.int p5), .val (.ref b1), .val (.int fr), .val (.int ct), .val (.int (fr + ct)), .unset, .unset] [(.int (fr + ct)), (.int fr), (.int (4 : Int32)), (.int v4)]))) (fun t k => XS.iload X19.here hx rfl (hb hby at_145) rfl k) ?_
          obtain ⟨_, _, ⟨T21, L21, k21, n21⟩, -, X21, ⟨Lc21, hQ21, l21, y21, z21⟩, st21⟩ := Jvm.LawKit.callS X19 hx (y := (⟨"com/example/platemark/platemark/records/Iso2709DigitsPinLaw", "bad", "(BIII)Z"⟩ : MethodName)) hown (mvT hZ (hw _ (List.mem_of_getElem? (i := 5) rfl))) (mvT hZ (hw _ (List.mem_of_getElem? (i := 6) rfl))) (mvT hZ (hw _ (List.mem_of_getElem? (i := 3) rfl))) (mvT hZ (hw _ (List.mem_of_getElem? (i := 7) rfl))) (by decide) (backOf (W := 0) (rm2 l Z ta hw [] v4 (4 : Int32) fr (fr + ct)  h11 n0 ) hZ (hw _ (List.mem_of_getElem? (i := 7) rfl)) (hw _ (List.mem_of_getElem? (i := 3) rfl)) (by decide) (by decide)) (g := (mkF m 147 #[.val (.int p0), .val (.int p1), .val (.int p2), .val (.int p3), .val (.int p4), .val (.int p5), .val (.ref b1), .val (.int fr), .val (.int ct), .val (.int (fr + ct)), .unset, .unset] [(.int (fr + ct)), (.int fr), (.int (4 : Int32)), (.int v4)])) rfl (by rw [hml]; rfl) (argsL := [(.int v4), (.int (4 : Int32)), (.int fr), (.int (fr + ct))]) (rest := []) (lenOf pd_0_1 rfl) rfl (by show 2 * 0 + _ ≤ _; exact Nat.le_of_eq rfl) (hb hby at_147) (fun _ _ => ⟨rfl, e19, (by decide : ((((((((((0 + 1) + 0) + 0) + 0) + 0) + 0) + 0) + 0) + 0) + 0) + 0 ≤ _), (by decide : ((((((((((0 + 5) + 0) + 0) + 0) + 0) + 0) + 0) + 0) + 0) + 0) + 0 ≤ _)⟩)
          dsimp only [Pt.U, Pt.locs, Pt.cells, Pt.slots] at X21 l21 y21 z21 st21 hQ21
          subst l21 y21 z21
          obtain ⟨rfl, N21q, e21⟩ := hQ21
          replace e21 := e21
          have N21 := Fr.app N19 N21q
          refine own_go (B := (T21.setTop (mkF m 150 #[.val (.int p0), .val (.int p1), .val (.int p2), .val (.int p3), .val (.int p4), .val (.int p5), .val (.ref b1), .val (.int fr), .val (.int ct), .val (.int (fr + ct)), .unset, .unset] [(.int (F2 v4 (4 : Int32) fr (fr + ct)))]))) (fun t k => st21 _ k) ?_
          by_cases hc150 : (F2 v4 (4 : Int32) fr (fr + ct)) = (0 : Int32)
          · refine own_go (B := (T21.setTop (mkF m 157 #[.val (.int p0), .val (.int p1), .val (.int p2), .val (.int p3), .val (.int p4), .val (.int p5), .val (.ref b1), .val (.int fr), .val (.int ct), .val (.int (fr + ct)), .unset, .unset] []))) (fun t k => XS.ifYes X21.here hx rfl (pc0 := 150) (pc' := 157) rfl (hb hby at_150) rfl ((if0 _ _).trans (teq hc150).1) (by decide) (by decide) k) ?_
            refine own_go (B := (T21.setTop (mkF m 158 #[.val (.int p0), .val (.int p1), .val (.int p2), .val (.int p3), .val (.int p4), .val (.int p5), .val (.ref b1), .val (.int fr), .val (.int ct), .val (.int (fr + ct)), .unset, .unset] [(.int (0 : Int32))]))) (fun t k => XS.iconst X21.here hx rfl (hb hby at_157) k) ?_
            refine own_go (B := (T21.setTop (mkF m 160 #[.val (.int p0), .val (.int p1), .val (.int p2), .val (.int p3), .val (.int p4), .val (.int p5), .val (.ref b1), .val (.int fr), .val (.int ct), .val (.int (fr + ct)), .val (.int (0 : Int32)), .unset] []))) (fun t k => XS.istore X21.here hx rfl (hb hby at_158) rfl (l' := #[.val (.int p0), .val (.int p1), .val (.int p2), .val (.int p3), .val (.int p4), .val (.int p5), .val (.ref b1), .val (.int fr), .val (.int ct), .val (.int (fr + ct)), .val (.int (0 : Int32)), .unset]) rfl k) ?_
            refine own_go (B := (T21.setTop (mkF m 162 #[.val (.int p0), .val (.int p1), .val (.int p2), .val (.int p3), .val (.int p4), .val (.int p5), .val (.ref b1), .val (.int fr), .val (.int ct), .val (.int (fr + ct)), .val (.int (0 : Int32)), .unset] [(.int (0 : Int32))]))) (fun t k => XS.iload X21.here hx rfl (hb hby at_160) rfl k) ?_
            refine own_go (B := (T21.setTop (mkF m 171 #[.val (.int p0), .val (.int p1), .val (.int p2), .val (.int p3), .val (.int p4), .val (.int p5), .val (.ref b1), .val (.int fr), .val (.int ct), .val (.int (fr + ct)), .val (.int (0 : Int32)), .unset] []))) (fun t k => XS.ifYes X21.here hx rfl (pc0 := 162) (pc' := 171) rfl (hb hby at_162) rfl ((if0 _ _).trans (teq (by decide)).1) (by decide) (by decide) k) ?_
            refine own_go (B := (T21.setTop (mkF m 173 #[.val (.int p0), .val (.int p1), .val (.int p2), .val (.int p3), .val (.int p4), .val (.int p5), .val (.ref b1), .val (.int fr), .val (.int ct), .val (.int (fr + ct)), .val (.int (0 : Int32)), .unset] [(.ref b1)]))) (fun t k => XS.aload X21.here hx rfl (hb hby at_171) rfl rfl k) ?_
            refine own_go (B := (T21.setTop (mkF m 174 #[.val (.int p0), .val (.int p1), .val (.int p2), .val (.int p3), .val (.int p4), .val (.int p5), .val (.ref b1), .val (.int fr), .val (.int ct), .val (.int (fr + ct)), .val (.int (0 : Int32)), .unset] [(.int (0 : Int32)), (.ref b1)]))) (fun t k => XS.iconst X21.here hx rfl (hb hby at_173) k) ?_
            obtain ⟨cl22, Ar22, q22, S22, Nn22, H22, G22⟩ := id V_b1_11
            have hin22 : ¬ ((0 : Int32) < 0 ∨ cl22.slots.size ≤ ((0 : Int32)).toNatClampNeg) := inb_of S22 ⟨by decide, by decide⟩
            refine own_go (B := (T21.setTop (mkF m 175 #[.val (.int p0), .val (.int p1), .val (.int p2), .val (.int p3), .val (.int p4), .val (.int p5), .val (.ref b1), .val (.int fr), .val (.int ct), .val (.int (fr + ct)), .val (.int (0 : Int32)), .unset] [(.int v0)]))) (fun t k => X21.baloadBytes hx (j := (0 : Int32)) (v := (.int v0)) (by rw [e21]; exact Ar22.1) (State.isArrayOf_alike hZ.alike Ar22.2.1) Ar22.2.2 hin22 (Has.at H22 hin22 rfl) (g := (mkF m 174 #[.val (.int p0), .val (.int p1), .val (.int p2), .val (.int p3), .val (.int p4), .val (.int p5), .val (.ref b1), .val (.int fr), .val (.int ct), .val (.int (fr + ct)), .val (.int (0 : Int32)), .unset] [(.int (0 : Int32)), (.ref b1)])) rfl rfl (hb hby at_174) _ k) ?_
            refine own_go (B := (T21.setTop (mkF m 176 #[.val (.int p0), .val (.int p1), .val (.int p2), .val (.int p3), .val (.int p4), .val (.int p5), .val (.ref b1), .val (.int fr), .val (.int ct), .val (.int (fr + ct)), .val (.int (0 : Int32)), .unset] [(.int (0 : Int32)), (.int v0)]))) (fun t k => XS.iconst X21.here hx rfl (hb hby at_175) k) ?_
            refine own_go (B := (T21.setTop (mkF m 178 #[.val (.int p0), .val (.int p1), .val (.int p2), .val (.int p3), .val (.int p4), .val (.int p5), .val (.ref b1), .val (.int fr), .val (.int ct), .val (.int (fr + ct)), .val (.int (0 : Int32)), .unset] [(.int fr), (.int (0 : Int32)), (.int v0)]))) (fun t k => XS.iload X21.here hx rfl (hb hby at_176) rfl k) ?_
            refine own_go (B := (T21.setTop (mkF m 180 #[.val (.int p0), .val (.int p1), .val (.int p2), .val (.int p3), .val (.int p4), .val (.int p5), .val (.ref b1), .val (.int fr), .val (.int ct), .val (.int (fr + ct)), .val (.int (0 : Int32)), .unset] [(.int (fr + ct)), (.int fr), (.int (0 : Int32)), (.int v0)]))) (fun t k => XS.iload X21.here hx rfl (hb hby at_178) rfl k) ?_
            obtain ⟨_, _, ⟨T23, L23, k23, n23⟩, -, X23, ⟨Lc23, hQ23, l23, y23, z23⟩, st23⟩ := Jvm.LawKit.callS X21 hx (y := (⟨"com/example/platemark/platemark/records/Iso2709DigitsPinLaw", "term", "(BIII)I"⟩ : MethodName)) hown (mvT hZ (hw _ (List.mem_of_getElem? (i := 11) rfl))) (mvT hZ (hw _ (List.mem_of_getElem? (i := 12) rfl))) (mvT hZ (hw _ (List.mem_of_getElem? (i := 3) rfl))) (mvT hZ (hw _ (List.mem_of_getElem? (i := 13) rfl))) (by decide) (backOf (W := 0) (rm4 l Z ta hw [] v0 (0 : Int32) fr (fr + ct)  h11 n0 ) hZ (hw _ (List.mem_of_getElem? (i := 13) rfl)) (hw _ (List.mem_of_getElem? (i := 3) rfl)) (by decide) (by decide)) (g := (mkF m 180 #[.val (.int p0), .val (.int p1), .val (.int p2), .val (.int p3), .val (.int p4), .val (.int p5), .val (.ref b1), .val (.int fr), .val (.int ct), .val (.int (fr + ct)), .val (.int (0 : Int32)), .unset] [(.int (fr + ct)), (.int fr), (.int (0 : Int32)), (.int v0)])) rfl (by rw [hml]; rfl) (argsL := [(.int v0), (.int (0 : Int32)), (.int fr), (.int (fr + ct))]) (rest := []) (lenOf pd_0_2 rfl) rfl (by show 2 * 0 + _ ≤ _; exact Nat.le_of_eq rfl) (hb hby at_180) (fun _ _ => ⟨rfl, e21, (by decide : (((((((((((0 + 1) + 0) + 0) + 0) + 0) + 0) + 0) + 0) + 0) + 0) + 0) + 0 ≤ _), (by decide : (((((((((((0 + 5) + 0) + 0) + 0) + 0) + 0) + 0) + 0) + 0) + 0) + 0) + 0 ≤ _)⟩)
            dsimp only [Pt.U, Pt.locs, Pt.cells, Pt.slots] at X23 l23 y23 z23 st23 hQ23
            subst l23 y23 z23
            obtain ⟨rfl, N23q, e23⟩ := hQ23
            replace e23 := e23
            have N23 := Fr.app N21 N23q
            refine own_go (B := (T23.setTop (mkF m 183 #[.val (.int p0), .val (.int p1), .val (.int p2), .val (.int p3), .val (.int p4), .val (.int p5), .val (.ref b1), .val (.int fr), .val (.int ct), .val (.int (fr + ct)), .val (.int (0 : Int32)), .unset] [(.int (F4 v0 (0 : Int32) fr (fr + ct)))]))) (fun t k => st23 _ k) ?_
            refine own_go (B := (T23.setTop (mkF m 185 #[.val (.int p0), .val (.int p1), .val (.int p2), .val (.int p3), .val (.int p4), .val (.int p5), .val (.ref b1), .val (.int fr), .val (.int ct), .val (.int (fr + ct)), .val (.int (0 : Int32)), .unset] [(.ref b1), (.int (F4 v0 (0 : Int32) fr (fr + ct)))]))) (fun t k => XS.aload X23.here hx rfl (hb hby at_183) rfl rfl k) ?_
            refine own_go (B := (T23.setTop (mkF m 186 #[.val (.int p0), .val (.int p1), .val (.int p2), .val (.int p3), .val (.int p4), .val (.int p5), .val (.ref b1), .val (.int fr), .val (.int ct), .val (.int (fr + ct)), .val (.int (0 : Int32)), .unset] [(.int (1 : Int32)), (.ref b1), (.int (F4 v0 (0 : Int32) fr (fr + ct)))]))) (fun t k => XS.iconst X23.here hx rfl (hb hby at_185) k) ?_
            obtain ⟨cl24, Ar24, q24, S24, Nn24, H24, G24⟩ := id V_b1_11
            have hin24 : ¬ ((1 : Int32) < 0 ∨ cl24.slots.size ≤ ((1 : Int32)).toNatClampNeg) := inb_of S24 ⟨by decide, by decide⟩
            refine own_go (B := (T23.setTop (mkF m 187 #[.val (.int p0), .val (.int p1), .val (.int p2), .val (.int p3), .val (.int p4), .val (.int p5), .val (.ref b1), .val (.int fr), .val (.int ct), .val (.int (fr + ct)), .val (.int (0 : Int32)), .unset] [(.int v1), (.int (F4 v0 (0 : Int32) fr (fr + ct)))]))) (fun t k => X23.baloadBytes hx (j := (1 : Int32)) (v := (.int v1)) (by rw [e23]; exact Ar24.1) (State.isArrayOf_alike hZ.alike Ar24.2.1) Ar24.2.2 hin24 (Has.at H24 hin24 rfl) (g := (mkF m 186 #[.val (.int p0), .val (.int p1), .val (.int p2), .val (.int p3), .val (.int p4), .val (.int p5), .val (.ref b1), .val (.int fr), .val (.int ct), .val (.int (fr + ct)), .val (.int (0 : Int32)), .unset] [(.int (1 : Int32)), (.ref b1), (.int (F4 v0 (0 : Int32) fr (fr + ct)))])) rfl rfl (hb hby at_186) _ k) ?_
            refine own_go (B := (T23.setTop (mkF m 188 #[.val (.int p0), .val (.int p1), .val (.int p2), .val (.int p3), .val (.int p4), .val (.int p5), .val (.ref b1), .val (.int fr), .val (.int ct), .val (.int (fr + ct)), .val (.int (0 : Int32)), .unset] [(.int (1 : Int32)), (.int v1), (.int (F4 v0 (0 : Int32) fr (fr + ct)))]))) (fun t k => XS.iconst X23.here hx rfl (hb hby at_187) k) ?_
            refine own_go (B := (T23.setTop (mkF m 190 #[.val (.int p0), .val (.int p1), .val (.int p2), .val (.int p3), .val (.int p4), .val (.int p5), .val (.ref b1), .val (.int fr), .val (.int ct), .val (.int (fr + ct)), .val (.int (0 : Int32)), .unset] [(.int fr), (.int (1 : Int32)), (.int v1), (.int (F4 v0 (0 : Int32) fr (fr + ct)))]))) (fun t k => XS.iload X23.here hx rfl (hb hby at_188) rfl k) ?_
            refine own_go (B := (T23.setTop (mkF m 192 #[.val (.int p0), .val (.int p1), .val (.int p2), .val (.int p3), .val (.int p4), .val (.int p5), .val (.ref b1), .val (.int fr), .val (.int ct), .val (.int (fr + ct)), .val (.int (0 : Int32)), .unset] [(.int (fr + ct)), (.int fr), (.int (1 : Int32)), (.int v1), (.int (F4 v0 (0 : Int32) fr (fr + ct)))]))) (fun t k => XS.iload X23.here hx rfl (hb hby at_190) rfl k) ?_
            obtain ⟨_, _, ⟨T25, L25, k25, n25⟩, -, X25, ⟨Lc25, hQ25, l25, y25, z25⟩, st25⟩ := Jvm.LawKit.callS X23 hx (y := (⟨"com/example/platemark/platemark/records/Iso2709DigitsPinLaw", "term", "(BIII)I"⟩ : MethodName)) hown (mvT hZ (hw _ (List.mem_of_getElem? (i := 11) rfl))) (mvT hZ (hw _ (List.mem_of_getElem? (i := 12) rfl))) (mvT hZ (hw _ (List.mem_of_getElem? (i := 3) rfl))) (mvT hZ (hw _ (List.mem_of_getElem? (i := 13) rfl))) (by decide) (backOf (W := 1) (rm4 l Z ta hw [] v1 (1 : Int32) fr (fr + ct)  h11 n0 ) hZ (hw _ (List.mem_of_getElem? (i := 13) rfl)) (hw _ (List.mem_of_getElem? (i := 3) rfl)) (by decide) (by decide)) (g := (mkF m 192 #[.val (.int p0), .val (.int p1), .val (.int p2), .val (.int p3), .val (.int p4), .val (.int p5), .val (.ref b1), .val (.int fr), .val (.int ct), .val (.int (fr + ct)), .val (.int (0 : Int32)), .unset] [(.int (fr + ct)), (.int fr), (.int (1 : Int32)), (.int v1), (.int (F4 v0 (0 : Int32) fr (fr + ct)))])) rfl (by rw [hml]; rfl) (argsL := [(.int v1), (.int (1 : Int32)), (.int fr), (.int (fr + ct))]) (rest := [(.int (F4 v0 (0 : Int32) fr (fr + ct)))]) (lenOf pd_0_2 rfl) rfl (by show 2 * 0 + _ ≤ _; exact Nat.le_of_eq rfl) (hb hby at_192) (fun _ _ => ⟨rfl, e23, (by decide : ((((((((((((0 + 1) + 0) + 0) + 0) + 0) + 0) + 0) + 0) + 0) + 0) + 0) + 0) + 0 ≤ _), (by decide : ((((((((((((0 + 5) + 0) + 0) + 0) + 0) + 0) + 0) + 0) + 0) + 0) + 0) + 0) + 0 ≤ _)⟩)
            dsimp only [Pt.U, Pt.locs, Pt.cells, Pt.slots] at X25 l25 y25 z25 st25 hQ25
            subst l25 y25 z25
            obtain ⟨rfl, N25q, e25⟩ := hQ25
            replace e25 := e25
            have N25 := Fr.app N23 N25q
            refine own_go (B := (T25.setTop (mkF m 195 #[.val (.int p0), .val (.int p1), .val (.int p2), .val (.int p3), .val (.int p4), .val (.int p5), .val (.ref b1), .val (.int fr), .val (.int ct), .val (.int (fr + ct)), .val (.int (0 : Int32)), .unset] [(.int (F4 v1 (1 : Int32) fr (fr + ct))), (.int (F4 v0 (0 : Int32) fr (fr + ct)))]))) (fun t k => st25 _ k) ?_
            refine own_go (B := (T25.setTop (mkF m 196 #[.val (.int p0), .val (.int p1), .val (.int p2), .val (.int p3), .val (.int p4), .val (.int p5), .val (.ref b1), .val (.int fr), .val (.int ct), .val (.int (fr + ct)), .val (.int (0 : Int32)), .unset] [(.int ((F4 v0 (0 : Int32) fr (fr + ct)) + (F4 v1 (1 : Int32) fr (fr + ct))))]))) (fun t k => XS.iadd X25.here hx rfl (hb hby at_195) rfl k) ?_
            refine own_go (B := (T25.setTop (mkF m 198 #[.val (.int p0), .val (.int p1), .val (.int p2), .val (.int p3), .val (.int p4), .val (.int p5), .val (.ref b1), .val (.int fr), .val (.int ct), .val (.int (fr + ct)), .val (.int (0 : Int32)), .unset] [(.ref b1), (.int ((F4 v0 (0 : Int32) fr (fr + ct)) + (F4 v1 (1 : Int32) fr (fr + ct))))]))) (fun t k => XS.aload X25.here hx rfl (hb hby at_196) rfl rfl k) ?_
            refine own_go (B := (T25.setTop (mkF m 199 #[.val (.int p0), .val (.int p1), .val (.int p2), .val (.int p3), .val (.int p4), .val (.int p5), .val (.ref b1), .val (.int fr), .val (.int ct), .val (.int (fr + ct)), .val (.int (0 : Int32)), .unset] [(.int (2 : Int32)), (.ref b1), (.int ((F4 v0 (0 : Int32) fr (fr + ct)) + (F4 v1 (1 : Int32) fr (fr + ct))))]))) (fun t k => XS.iconst X25.here hx rfl (hb hby at_198) k) ?_
            obtain ⟨cl26, Ar26, q26, S26, Nn26, H26, G26⟩ := id V_b1_11
            have hin26 : ¬ ((2 : Int32) < 0 ∨ cl26.slots.size ≤ ((2 : Int32)).toNatClampNeg) := inb_of S26 ⟨by decide, by decide⟩
            refine own_go (B := (T25.setTop (mkF m 200 #[.val (.int p0), .val (.int p1), .val (.int p2), .val (.int p3), .val (.int p4), .val (.int p5), .val (.ref b1), .val (.int fr), .val (.int ct), .val (.int (fr + ct)), .val (.int (0 : Int32)), .unset] [(.int v2), (.int ((F4 v0 (0 : Int32) fr (fr + ct)) + (F4 v1 (1 : Int32) fr (fr + ct))))]))) (fun t k => X25.baloadBytes hx (j := (2 : Int32)) (v := (.int v2)) (by rw [e25]; exact Ar26.1) (State.isArrayOf_alike hZ.alike Ar26.2.1) Ar26.2.2 hin26 (Has.at H26 hin26 rfl) (g := (mkF m 199 #[.val (.int p0), .val (.int p1), .val (.int p2), .val (.int p3), .val (.int p4), .val (.int p5), .val (.ref b1), .val (.int fr), .val (.int ct), .val (.int (fr + ct)), .val (.int (0 : Int32)), .unset] [(.int (2 : Int32)), (.ref b1), (.int ((F4 v0 (0 : Int32) fr (fr + ct)) + (F4 v1 (1 : Int32) fr (fr + ct))))])) rfl rfl (hb hby at_199) _ k) ?_
            refine own_go (B := (T25.setTop (mkF m 201 #[.val (.int p0), .val (.int p1), .val (.int p2), .val (.int p3), .val (.int p4), .val (.int p5), .val (.ref b1), .val (.int fr), .val (.int ct), .val (.int (fr + ct)), .val (.int (0 : Int32)), .unset] [(.int (2 : Int32)), (.int v2), (.int ((F4 v0 (0 : Int32) fr (fr + ct)) + (F4 v1 (1 : Int32) fr (fr + ct))))]))) (fun t k => XS.iconst X25.here hx rfl (hb hby at_200) k) ?_
            refine own_go (B := (T25.setTop (mkF m 203 #[.val (.int p0), .val (.int p1), .val (.int p2), .val (.int p3), .val (.int p4), .val (.int p5), .val (.ref b1), .val (.int fr), .val (.int ct), .val (.int (fr + ct)), .val (.int (0 : Int32)), .unset] [(.int fr), (.int (2 : Int32)), (.int v2), (.int ((F4 v0 (0 : Int32) fr (fr + ct)) + (F4 v1 (1 : Int32) fr (fr + ct))))]))) (fun t k => XS.iload X25.here hx rfl (hb hby at_201) rfl k) ?_
            refine own_go (B := (T25.setTop (mkF m 205 #[.val (.int p0), .val (.int p1), .val (.int p2), .val (.int p3), .val (.int p4), .val (.int p5), .val (.ref b1), .val (.int fr), .val (.int ct), .val (.int (fr + ct)), .val (.int (0 : Int32)), .unset] [(.int (fr + ct)), (.int fr), (.int (2 : Int32)), (.int v2), (.int ((F4 v0 (0 : Int32) fr (fr + ct)) + (F4 v1 (1 : Int32) fr (fr + ct))))]))) (fun t k => XS.iload X25.here hx rfl (hb hby at_203) rfl k) ?_
            obtain ⟨_, _, ⟨T27, L27, k27, n27⟩, -, X27, ⟨Lc27, hQ27, l27, y27, z27⟩, st27⟩ := Jvm.LawKit.callS X25 hx (y := (⟨"com/example/platemark/platemark/records/Iso2709DigitsPinLaw", "term", "(BIII)I"⟩ : MethodName)) hown (mvT hZ (hw _ (List.mem_of_getElem? (i := 11) rfl))) (mvT hZ (hw _ (List.mem_of_getElem? (i := 12) rfl))) (mvT hZ (hw _ (List.mem_of_getElem? (i := 3) rfl))) (mvT hZ (hw _ (List.mem_of_getElem? (i := 13) rfl))) (by decide) (backOf (W := 1) (rm4 l Z ta hw [] v2 (2 : Int32) fr (fr + ct)  h11 n0 ) hZ (hw _ (List.mem_of_getElem? (i := 13) rfl)) (hw _ (List.mem_of_getElem? (i := 3) rfl)) (by decide) (by decide)) (g := (mkF m 205 #[.val (.int p0), .val (.int p1), .val (.int p2), .val (.int p3), .val (.int p4), .val (.int p5), .val (.ref b1), .val (.int fr), .val (.int ct), .val (.int (fr + ct)), .val (.int (0 : Int32)), .unset] [(.int (fr + ct)), (.int fr), (.int (2 : Int32)), (.int v2), (.int ((F4 v0 (0 : Int32) fr (fr + ct)) + (F4 v1 (1 : Int32) fr (fr + ct))))])) rfl (by rw [hml]; rfl) (argsL := [(.int v2), (.int (2 : Int32)), (.int fr), (.int (fr + ct))]) (rest := [(.int ((F4 v0 (0 : Int32) fr (fr + ct)) + (F4 v1 (1 : Int32) fr (fr + ct))))]) (lenOf pd_0_2 rfl) rfl (by show 2 * 0 + _ ≤ _; exact Nat.le_of_eq rfl) (hb hby at_205) (fun _ _ => ⟨rfl, e25, (by decide : (((((((((((((0 + 1) + 0) + 0) + 0) + 0) + 0) + 0) + 0) + 0) + 0) + 0) + 0) + 0) + 0 ≤ _), (by decide : (((((((((((((0 + 5) + 0) + 0) + 0) + 0) + 0) + 0) + 0) + 0) + 0) + 0) + 0) + 0) + 0 ≤ _)⟩)
            dsimp only [Pt.U, Pt.locs, Pt.cells, Pt.slots] at X27 l27 y27 z27 st27 hQ27
            subst l27 y27 z27
            obtain ⟨rfl, N27q, e27⟩ := hQ27
            replace e27 := e27
            have N27 := Fr.app N25 N27q
            refine own_go (B := (T27.setTop (mkF m 208 #[.val (.int p0), .val (.int p1), .val (.int p2), .val (.int p3), .val (.int p4), .val (.int p5), .val (.ref b1), .val (.int fr), .val (.int ct), .val (.int (fr + ct)), .val (.int (0 : Int32)), .unset] [(.int (F4 v2 (2 : Int32) fr (fr + ct))), (.int ((F4 v0 (0 : Int32) fr (fr + ct)) + (F4 v1 (1 : Int32) fr (fr + ct))))]))) (fun t k => st27 _ k) ?_
            refine own_go (B := (T27.setTop (mkF m 209 #[.val (.int p0), .val (.int p1), .val (.int p2), .val (.int p3), .val (.int p4), .val (.int p5), .val (.ref b1), .val (.int fr), .val (.int ct), .val (.int (fr + ct)), .val (.int (0 : Int32)), .unset] [(.int (((F4 v0 (0 : Int32) fr (fr + ct)) + (F4 v1 (1 : Int32) fr (fr + ct))) + (F4 v2 (2 : Int32) fr (fr + ct))))]))) (fun t k => XS.iadd X27.here hx rfl (hb hby at_208) rfl k) ?_
            refine own_go (B := (T27.setTop (mkF m 211 #[.val (.int p0), .val (.int p1), .val (.int p2), .val (.int p3), .val (.int p4), .val (.int p5), .val (.ref b1), .val (.int fr), .val (.int ct), .val (.int (fr + ct)), .val (.int (0 : Int32)), .unset] [(.ref b1), (.int (((F4 v0 (0 : Int32) fr (fr + ct)) + (F4 v1 (1 : Int32) fr (fr + ct))) + (F4 v2 (2 : Int32) fr (fr + ct))))]))) (fun t k => XS.aload X27.here hx rfl (hb hby at_209) rfl rfl k) ?_
            refine own_go (B := (T27.setTop (mkF m 212 #[.val (.int p0), .val (.int p1), .val (.int p2), .val (.int p3), .val (.int p4), .val (.int p5), .val (.ref b1), .val (.int fr), .val (.int ct), .val (.int (fr + ct)), .val (.int (0 : Int32)), .unset] [(.int (3 : Int32)), (.ref b1), (.int (((F4 v0 (0 : Int32) fr (fr + ct)) + (F4 v1 (1 : Int32) fr (fr + ct))) + (F4 v2 (2 : Int32) fr (fr + ct))))]))) (fun t k => XS.iconst X27.here hx rfl (hb hby at_211) k) ?_
            obtain ⟨cl28, Ar28, q28, S28, Nn28, H28, G28⟩ := id V_b1_11
            have hin28 : ¬ ((3 : Int32) < 0 ∨ cl28.slots.size ≤ ((3 : Int32)).toNatClampNeg) := inb_of S28 ⟨by decide, by decide⟩
            refine own_go (B := (T27.setTop (mkF m 213 #[.val (.int p0), .val (.int p1), .val (.int p2), .val (.int p3), .val (.int p4), .val (.int p5), .val (.ref b1), .val (.int fr), .val (.int ct), .val (.int (fr + ct)), .val (.int (0 : Int32)), .unset] [(.int v3), (.int (((F4 v0 (0 : Int32) fr (fr + ct)) + (F4 v1 (1 : Int32) fr (fr + ct))) + (F4 v2 (2 : Int32) fr (fr + ct))))]))) (fun t k => X27.baloadBytes hx (j := (3 : Int32)) (v := (.int v3)) (by rw [e27]; exact Ar28.1) (State.isArrayOf_alike hZ.alike Ar28.2.1) Ar28.2.2 hin28 (Has.at H28 hin28 rfl) (g := (mkF m 212 #[.val (.int p0), .val (.int p1), .val (.int p2), .val (.int p3), .val (.int p4), .val (.int p5), .val (.ref b1), .val (.int fr), .val (.int ct), .val (.int (fr + ct)), .val (.int (0 : Int32)), .unset] [(.int (3 : Int32)), (.ref b1), (.int (((F4 v0 (0 : Int32) fr (fr + ct)) + (F4 v1 (1 : Int32) fr (fr + ct))) + (F4 v2 (2 : Int32) fr (fr + ct))))])) rfl rfl (hb hby at_212) _ k) ?_
            refine own_go (B := (T27.setTop (mkF m 214 #[.val (.int p0), .val (.int p1), .val (.int p2), .val (.int p3), .val (.int p4), .val (.int p5), .val (.ref b1), .val (.int fr), .val (.int ct), .val (.int (fr + ct)), .val (.int (0 : Int32)), .unset] [(.int (3 : Int32)), (.int v3), (.int (((F4 v0 (0 : Int32) fr (fr + ct)) + (F4 v1 (1 : Int32) fr (fr + ct))) + (F4 v2 (2 : Int32) fr (fr + ct))))]))) (fun t k => XS.iconst X27.here hx rfl (hb hby at_213) k) ?_
            refine own_go (B := (T27.setTop (mkF m 216 #[.val (.int p0), .val (.int p1), .val (.int p2), .val (.int p3), .val (.int p4), .val (.int p5), .val (.ref b1), .val (.int fr), .val (.int ct), .val (.int (fr + ct)), .val (.int (0 : Int32)), .unset] [(.int fr), (.int (3 : Int32)), (.int v3), (.int (((F4 v0 (0 : Int32) fr (fr + ct)) + (F4 v1 (1 : Int32) fr (fr + ct))) + (F4 v2 (2 : Int32) fr (fr + ct))))]))) (fun t k => XS.iload X27.here hx rfl (hb hby at_214) rfl k) ?_
            refine own_go (B := (T27.setTop (mkF m 218 #[.val (.int p0), .val (.int p1), .val (.int p2), .val (.int p3), .val (.int p4), .val (.int p5), .val (.ref b1), .val (.int fr), .val (.int ct), .val (.int (fr + ct)), .val (.int (0 : Int32)), .unset] [(.int (fr + ct)), (.int fr), (.int (3 : Int32)), (.int v3), (.int (((F4 v0 (0 : Int32) fr (fr + ct)) + (F4 v1 (1 : Int32) fr (fr + ct))) + (F4 v2 (2 : Int32) fr (fr + ct))))]))) (fun t k => XS.iload X27.here hx rfl (hb hby at_216) rfl k) ?_
            obtain ⟨_, _, ⟨T29, L29, k29, n29⟩, -, X29, ⟨Lc29, hQ29, l29, y29, z29⟩, st29⟩ := Jvm.LawKit.callS X27 hx (y := (⟨"com/example/platemark/platemark/records/Iso2709DigitsPinLaw", "term", "(BIII)I"⟩ : MethodName)) hown (mvT hZ (hw _ (List.mem_of_getElem? (i := 11) rfl))) (mvT hZ (hw _ (List.mem_of_getElem? (i := 12) rfl))) (mvT hZ (hw _ (List.mem_of_getElem? (i := 3) rfl))) (mvT hZ (hw _ (List.mem_of_getElem? (i := 13) rfl))) (by decide) (backOf (W := 1) (rm4 l Z ta hw [] v3 (3 : Int32) fr (fr + ct)  h11 n0 ) hZ (hw _ (List.mem_of_getElem? (i := 13) rfl)) (hw _ (List.mem_of_getElem? (i := 3) rfl)) (by decide) (by decide)) (g := (mkF m 218 #[.val (.int p0), .val (.int p1), .val (.int p2), .val (.int p3), .val (.int p4), .val (.int p5), .val (.ref b1), .val (.int fr), .val (.int ct), .val (.int (fr + ct)), .val (.int (0 : Int32)), .unset] [(.int (fr + ct)), (.int fr), (.int (3 : Int32)), (.int v3), (.int (((F4 v0 (0 : Int32) fr (fr + ct)) + (F4 v1 (1 : Int32) fr (fr + ct))) + (F4 v2 (2 : Int32) fr (fr + ct))))])) rfl (by rw [hml]; rfl) (argsL := [(.int v3), (.int (3 : Int32)), (.int fr), (.int (fr + ct))]) (rest := [(.int (((F4 v0 (0 : Int32) fr (fr + ct)) + (F4 v1 (1 : Int32) fr (fr + ct))) + (F4 v2 (2 : Int32) fr (fr + ct))))]) (lenOf pd_0_2 rfl) rfl (by show 2 * 0 + _ ≤ _; exact Nat.le_of_eq rfl) (hb hby at_218) (fun _ _ => ⟨rfl, e27, (by decide : ((((((((((((((0 + 1) + 0) + 0) + 0) + 0) + 0) + 0) + 0) + 0) + 0) + 0) + 0) + 0) + 0) + 0 ≤ _), (by decide : ((((((((((((((0 + 5) + 0) + 0) + 0) + 0) + 0) + 0) + 0) + 0) + 0) + 0) + 0) + 0) + 0) + 0 ≤ _)⟩)
            dsimp only [Pt.U, Pt.locs, Pt.cells, Pt.slots] at X29 l29 y29 z29 st29 hQ29
            subst l29 y29 z29
            obtain ⟨rfl, N29q, e29⟩ := hQ29
            replace e29 := e29
            have N29 := Fr.app N27 N29q
            refine own_go (B := (T29.setTop (mkF m 221 #[.val (.int p0), .val (.int p1), .val (.int p2), .val (.int p3), .val (.int p4), .val (.int p5), .val (.ref b1), .val (.int fr), .val (.int ct), .val (.int (fr + ct)), .val (.int (0 : Int32)), .unset] [(.int (F4 v3 (3 : Int32) fr (fr + ct))), (.int (((F4 v0 (0 : Int32) fr (fr + ct)) + (F4 v1 (1 : Int32) fr (fr + ct))) + (F4 v2 (2 : Int32) fr (fr + ct))))]))) (fun t k => st29 _ k) ?_
            refine own_go (B := (T29.setTop (mkF m 222 #[.val (.int p0), .val (.int p1), .val (.int p2), .val (.int p3), .val (.int p4), .val (.int p5), .val (.ref b1), .val (.int fr), .val (.int ct), .val (.int (fr + ct)), .val (.int (0 : Int32)), .unset] [(.int ((((F4 v0 (0 : Int32) fr (fr + ct)) + (F4 v1 (1 : Int32) fr (fr + ct))) + (F4 v2 (2 : Int32) fr (fr + ct))) + (F4 v3 (3 : Int32) fr (fr + ct))))]))) (fun t k => XS.iadd X29.here hx rfl (hb hby at_221) rfl k) ?_
            refine own_go (B := (T29.setTop (mkF m 224 #[.val (.int p0), .val (.int p1), .val (.int p2), .val (.int p3), .val (.int p4), .val (.int p5), .val (.ref b1), .val (.int fr), .val (.int ct), .val (.int (fr + ct)), .val (.int (0 : Int32)), .unset] [(.ref b1), (.int ((((F4 v0 (0 : Int32) fr (fr + ct)) + (F4 v1 (1 : Int32) fr (fr + ct))) + (F4 v2 (2 : Int32) fr (fr + ct))) + (F4 v3 (3 : Int32) fr (fr + ct))))]))) (fun t k => XS.aload X29.here hx rfl (hb hby at_222) rfl rfl k) ?_
            refine own_go (B := (T29.setTop (mkF m 225 #[.val (.int p0), .val (.int p1), .val (.int p2), .val (.int p3), .val (.int p4), .val (.int p5), .val (.ref b1), .val (.int fr), .val (.int ct), .val (.int (fr + ct)), .val (.int (0 : Int32)), .unset] [(.int (4 : Int32)), (.ref b1), (.int ((((F4 v0 (0 : Int32) fr (fr + ct)) + (F4 v1 (1 : Int32) fr (fr + ct))) + (F4 v2 (2 : Int32) fr (fr + ct))) + (F4 v3 (3 : Int32) fr (fr + ct))))]))) (fun t k => XS.iconst X29.here hx rfl (hb hby at_224) k) ?_
            obtain ⟨cl30, Ar30, q30, S30, Nn30, H30, G30⟩ := id V_b1_11
            have hin30 : ¬ ((4 : Int32) < 0 ∨ cl30.slots.size ≤ ((4 : Int32)).toNatClampNeg) := inb_of S30 ⟨by decide, by decide⟩
            refine own_go (B := (T29.setTop (mkF m 226 #[.val (.int p0), .val (.int p1), .val (.int p2), .val (.int p3), .val (.int p4), .val (.int p5), .val (.ref b1), .val (.int fr), .val (.int ct), .val (.int (fr + ct)), .val (.int (0 : Int32)), .unset] [(.int v4), (.int ((((F4 v0 (0 : Int32) fr (fr + ct)) + (F4 v1 (1 : Int32) fr (fr + ct))) + (F4 v2 (2 : Int32) fr (fr + ct))) + (F4 v3 (3 : Int32) fr (fr + ct))))]))) (fun t k => X29.baloadBytes hx (j := (4 : Int32)) (v := (.int v4)) (by rw [e29]; exact Ar30.1) (State.isArrayOf_alike hZ.alike Ar30.2.1) Ar30.2.2 hin30 (Has.at H30 hin30 rfl) (g := (mkF m 225 #[.val (.int p0), .val (.int p1), .val (.int p2), .val (.int p3), .val (.int p4), .val (.int p5), .val (.ref b1), .val (.int fr), .val (.int ct), .val (.int (fr + ct)), .val (.int (0 : Int32)), .unset] [(.int (4 : Int32)), (.ref b1), (.int ((((F4 v0 (0 : Int32) fr (fr + ct)) + (F4 v1 (1 : Int32) fr (fr + ct))) + (F4 v2 (2 : Int32) fr (fr + ct))) + (F4 v3 (3 : Int32) fr (fr + ct))))])) rfl rfl (hb hby at_225) _ k) ?_
            refine own_go (B := (T29.setTop (mkF m 227 #[.val (.int p0), .val (.int p1), .val (.int p2), .val (.int p3), .val (.int p4), .val (.int p5), .val (.ref b1), .val (.int fr), .val (.int ct), .val (.int (fr + ct)), .val (.int (0 : Int32)), .unset] [(.int (4 : Int32)), (.int v4), (.int ((((F4 v0 (0 : Int32) fr (fr + ct)) + (F4 v1 (1 : Int32) fr (fr + ct))) + (F4 v2 (2 : Int32) fr (fr + ct))) + (F4 v3 (3 : Int32) fr (fr + ct))))]))) (fun t k => XS.iconst X29.here hx rfl (hb hby at_226) k) ?_
            refine own_go (B := (T29.setTop (mkF m 229 #[.val (.int p0), .val (.int p1), .val (.int p2), .val (.int p3), .val (.int p4), .val (.int p5), .val (.ref b1), .val (.int fr), .val (.int ct), .val (.int (fr + ct)), .val (.int (0 : Int32)), .unset] [(.int fr), (.int (4 : Int32)), (.int v4), (.int ((((F4 v0 (0 : Int32) fr (fr + ct)) + (F4 v1 (1 : Int32) fr (fr + ct))) + (F4 v2 (2 : Int32) fr (fr + ct))) + (F4 v3 (3 : Int32) fr (fr + ct))))]))) (fun t k => XS.iload X29.here hx rfl (hb hby at_227) rfl k) ?_
            refine own_go (B := (T29.setTop (mkF m 231 #[.val (.int p0), .val (.int p1), .val (.int p2), .val (.int p3), .val (.int p4), .val (.int p5), .val (.ref b1), .val (.int fr), .val (.int ct), .val (.int (fr + ct)), .val (.int (0 : Int32)), .unset] [(.int (fr + ct)), (.int fr), (.int (4 : Int32)), (.int v4), (.int ((((F4 v0 (0 : Int32) fr (fr + ct)) + (F4 v1 (1 : Int32) fr (fr + ct))) + (F4 v2 (2 : Int32) fr (fr + ct))) + (F4 v3 (3 : Int32) fr (fr + ct))))]))) (fun t k => XS.iload X29.here hx rfl (hb hby at_229) rfl k) ?_
            obtain ⟨_, _, ⟨T31, L31, k31, n31⟩, -, X31, ⟨Lc31, hQ31, l31, y31, z31⟩, st31⟩ := Jvm.LawKit.callS X29 hx (y := (⟨"com/example/platemark/platemark/records/Iso2709DigitsPinLaw", "term", "(BIII)I"⟩ : MethodName)) hown (mvT hZ (hw _ (List.mem_of_getElem? (i := 11) rfl))) (mvT hZ (hw _ (List.mem_of_getElem? (i := 12) rfl))) (mvT hZ (hw _ (List.mem_of_getElem? (i := 3) rfl))) (mvT hZ (hw _ (List.mem_of_getElem? (i := 13) rfl))) (by decide) (backOf (W := 1) (rm4 l Z ta hw [] v4 (4 : Int32) fr (fr + ct)  h11 n0 ) hZ (hw _ (List.mem_of_getElem? (i := 13) rfl)) (hw _ (List.mem_of_getElem? (i := 3) rfl)) (by decide) (by decide)) (g := (mkF m 231 #[.val (.int p0), .val (.int p1), .val (.int p2), .val (.int p3), .val (.int p4), .val (.int p5), .val (.ref b1), .val (.int fr), .val (.int ct), .val (.int (fr + ct)), .val (.int (0 : Int32)), .unset] [(.int (fr + ct)), (.int fr), (.int (4 : Int32)), (.int v4), (.int ((((F4 v0 (0 : Int32) fr (fr + ct)) + (F4 v1 (1 : Int32) fr (fr + ct))) + (F4 v2 (2 : Int32) fr (fr + ct))) + (F4 v3 (3 : Int32) fr (fr + ct))))])) rfl (by rw [hml]; rfl) (argsL := [(.int v4), (.int (4 : Int32)), (.int fr), (.int (fr + ct))]) (rest := [(.int ((((F4 v0 (0 : Int32) fr (fr + ct)) + (F4 v1 (1 : Int32) fr (fr + ct))) + (F4 v2 (2 : Int32) fr (fr + ct))) + (F4 v3 (3 : Int32) fr (fr + ct))))]) (lenOf pd_0_2 rfl) rfl (by show 2 * 0 + _ ≤ _; exact Nat.le_of_eq rfl) (hb hby at_231) (fun _ _ => ⟨rfl, e29, (by decide : (((((((((((((((0 + 1) + 0) + 0) + 0) + 0) + 0) + 0) + 0) + 0) + 0) + 0) + 0) + 0) + 0) + 0) + 0 ≤ _), (by decide : (((((((((((((((0 + 5) + 0) + 0) + 0) + 0) + 0) + 0) + 0) + 0) + 0) + 0) + 0) + 0) + 0) + 0) + 0 ≤ _)⟩)
            dsimp only [Pt.U, Pt.locs, Pt.cells, Pt.slots] at X31 l31 y31 z31 st31 hQ31
            subst l31 y31 z31
            obtain ⟨rfl, N31q, e31⟩ := hQ31
            replace e31 := e31
            have N31 := Fr.app N29 N31q
            refine own_go (B := (T31.setTop (mkF m 234 #[.val (.int p0), .val (.int p1), .val (.int p2), .val (.int p3), .val (.int p4), .val (.int p5), .val (.ref b1), .val (.int fr), .val (.int ct), .val (.int (fr + ct)), .val (.int (0 : Int32)), .unset] [(.int (F4 v4 (4 : Int32) fr (fr + ct))), (.int ((((F4 v0 (0 : Int32) fr (fr + ct)) + (F4 v1 (1 : Int32) fr (fr + ct))) + (F4 v2 (2 : Int32) fr (fr + ct))) + (F4 v3 (3 : Int32) fr (fr + ct))))]))) (fun t k => st31 _ k) ?_
            refine own_go (B := (T31.setTop (mkF m 235 #[.val (.int p0), .val (.int p1), .val (.int p2), .val (.int p3), .val (.int p4), .val (.int p5), .val (.ref b1), .val (.int fr), .val (.int ct), .val (.int (fr + ct)), .val (.int (0 : Int32)), .unset] [(.int (((((F4 v0 (0 : Int32) fr (fr + ct)) + (F4 v1 (1 : Int32) fr (fr + ct))) + (F4 v2 (2 : Int32) fr (fr + ct))) + (F4 v3 (3 : Int32) fr (fr + ct))) + (F4 v4 (4 : Int32) fr (fr + ct))))]))) (fun t k => XS.iadd X31.here hx rfl (hb hby at_234) rfl k) ?_
            refine own_go (B := (T31.setTop (mkF m 237 #[.val (.int p0), .val (.int p1), .val (.int p2), .val (.int p3), .val (.int p4), .val (.int p5), .val (.ref b1), .val (.int fr), .val (.int ct), .val (.int (fr + ct)), .val (.int (0 : Int32)), .val (.int (((((F4 v0 (0 : Int32) fr (fr + ct)) + (F4 v1 (1 : Int32) fr (fr + ct))) + (F4 v2 (2 : Int32) fr (fr + ct))) + (F4 v3 (3 : Int32) fr (fr + ct))) + (F4 v4 (4 : Int32) fr (fr + ct))))] []))) (fun t k => XS.istore X31.here hx rfl (hb hby at_235) rfl (l' := #[.val (.int p0), .val (.int p1), .val (.int p2), .val (.int p3), .val (.int p4), .val (.int p5), .val (.ref b1), .val (.int fr), .val (.int ct), .val (.int (fr + ct)), .val (.int (0 : Int32)), .val (.int (((((F4 v0 (0 : Int32) fr (fr + ct)) + (F4 v1 (1 : Int32) fr (fr + ct))) + (F4 v2 (2 : Int32) fr (fr + ct))) + (F4 v3 (3 : Int32) fr (fr + ct))) + (F4 v4 (4 : Int32) fr (fr + ct))))]) rfl k) ?_
            refine own_go (B := (T31.setTop (mkF m 239 #[.val (.int p0), .val (.int p1), .val (.int p2), .val (.int p3), .val (.int p4), .val (.int p5), .val (.ref b1), .val (.int fr), .val (.int ct), .val (.int (fr + ct)), .val (.int (0 : Int32)), .val (.int (((((F4 v0 (0 : Int32) fr (fr + ct)) + (F4 v1 (1 : Int32) fr (fr + ct))) + (F4 v2 (2 : Int32) fr (fr + ct))) + (F4 v3 (3 : Int32) fr (fr + ct))) + (F4 v4 (4 : Int32) fr (fr + ct))))] [(.ref b1)]))) (fun t k => XS.aload X31.here hx rfl (hb hby at_237) rfl rfl k) ?_
            refine own_go (B := (T31.setTop (mkF m 241 #[.val (.int p0), .val (.int p1), .val (.int p2), .val (.int p3), .val (.int p4), .val (.int p5), .val (.ref b1), .val (.int fr), .val (.int ct), .val (.int (fr + ct)), .val (.int (0 : Int32)), .val (.int (((((F4 v0 (0 : Int32) fr (fr + ct)) + (F4 v1 (1 : Int32) fr (fr + ct))) + (F4 v2 (2 : Int32) fr (fr + ct))) + (F4 v3 (3 : Int32) fr (fr + ct))) + (F4 v4 (4 : Int32) fr (fr + ct))))] [(.int fr), (.ref b1)]))) (fun t k => XS.iload X31.here hx rfl (hb hby at_239) rfl k) ?_
            refine own_go (B := (T31.setTop (mkF m 243 #[.val (.int p0), .val (.int p1), .val (.int p2), .val (.int p3), .val (.int p4), .val (.int p5), .val (.ref b1), .val (.int fr), .val (.int ct), .val (.int (fr + ct)), .val (.int (0 : Int32)), .val (.int (((((F4 v0 (0 : Int32) fr (fr + ct)) + (F4 v1 (1 : Int32) fr (fr + ct))) + (F4 v2 (2 : Int32) fr (fr + ct))) + (F4 v3 (3 : Int32) fr (fr + ct))) + (F4 v4 (4 : Int32) fr (fr + ct))))] [(.int ct), (.int fr), (.ref b1)]))) (fun t k => XS.iload X31.here hx rfl (hb hby at_241) rfl k) ?_
            obtain ⟨cld, Ard, qd, Sd, Nd, Hd, Gd⟩ := id V_b1_11
            have szd : cld.slots.size = 5 := Sd
            have Hvd := own_Hv szd Hd
            have ed0 : atv cld (0 : Int32) = v0 := atv_of (Has.at Hd (inb_of Sd ⟨by decide, by decide⟩) rfl)
            have ed1 : atv cld (1 : Int32) = v1 := atv_of (Has.at Hd (inb_of Sd ⟨by decide, by decide⟩) rfl)
            have ed2 : atv cld (2 : Int32) = v2 := atv_of (Has.at Hd (inb_of Sd ⟨by decide, by decide⟩) rfl)
            have ed3 : atv cld (3 : Int32) = v3 := atv_of (Has.at Hd (inb_of Sd ⟨by decide, by decide⟩) rfl)
            have ed4 : atv cld (4 : Int32) = v4 := atv_of (Has.at Hd (inb_of Sd ⟨by decide, by decide⟩) rfl)
            obtain ⟨_, _, ⟨T32, L32, k32, n32⟩, -, X32, ⟨Lc32, hQ32, l32, y32, z32⟩, st32⟩ := Jvm.LawKit.callS X31 hx (y := (⟨"com/example/platemark/platemark/records/Iso2709", "digits", "([BII)I"⟩ : MethodName)) hown (mvT hZ (hw _ (List.mem_of_getElem? (i := 14) rfl))) (mvT hZ (hw _ (List.mem_of_getElem? (i := 15) rfl))) (mvT hZ (hw _ (List.mem_of_getElem? (i := 16) rfl))) (mvT hZ (hw _ (List.mem_of_getElem? (i := 17) rfl))) (by decide) (backOf (W := 0) (rm5 l Z ta hw [] b1 fr ct cld h11 n0 Ard szd Hvd hf1.1 hf2.1 (by omega)) hZ (hw _ (List.mem_of_getElem? (i := 17) rfl)) (hw _ (List.mem_of_getElem? (i := 16) rfl)) (by decide) (by decide)) (g := (mkF m 243 #[.val (.int p0), .val (.int p1), .val (.int p2), .val (.int p3), .val (.int p4), .val (.int p5), .val (.ref b1), .val (.int fr), .val (.int ct), .val (.int (fr + ct)), .val (.int (0 : Int32)), .val (.int (((((F4 v0 (0 : Int32) fr (fr + ct)) + (F4 v1 (1 : Int32) fr (fr + ct))) + (F4 v2 (2 : Int32) fr (fr + ct))) + (F4 v3 (3 : Int32) fr (fr + ct))) + (F4 v4 (4 : Int32) fr (fr + ct))))] [(.int ct), (.int fr), (.ref b1)])) rfl (by rw [hml]; rfl) (argsL := [(.ref b1), (.int fr), (.int ct)]) (rest := []) (lenOf pd_0_3 rfl) rfl (by show 2 * 0 + _ ≤ _; exact Nat.le_of_eq rfl) (hb hby at_243) (fun _ _ => ⟨rfl, e31, (by decide : ((((((((((((((((0 + 1) + 0) + 0) + 0) + 0) + 0) + 0) + 0) + 0) + 0) + 0) + 0) + 0) + 0) + 0) + 0) + 0 ≤ _), (by decide : ((((((((((((((((0 + 5) + 0) + 0) + 0) + 0) + 0) + 0) + 0) + 0) + 0) + 0) + 0) + 0) + 0) + 0) + 0) + 0 ≤ _)⟩)
            dsimp only [Pt.U, Pt.locs, Pt.cells, Pt.slots] at X32 l32 y32 z32 st32 hQ32
            subst l32 y32 z32
            obtain ⟨rfl, N32q, e32⟩ := hQ32
            replace e32 := e32
            have N32 := Fr.app N31 N32q
            refine own_go (B := (T32.setTop (mkF m 246 #[.val (.int p0), .val (.int p1), .val (.int p2), .val (.int p3), .val (.int p4), .val (.int p5), .val (.ref b1), .val (.int fr), .val (.int ct), .val (.int (fr + ct)), .val (.int (0 : Int32)), .val (.int (((((F4 v0 (0 : Int32) fr (fr + ct)) + (F4 v1 (1 : Int32) fr (fr + ct))) + (F4 v2 (2 : Int32) fr (fr + ct))) + (F4 v3 (3 : Int32) fr (fr + ct))) + (F4 v4 (4 : Int32) fr (fr + ct))))] [(.int (own_Dig cld ct.toInt.toNat fr (0 : Int32)))]))) (fun t k => st32 _ k) ?_
            refine own_go (B := (T32.setTop (mkF m 248 #[.val (.int p0), .val (.int p1), .val (.int p2), .val (.int p3), .val (.int p4), .val (.int p5), .val (.ref b1), .val (.int fr), .val (.int ct), .val (.int (fr + ct)), .val (.int (0 : Int32)), .val (.int (((((F4 v0 (0 : Int32) fr (fr + ct)) + (F4 v1 (1 : Int32) fr (fr + ct))) + (F4 v2 (2 : Int32) fr (fr + ct))) + (F4 v3 (3 : Int32) fr (fr + ct))) + (F4 v4 (4 : Int32) fr (fr + ct))))] [(.int (((((F4 v0 (0 : Int32) fr (fr + ct)) + (F4 v1 (1 : Int32) fr (fr + ct))) + (F4 v2 (2 : Int32) fr (fr + ct))) + (F4 v3 (3 : Int32) fr (fr + ct))) + (F4 v4 (4 : Int32) fr (fr + ct)))), (.int (own_Dig cld ct.toInt.toNat fr (0 : Int32)))]))) (fun t k => XS.iload X32.here hx rfl (hb hby at_246) rfl k) ?_
            refine own_go (B := (T32.setTop (mkF m 251 #[.val (.int p0), .val (.int p1), .val (.int p2), .val (.int p3), .val (.int p4), .val (.int p5), .val (.ref b1), .val (.int fr), .val (.int ct), .val (.int (fr + ct)), .val (.int (0 : Int32)), .val (.int (((((F4 v0 (0 : Int32) fr (fr + ct)) + (F4 v1 (1 : Int32) fr (fr + ct))) + (F4 v2 (2 : Int32) fr (fr + ct))) + (F4 v3 (3 : Int32) fr (fr + ct))) + (F4 v4 (4 : Int32) fr (fr + ct))))] []))) (fun t k => XS.icmpNo X32.here hx rfl (hb hby at_248) rfl (teq (own_good cld v0 v1 v2 v3 v4 fr ct ed0 ed1 ed2 ed3 ed4 hf1.1 hf1.2 hf2.1 hf2.2 hc90 hc105 hc120 hc135 hc150)).2 k) ?_
            refine own_go (B := (T32.setTop (mkF m 252 #[.val (.int p0), .val (.int p1), .val (.int p2), .val (.int p3), .val (.int p4), .val (.int p5), .val (.ref b1), .val (.int fr), .val (.int ct), .val (.int (fr + ct)), .val (.int (0 : Int32)), .val (.int (((((F4 v0 (0 : Int32) fr (fr + ct)) + (F4 v1 (1 : Int32) fr (fr + ct))) + (F4 v2 (2 : Int32) fr (fr + ct))) + (F4 v3 (3 : Int32) fr (fr + ct))) + (F4 v4 (4 : Int32) fr (fr + ct))))] [(.int (1 : Int32))]))) (fun t k => XS.iconst X32.here hx rfl (hb hby at_251) k) ?_
            refine own_go (B := (T32.setTop (mkF m 256 #[.val (.int p0), .val (.int p1), .val (.int p2), .val (.int p3), .val (.int p4), .val (.int p5), .val (.ref b1), .val (.int fr), .val (.int ct), .val (.int (fr + ct)), .val (.int (0 : Int32)), .val (.int (((((F4 v0 (0 : Int32) fr (fr + ct)) + (F4 v1 (1 : Int32) fr (fr + ct))) + (F4 v2 (2 : Int32) fr (fr + ct))) + (F4 v3 (3 : Int32) fr (fr + ct))) + (F4 v4 (4 : Int32) fr (fr + ct))))] [(.int (1 : Int32))]))) (fun t k => XS.goto X32.here hx rfl (pc0 := 252) (pc' := 256) rfl (hb hby at_252) (by decide) (by decide) k) ?_
            obtain ⟨fs, hr, hrun, hended, hW, hsame⟩ := X32.leave (v := some (.int (1 : Int32))) (fun h => by rw [Bd.returns] at h; cases h)
            exact ⟨_, _, retN X32 hx (t := .boolean) Bd.returns (by simp) (hb hby at_256) hr, hrun, hended, _, _, rfl, ⟨rfl, N32⟩, ⟨_, rfl⟩, hW, hsame.mono (by decide) (by decide)⟩
          · refine own_go (B := (T21.setTop (mkF m 153 #[.val (.int p0), .val (.int p1), .val (.int p2), .val (.int p3), .val (.int p4), .val (.int p5), .val (.ref b1), .val (.int fr), .val (.int ct), .val (.int (fr + ct)), .unset, .unset] []))) (fun t k => XS.ifNo X21.here hx rfl (hb hby at_150) rfl ((if0 _ _).trans (feq hc150).1) k) ?_
            refine own_go (B := (T21.setTop (mkF m 154 #[.val (.int p0), .val (.int p1), .val (.int p2), .val (.int p3), .val (.int p4), .val (.int p5), .val (.ref b1), .val (.int fr), .val (.int ct), .val (.int (fr + ct)), .unset, .unset] [(.int (1 : Int32))]))) (fun t k => XS.iconst X21.here hx rfl (hb hby at_153) k) ?_
            refine own_go (B := (T21.setTop (mkF m 158 #[.val (.int p0), .val (.int p1), .val (.int p2), .val (.int p3), .val (.int p4), .val (.int p5), .val (.ref b1), .val (.int fr), .val (.int ct), .val (.int (fr + ct)), .unset, .unset] [(.int (1 : Int32))]))) (fun t k => XS.goto X21.here hx rfl (pc0 := 154) (pc' := 158) rfl (hb hby at_154) (by decide) (by decide) k) ?_
            refine own_go (B := (T21.setTop (mkF m 160 #[.val (.int p0), .val (.int p1), .val (.int p2), .val (.int p3), .val (.int p4), .val (.int p5), .val (.ref b1), .val (.int fr), .val (.int ct), .val (.int (fr + ct)), .val (.int (1 : Int32)), .unset] []))) (fun t k => XS.istore X21.here hx rfl (hb hby at_158) rfl (l' := #[.val (.int p0), .val (.int p1), .val (.int p2), .val (.int p3), .val (.int p4), .val (.int p5), .val (.ref b1), .val (.int fr), .val (.int ct), .val (.int (fr + ct)), .val (.int (1 : Int32)), .unset]) rfl k) ?_
            refine own_go (B := (T21.setTop (mkF m 162 #[.val (.int p0), .val (.int p1), .val (.int p2), .val (.int p3), .val (.int p4), .val (.int p5), .val (.ref b1), .val (.int fr), .val (.int ct), .val (.int (fr + ct)), .val (.int (1 : Int32)), .unset] [(.int (1 : Int32))]))) (fun t k => XS.iload X21.here hx rfl (hb hby at_160) rfl k) ?_
            refine own_go (B := (T21.setTop (mkF m 165 #[.val (.int p0), .val (.int p1), .val (.int p2), .val (.int p3), .val (.int p4), .val (.int p5), .val (.ref b1), .val (.int fr), .val (.int ct), .val (.int (fr + ct)), .val (.int (1 : Int32)), .unset] []))) (fun t k => XS.ifNo X21.here hx rfl (hb hby at_162) rfl ((if0 _ _).trans (feq (by decide)).1) k) ?_
            refine own_go (B := (T21.setTop (mkF m 166 #[.val (.int p0), .val (.int p1), .val (.int p2), .val (.int p3), .val (.int p4), .val (.int p5), .val (.ref b1), .val (.int fr), .val (.int ct), .val (.int (fr + ct)), .val (.int (1 : Int32)), .unset] [(.int (-1 : Int32))]))) (fun t k => XS.iconst X21.here hx rfl (hb hby at_165) k) ?_
            refine own_go (B := (T21.setTop (mkF m 168 #[.val (.int p0), .val (.int p1), .val (.int p2), .val (.int p3), .val (.int p4), .val (.int p5), .val (.ref b1), .val (.int fr), .val (.int ct), .val (.int (fr + ct)), .val (.int (1 : Int32)), .val (.int (-1 : Int32))] []))) (fun t k => XS.istore X21.here hx rfl (hb hby at_166) rfl (l' := #[.val (.int p0), .val (.int p1), .val (.int p2), .val (.int p3), .val (.int p4), .val (.int p5), .val (.ref b1), .val (.int fr), .val (.int ct), .val (.int (fr + ct)), .val (.int (1 : Int32)), .val (.int (-1 : Int32))]) rfl k) ?_
            refine own_go (B := (T21.setTop (mkF m 237 #[.val (.int p0), .val (.int p1), .val (.int p2), .val (.int p3), .val (.int p4), .val (.int p5), .val (.ref b1), .val (.int fr), .val (.int ct), .val (.int (fr + ct)), .val (.int (1 : Int32)), .val (.int (-1 : Int32))] []))) (fun t k => XS.goto X21.here hx rfl (pc0 := 168) (pc' := 237) rfl (hb hby at_168) (by decide) (by decide) k) ?_
            refine own_go (B := (T21.setTop (mkF m 239 #[.val (.int p0), .val (.int p1), .val (.int p2), .val (.int p3), .val (.int p4), .val (.int p5), .val (.ref b1), .val (.int fr), .val (.int ct), .val (.int (fr + ct)), .val (.int (1 : Int32)), .val (.int (-1 : Int32))] [(.ref b1)]))) (fun t k => XS.aload X21.here hx rfl (hb hby at_237) rfl rfl k) ?_
            refine own_go (B := (T21.setTop (mkF m 241 #[.val (.int p0), .val (.int p1), .val (.int p2), .val (.int p3), .val (.int p4), .val (.int p5), .val (.ref b1), .val (.int fr), .val (.int ct), .val (.int (fr + ct)), .val (.int (1 : Int32)), .val (.int (-1 : Int32))] [(.int fr), (.ref b1)]))) (fun t k => XS.iload X21.here hx rfl (hb hby at_239) rfl k) ?_
            refine own_go (B := (T21.setTop (mkF m 243 #[.val (.int p0), .val (.int p1), .val (.int p2), .val (.int p3), .val (.int p4), .val (.int p5), .val (.ref b1), .val (.int fr), .val (.int ct), .val (.int (fr + ct)), .val (.int (1 : Int32)), .val (.int (-1 : Int32))] [(.int ct), (.int fr), (.ref b1)]))) (fun t k => XS.iload X21.here hx rfl (hb hby at_241) rfl k) ?_
            obtain ⟨cld, Ard, qd, Sd, Nd, Hd, Gd⟩ := id V_b1_11
            have szd : cld.slots.size = 5 := Sd
            have Hvd := own_Hv szd Hd
            have ed0 : atv cld (0 : Int32) = v0 := atv_of (Has.at Hd (inb_of Sd ⟨by decide, by decide⟩) rfl)
            have ed1 : atv cld (1 : Int32) = v1 := atv_of (Has.at Hd (inb_of Sd ⟨by decide, by decide⟩) rfl)
            have ed2 : atv cld (2 : Int32) = v2 := atv_of (Has.at Hd (inb_of Sd ⟨by decide, by decide⟩) rfl)
            have ed3 : atv cld (3 : Int32) = v3 := atv_of (Has.at Hd (inb_of Sd ⟨by decide, by decide⟩) rfl)
            have ed4 : atv cld (4 : Int32) = v4 := atv_of (Has.at Hd (inb_of Sd ⟨by decide, by decide⟩) rfl)
            obtain ⟨_, _, ⟨T33, L33, k33, n33⟩, -, X33, ⟨Lc33, hQ33, l33, y33, z33⟩, st33⟩ := Jvm.LawKit.callS X21 hx (y := (⟨"com/example/platemark/platemark/records/Iso2709", "digits", "([BII)I"⟩ : MethodName)) hown (mvT hZ (hw _ (List.mem_of_getElem? (i := 14) rfl))) (mvT hZ (hw _ (List.mem_of_getElem? (i := 15) rfl))) (mvT hZ (hw _ (List.mem_of_getElem? (i := 16) rfl))) (mvT hZ (hw _ (List.mem_of_getElem? (i := 17) rfl))) (by decide) (backOf (W := 0) (rm5 l Z ta hw [] b1 fr ct cld h11 n0 Ard szd Hvd hf1.1 hf2.1 (by omega)) hZ (hw _ (List.mem_of_getElem? (i := 17) rfl)) (hw _ (List.mem_of_getElem? (i := 16) rfl)) (by decide) (by decide)) (g := (mkF m 243 #[.val (.int p0), .val (.int p1), .val (.int p2), .val (.int p3), .val (.int p4), .val (.int p5), .val (.ref b1), .val (.int fr), .val (.int ct), .val (.int (fr + ct)), .val (.int (1 : Int32)), .val (.int (-1 : Int32))] [(.int ct), (.int fr), (.ref b1)])) rfl (by rw [hml]; rfl) (argsL := [(.ref b1), (.int fr), (.int ct)]) (rest := []) (lenOf pd_0_3 rfl) rfl (by show 2 * 0 + _ ≤ _; exact Nat.le_of_eq rfl) (hb hby at_243) (fun _ _ => ⟨rfl, e21, (by decide : (((((((((((0 + 1) + 0) + 0) + 0) + 0) + 0) + 0) + 0) + 0) + 0) + 0) + 0 ≤ _), (by decide : (((((((((((0 + 5) + 0) + 0) + 0) + 0) + 0) + 0) + 0) + 0) + 0) + 0) + 0 ≤ _)⟩)
            dsimp only [Pt.U, Pt.locs, Pt.cells, Pt.slots] at X33 l33 y33 z33 st33 hQ33
            subst l33 y33 z33
            obtain ⟨rfl, N33q, e33⟩ := hQ33
            replace e33 := e33
            have N33 := Fr.app N21 N33q
            refine own_go (B := (T33.setTop (mkF m 246 #[.val (.int p0), .val (.int p1), .val (.int p2), .val (.int p3), .val (.int p4), .val (.int p5), .val (.ref b1), .val (.int fr), .val (.int ct), .val (.int (fr + ct)), .val (.int (1 : Int32)), .val (.int (-1 : Int32))] [(.int (own_Dig cld ct.toInt.toNat fr (0 : Int32)))]))) (fun t k => st33 _ k) ?_
            refine own_go (B := (T33.setTop (mkF m 248 #[.val (.int p0), .val (.int p1), .val (.int p2), .val (.int p3), .val (.int p4), .val (.int p5), .val (.ref b1), .val (.int fr), .val (.int ct), .val (.int (fr + ct)), .val (.int (1 : Int32)), .val (.int (-1 : Int32))] [(.int (-1 : Int32)), (.int (own_Dig cld ct.toInt.toNat fr (0 : Int32)))]))) (fun t k => XS.iload X33.here hx rfl (hb hby at_246) rfl k) ?_
            refine own_go (B := (T33.setTop (mkF m 251 #[.val (.int p0), .val (.int p1), .val (.int p2), .val (.int p3), .val (.int p4), .val (.int p5), .val (.ref b1), .val (.int fr), .val (.int ct), .val (.int (fr + ct)), .val (.int (1 : Int32)), .val (.int (-1 : Int32))] []))) (fun t k => XS.icmpNo X33.here hx rfl (hb hby at_248) rfl (teq (own_bad cld v0 v1 v2 v3 v4 fr ct ed0 ed1 ed2 ed3 ed4 hf1.1 hf1.2 hf2.1 hf2.2 (Or.inr (Or.inr (Or.inr (Or.inr (hc150))))))).2 k) ?_
            refine own_go (B := (T33.setTop (mkF m 252 #[.val (.int p0), .val (.int p1), .val (.int p2), .val (.int p3), .val (.int p4), .val (.int p5), .val (.ref b1), .val (.int fr), .val (.int ct), .val (.int (fr + ct)), .val (.int (1 : Int32)), .val (.int (-1 : Int32))] [(.int (1 : Int32))]))) (fun t k => XS.iconst X33.here hx rfl (hb hby at_251) k) ?_
            refine own_go (B := (T33.setTop (mkF m 256 #[.val (.int p0), .val (.int p1), .val (.int p2), .val (.int p3), .val (.int p4), .val (.int p5), .val (.ref b1), .val (.int fr), .val (.int ct), .val (.int (fr + ct)), .val (.int (1 : Int32)), .val (.int (-1 : Int32))] [(.int (1 : Int32))]))) (fun t k => XS.goto X33.here hx rfl (pc0 := 252) (pc' := 256) rfl (hb hby at_252) (by decide) (by decide) k) ?_
            obtain ⟨fs, hr, hrun, hended, hW, hsame⟩ := X33.leave (v := some (.int (1 : Int32))) (fun h => by rw [Bd.returns] at h; cases h)
            exact ⟨_, _, retN X33 hx (t := .boolean) Bd.returns (by simp) (hb hby at_256) hr, hrun, hended, _, _, rfl, ⟨rfl, N33⟩, ⟨_, rfl⟩, hW, hsame.mono (by decide) (by decide)⟩
        · refine own_go (B := (T19.setTop (mkF m 153 #[.val (.int p0), .val (.int p1), .val (.int p2), .val (.int p3), .val (.int p4), .val (.int p5), .val (.ref b1), .val (.int fr), .val (.int ct), .val (.int (fr + ct)), .unset, .unset] []))) (fun t k => XS.ifYes X19.here hx rfl (pc0 := 135) (pc' := 153) rfl (hb hby at_135) rfl ((if0 _ _).trans (feq hc135).2) (by decide) (by decide) k) ?_
          refine own_go (B := (T19.setTop (mkF m 154 #[.val (.int p0), .val (.int p1), .val (.int p2), .val (.int p3), .val (.int p4), .val (.int p5), .val (.ref b1), .val (.int fr), .val (.int ct), .val (.int (fr + ct)), .unset, .unset] [(.int (1 : Int32))]))) (fun t k => XS.iconst X19.here hx rfl (hb hby at_153) k) ?_
          refine own_go (B := (T19.setTop (mkF m 158 #[.val (.int p0), .val (.int p1), .val (.int p2), .val (.int p3), .val (.int p4), .val (.int p5), .val (.ref b1), .val (.int fr), .val (.int ct), .val (.int (fr + ct)), .unset, .unset] [(.int (1 : Int32))]))) (fun t k => XS.goto X19.here hx rfl (pc0 := 154) (pc' := 158) rfl (hb hby at_154) (by decide) (by decide) k) ?_
          refine own_go (B := (T19.setTop (mkF m 160 #[.val (.int p0), .val (.int p1), .val (.int p2), .val (.int p3), .val (.int p4), .val (.int p5), .val (.ref b1), .val (.int fr), .val (.int ct), .val (.int (fr + ct)), .val (.int (1 : Int32)), .unset] []))) (fun t k => XS.istore X19.here hx rfl (hb hby at_158) rfl (l' := #[.val (.int p0), .val (.int p1), .val (.int p2), .val (.int p3), .val (.int p4), .val (.int p5), .val (.ref b1), .val (.int fr), .val (.int ct), .val (.int (fr + ct)), .val (.int (1 : Int32)), .unset]) rfl k) ?_
          refine own_go (B := (T19.setTop (mkF m 162 #[.val (.int p0), .val (.int p1), .val (.int p2), .val (.int p3), .val (.int p4), .val (.int p5), .val (.ref b1), .val (.int fr), .val (.int ct), .val (.int (fr + ct)), .val (.int (1 : Int32)), .unset] [(.int (1 : Int32))]))) (fun t k => XS.iload X19.here hx rfl (hb hby at_160) rfl k) ?_
          refine own_go (B := (T19.setTop (mkF m 165 #[.val (.int p0), .val (.int p1), .val (.int p2), .val (.int p3), .val (.int p4), .val (.int p5), .val (.ref b1), .val (.int fr), .val (.int ct), .val (.int (fr + ct)), .val (.int (1 : Int32)), .unset] []))) (fun t k => XS.ifNo X19.here hx rfl (hb hby at_162) rfl ((if0 _ _).trans (feq (by decide)).1) k) ?_
          refine own_go (B := (T19.setTop (mkF m 166 #[.val (.int p0), .val (.int p1), .val (.int p2), .val (.int p3), .val (.int p4), .val (.int p5), .val (.ref b1), .val (.int fr), .val (.int ct), .val (.int (fr + ct)), .val (.int (1 : Int32)), .unset] [(.int (-1 : Int32))]))) (fun t k => XS.iconst X19.here hx rfl (hb hby at_165) k) ?_
          refine own_go (B := (T19.setTop (mkF m 168 #[.val (.int p0), .val (.int p1), .val (.int p2), .val (.int p3), .val (.int p4), .val (.int p5), .val (.ref b1), .val (.int fr), .val (.int ct), .val (.int (fr + ct)), .val (.int (1 : Int32)), .val (.int (-1 : Int32))] []))) (fun t k => XS.istore X19.here hx rfl (hb hby at_166) rfl (l' := #[.val (.int p0), .val (.int p1), .val (.int p2), .val (.int p3), .val (.int p4), .val (.int p5), .val (.ref b1), .val (.int fr), .val (.int ct), .val (.int (fr + ct)), .val (.int (1 : Int32)), .val (.int (-1 : Int32))]) rfl k) ?_
          refine own_go (B := (T19.setTop (mkF m 237 #[.val (.int p0), .val (.int p1), .val (.int p2), .val (.int p3), .val (.int p4), .val (.int p5), .val (.ref b1), .val (.int fr), .val (.int ct), .val (.int (fr + ct)), .val (.int (1 : Int32)), .val (.int (-1 : Int32))] []))) (fun t k => XS.goto X19.here hx rfl (pc0 := 168) (pc' := 237) rfl (hb hby at_168) (by decide) (by decide) k) ?_
          refine own_go (B := (T19.setTop (mkF m 239 #[.val (.int p0), .val (.int p1), .val (.int p2), .val (.int p3), .val (.int p4), .val (.int p5), .val (.ref b1), .val (.int fr), .val (.int ct), .val (.int (fr + ct)), .val (.int (1 : Int32)), .val (.int (-1 : Int32))] [(.ref b1)]))) (fun t k => XS.aload X19.here hx rfl (hb hby at_237) rfl rfl k) ?_
          refine own_go (B := (T19.setTop (mkF m 241 #[.val (.int p0), .val (.int p1), .val (.int p2), .val (.int p3), .val (.int p4), .val (.int p5), .val (.ref b1), .val (.int fr), .val (.int ct), .val (.int (fr + ct)), .val (.int (1 : Int32)), .val (.int (-1 : Int32))] [(.int fr), (.ref b1)]))) (fun t k => XS.iload X19.here hx rfl (hb hby at_239) rfl k) ?_
          refine own_go (B := (T19.setTop (mkF m 243 #[.val (.int p0), .val (.int p1), .val (.int p2), .val (.int p3), .val (.int p4), .val (.int p5), .val (.ref b1), .val (.int fr), .val (.int ct), .val (.int (fr + ct)), .val (.int (1 : Int32)), .val (.int (-1 : Int32))] [(.int ct), (.int fr), (.ref b1)]))) (fun t k => XS.iload X19.here hx rfl (hb hby at_241) rfl k) ?_
          obtain ⟨cld, Ard, qd, Sd, Nd, Hd, Gd⟩ := id V_b1_11
          have szd : cld.slots.size = 5 := Sd
          have Hvd := own_Hv szd Hd
          have ed0 : atv cld (0 : Int32) = v0 := atv_of (Has.at Hd (inb_of Sd ⟨by decide, by decide⟩) rfl)
          have ed1 : atv cld (1 : Int32) = v1 := atv_of (Has.at Hd (inb_of Sd ⟨by decide, by decide⟩) rfl)
          have ed2 : atv cld (2 : Int32) = v2 := atv_of (Has.at Hd (inb_of Sd ⟨by decide, by decide⟩) rfl)
          have ed3 : atv cld (3 : Int32) = v3 := atv_of (Has.at Hd (inb_of Sd ⟨by decide, by decide⟩) rfl)
          have ed4 : atv cld (4 : Int32) = v4 := atv_of (Has.at Hd (inb_of Sd ⟨by decide, by decide⟩) rfl)
          obtain ⟨_, _, ⟨T34, L34, k34, n34⟩, -, X34, ⟨Lc34, hQ34, l34, y34, z34⟩, st34⟩ := Jvm.LawKit.callS X19 hx (y := (⟨"com/example/platemark/platemark/records/Iso2709", "digits", "([BII)I"⟩ : MethodName)) hown (mvT hZ (hw _ (List.mem_of_getElem? (i := 14) rfl))) (mvT hZ (hw _ (List.mem_of_getElem? (i := 15) rfl))) (mvT hZ (hw _ (List.mem_of_getElem? (i := 16) rfl))) (mvT hZ (hw _ (List.mem_of_getElem? (i := 17) rfl))) (by decide) (backOf (W := 0) (rm5 l Z ta hw [] b1 fr ct cld h11 n0 Ard szd Hvd hf1.1 hf2.1 (by omega)) hZ (hw _ (List.mem_of_getElem? (i := 17) rfl)) (hw _ (List.mem_of_getElem? (i := 16) rfl)) (by decide) (by decide)) (g := (mkF m 243 #[.val (.int p0), .val (.int p1), .val (.int p2), .val (.int p3), .val (.int p4), .val (.int p5), .val (.ref b1), .val (.int fr), .val (.int ct), .val (.int (fr + ct)), .val (.int (1 : Int32)), .val (.int (-1 : Int32))] [(.int ct), (.int fr), (.ref b1)])) rfl (by rw [hml]; rfl) (argsL := [(.ref b1), (.int fr), (.int ct)]) (rest := []) (lenOf pd_0_3 rfl) rfl (by show 2 * 0 + _ ≤ _; exact Nat.le_of_eq rfl) (hb hby at_243) (fun _ _ => ⟨rfl, e19, (by decide : ((((((((((0 + 1) + 0) + 0) + 0) + 0) + 0) + 0) + 0) + 0) + 0) + 0 ≤ _), (by decide : ((((((((((0 + 5) + 0) + 0) + 0) + 0) + 0) + 0) + 0) + 0) + 0) + 0 ≤ _)⟩)
          dsimp only [Pt.U, Pt.locs, Pt.cells, Pt.slots] at X34 l34 y34 z34 st34 hQ34
          subst l34 y34 z34
          obtain ⟨rfl, N34q, e34⟩ := hQ34
          replace e34 := e34
          have N34 := Fr.app N19 N34q
          refine own_go (B := (T34.setTop (mkF m 246 #[.val (.int p0), .val (.int p1), .val (.int p2), .val (.int p3), .val (.int p4), .val (.int p5), .val (.ref b1), .val (.int fr), .val (.int ct), .val (.int (fr + ct)), .val (.int (1 : Int32)), .val (.int (-1 : Int32))] [(.int (own_Dig cld ct.toInt.toNat fr (0 : Int32)))]))) (fun t k => st34 _ k) ?_
          refine own_go (B := (T34.setTop (mkF m 248 #[.val (.int p0), .val (.int p1), .val (.int p2), .val (.int p3), .val (.int p4), .val (.int p5), .val (.ref b1), .val (.int fr), .val (.int ct), .val (.int (fr + ct)), .val (.int (1 : Int32)), .val (.int (-1 : Int32))] [(.int (-1 : Int32)), (.int (own_Dig cld ct.toInt.toNat fr (0 : Int32)))]))) (fun t k => XS.iload X34.here hx rfl (hb hby at_246) rfl k) ?_
          refine own_go (B := (T34.setTop (mkF m 251 #[.val (.int p0), .val (.int p1), .val (.int p2), .val (.int p3), .val (.int p4), .val (.int p5), .val (.ref b1), .val (.int fr), .val (.int ct), .val (.int (fr + ct)), .val (.int (1 : Int32)), .val (.int (-1 : Int32))] []))) (fun t k => XS.icmpNo X34.here hx rfl (hb hby at_248) rfl (teq (own_bad cld v0 v1 v2 v3 v4 fr ct ed0 ed1 ed2 ed3 ed4 hf1.1 hf1.2 hf2.1 hf2.2 (Or.inr (Or.inr (Or.inr (Or.inl hc135)))))).2 k) ?_
          refine own_go (B := (T34.setTop (mkF m 252 #[.val (.int p0), .val (.int p1), .val (.int p2), .val (.int p3), .val (.int p4), .val (.int p5), .val (.ref b1), .val (.int fr), .val (.int ct), .val (.int (fr + ct)), .val (.int (1 : Int32)), .val (.int (-1 : Int32))] [(.int (1 : Int32))]))) (fun t k => XS.iconst X34.here hx rfl (hb hby at_251) k) ?_
          refine own_go (B := (T34.setTop (mkF m 256 #[.val (.int p0), .val (.int p1), .val (.int p2), .val (.int p3), .val (.int p4), .val (.int p5), .val (.ref b1), .val (.int fr), .val (.int ct), .val (.int (fr + ct)), .val (.int (1 : Int32)), .val (.int (-1 : Int32))] [(.int (1 : Int32))]))) (fun t k => XS.goto X34.here hx rfl (pc0 := 252) (pc' := 256) rfl (hb hby at_252) (by decide) (by decide) k) ?_
          obtain ⟨fs, hr, hrun, hended, hW, hsame⟩ := X34.leave (v := some (.int (1 : Int32))) (fun h => by rw [Bd.returns] at h; cases h)
          exact ⟨_, _, retN X34 hx (t := .boolean) Bd.returns (by simp) (hb hby at_256) hr, hrun, hended, _, _, rfl, ⟨rfl, N34⟩, ⟨_, rfl⟩, hW, hsame.mono (by decide) (by decide)⟩
      · refine own_go (B := (T17.setTop (mkF m 153 #[.val (.int p0), .val (.int p1), .val (.int p2), .val (.int p3), .val (.int p4), .val (.int p5), .val (.ref b1), .val (.int fr), .val (.int ct), .val (.int (fr + ct)), .unset, .unset] []))) (fun t k => XS.ifYes X17.here hx rfl (pc0 := 120) (pc' := 153) rfl (hb hby at_120) rfl ((if0 _ _).trans (feq hc120).2) (by decide) (by decide) k) ?_
        refine own_go (B := (T17.setTop (mkF m 154 #[.val (.int p0), .val (.int p1), .val (.int p2), .val (.int p3), .val (.int p4), .val (.int p5), .val (.ref b1), .val (.int fr), .val (.int ct), .val (.int (fr + ct)), .unset, .unset] [(.int (1 : Int32))]))) (fun t k => XS.iconst X17.here hx rfl (hb hby at_153) k) ?_
        refine own_go (B := (T17.setTop (mkF m 158 #[.val (.int p0), .val (.int p1), .val (.int p2), .val (.int p3), .val (.int p4), .val (.int p5), .val (.ref b1), .val (.int fr), .val (.int ct), .val (.int (fr + ct)), .unset, .unset] [(.int (1 : Int32))]))) (fun t k => XS.goto X17.here hx rfl (pc0 := 154) (pc' := 158) rfl (hb hby at_154) (by decide) (by decide) k) ?_
        refine own_go (B := (T17.setTop (mkF m 160 #[.val (.int p0), .val (.int p1), .val (.int p2), .val (.int p3), .val (.int p4), .val (.int p5), .val (.ref b1), .val (.int fr), .val (.int ct), .val (.int (fr + ct)), .val (.int (1 : Int32)), .unset] []))) (fun t k => XS.istore X17.here hx rfl (hb hby at_158) rfl (l' := #[.val (.int p0), .val (.int p1), .val (.int p2), .val (.int p3), .val (.int p4), .val (.int p5), .val (.ref b1), .val (.int fr), .val (.int ct), .val (.int (fr + ct)), .val (.int (1 : Int32)), .unset]) rfl k) ?_
        refine own_go (B := (T17.setTop (mkF m 162 #[.val (.int p0), .val (.int p1), .val (.int p2), .val (.int p3), .val (.int p4), .val (.int p5), .val (.ref b1), .val (.int fr), .val (.int ct), .val (.int (fr + ct)), .val (.int (1 : Int32)), .unset] [(.int (1 : Int32))]))) (fun t k => XS.iload X17.here hx rfl (hb hby at_160) rfl k) ?_
        refine own_go (B := (T17.setTop (mkF m 165 #[.val (.int p0), .val (.int p1), .val (.int p2), .val (.int p3), .val (.int p4), .val (.int p5), .val (.ref b1), .val (.int fr), .val (.int ct), .val (.int (fr + ct)), .val (.int (1 : Int32)), .unset] []))) (fun t k => XS.ifNo X17.here hx rfl (hb hby at_162) rfl ((if0 _ _).trans (feq (by decide)).1) k) ?_
        refine own_go (B := (T17.setTop (mkF m 166 #[.val (.int p0), .val (.int p1), .val (.int p2), .val (.int p3), .val (.int p4), .val (.int p5), .val (.ref b1), .val (.int fr), .val (.int ct), .val (.int (fr + ct)), .val (.int (1 : Int32)), .unset] [(.int (-1 : Int32))]))) (fun t k => XS.iconst X17.here hx rfl (hb hby at_165) k) ?_
        refine own_go (B := (T17.setTop (mkF m 168 #[.val (.int p0), .val (.int p1), .val (.int p2), .val (.int p3), .val (.int p4), .val (.int p5), .val (.ref b1), .val (.int fr), .val (.int ct), .val (.int (fr + ct)), .val (.int (1 : Int32)), .val (.int (-1 : Int32))] []))) (fun t k => XS.istore X17.here hx rfl (hb hby at_166) rfl (l' := #[.val (.int p0), .val (.int p1), .val (.int p2), .val (.int p3), .val (.int p4), .val (.int p5), .val (.ref b1), .val (.int fr), .val (.int ct), .val (.int (fr + ct)), .val (.int (1 : Int32)), .val (.int (-1 : Int32))]) rfl k) ?_
        refine own_go (B := (T17.setTop (mkF m 237 #[.val (.int p0), .val (.int p1), .val (.int p2), .val (.int p3), .val (.int p4), .val (.int p5), .val (.ref b1), .val (.int fr), .val (.int ct), .val (.int (fr + ct)), .val (.int (1 : Int32)), .val (.int (-1 : Int32))] []))) (fun t k => XS.goto X17.here hx rfl (pc0 := 168) (pc' := 237) rfl (hb hby at_168) (by decide) (by decide) k) ?_
        refine own_go (B := (T17.setTop (mkF m 239 #[.val (.int p0), .val (.int p1), .val (.int p2), .val (.int p3), .val (.int p4), .val (.int p5), .val (.ref b1), .val (.int fr), .val (.int ct), .val (.int (fr + ct)), .val (.int (1 : Int32)), .val (.int (-1 : Int32))] [(.ref b1)]))) (fun t k => XS.aload X17.here hx rfl (hb hby at_237) rfl rfl k) ?_
        refine own_go (B := (T17.setTop (mkF m 241 #[.val (.int p0), .val (.int p1), .val (.int p2), .val (.int p3), .val (.int p4), .val (.int p5), .val (.ref b1), .val (.int fr), .val (.int ct), .val (.int (fr + ct)), .val (.int (1 : Int32)), .val (.int (-1 : Int32))] [(.int fr), (.ref b1)]))) (fun t k => XS.iload X17.here hx rfl (hb hby at_239) rfl k) ?_
        refine own_go (B := (T17.setTop (mkF m 243 #[.val (.int p0), .val (.int p1), .val (.int p2), .val (.int p3), .val (.int p4), .val (.int p5), .val (.ref b1), .val (.int fr), .val (.int ct), .val (.int (fr + ct)), .val (.int (1 : Int32)), .val (.int (-1 : Int32))] [(.int ct), (.int fr), (.ref b1)]))) (fun t k => XS.iload X17.here hx rfl (hb hby at_241) rfl k) ?_
        obtain ⟨cld, Ard, qd, Sd, Nd, Hd, Gd⟩ := id V_b1_11
        have szd : cld.slots.size = 5 := Sd
        have Hvd := own_Hv szd Hd
        have ed0 : atv cld (0 : Int32) = v0 := atv_of (Has.at Hd (inb_of Sd ⟨by decide, by decide⟩) rfl)
        have ed1 : atv cld (1 : Int32) = v1 := atv_of (Has.at Hd (inb_of Sd ⟨by decide, by decide⟩) rfl)
        have ed2 : atv cld (2 : Int32) = v2 := atv_of (Has.at Hd (inb_of Sd ⟨by decide, by decide⟩) rfl)
        have ed3 : atv cld (3 : Int32) = v3 := atv_of (Has.at Hd (inb_of Sd ⟨by decide, by decide⟩) rfl)
        have ed4 : atv cld (4 : Int32) = v4 := atv_of (Has.at Hd (inb_of Sd ⟨by decide, by decide⟩) rfl)
        obtain ⟨_, _, ⟨T35, L35, k35, n35⟩, -, X35, ⟨Lc35, hQ35, l35, y35, z35⟩, st35⟩ := Jvm.LawKit.callS X17 hx (y := (⟨"com/example/platemark/platemark/records/Iso2709", "digits", "([BII)I"⟩ : MethodName)) hown (mvT hZ (hw _ (List.mem_of_getElem? (i := 14) rfl))) (mvT hZ (hw _ (List.mem_of_getElem? (i := 15) rfl))) (mvT hZ (hw _ (List.mem_of_getElem? (i := 16) rfl))) (mvT hZ (hw _ (List.mem_of_getElem? (i := 17) rfl))) (by decide) (backOf (W := 0) (rm5 l Z ta hw [] b1 fr ct cld h11 n0 Ard szd Hvd hf1.1 hf2.1 (by omega)) hZ (hw _ (List.mem_of_getElem? (i := 17) rfl)) (hw _ (List.mem_of_getElem? (i := 16) rfl)) (by decide) (by decide)) (g := (mkF m 243 #[.val (.int p0), .val (.int p1), .val (.int p2), .val (.int p3), .val (.int p4), .val (.int p5), .val (.ref b1), .val (.int fr), .val (.int ct), .val (.int (fr + ct)), .val (.int (1 : Int32)), .val (.int (-1 : Int32))] [(.int ct), (.int fr), (.ref b1)])) rfl (by rw [hml]; rfl) (argsL := [(.ref b1), (.int fr), (.int ct)]) (rest := []) (lenOf pd_0_3 rfl) rfl (by show 2 * 0 + _ ≤ _; exact Nat.le_of_eq rfl) (hb hby at_243) (fun _ _ => ⟨rfl, e17, (by decide : (((((((((0 + 1) + 0) + 0) + 0) + 0) + 0) + 0) + 0) + 0) + 0 ≤ _), (by decide : (((((((((0 + 5) + 0) + 0) + 0) + 0) + 0) + 0) + 0) + 0) + 0 ≤ _)⟩)
        dsimp only [Pt.U, Pt.locs, Pt.cells, Pt.slots] at X35 l35 y35 z35 st35 hQ35
        subst l35 y35 z35
        obtain ⟨rfl, N35q, e35⟩ := hQ35
        replace e35 := e35
        have N35 := Fr.app N17 N35q
        refine own_go (B := (T35.setTop (mkF m 246 #[.val (.int p0), .val (.int p1), .val (.int p2), .val (.int p3), .val (.int p4), .val (.int p5), .val (.ref b1), .val (.int fr), .val (.int ct), .val (.int (fr + ct)), .val (.int (1 : Int32)), .val (.int (-1 : Int32))] [(.int (own_Dig cld ct.toInt.toNat fr (0 : Int32)))]))) (fun t k => st35 _ k) ?_
        refine own_go (B := (T35.setTop (mkF m 248 #[.val (.int p0), .val (.int p1), .val (.int p2), .val (.int p3), .val (.int p4), .val (.int p5), .val (.ref b1), .val (.int fr), .val (.int ct), .val (.int (fr + ct)), .val (.int (1 : Int32)), .val (.int (-1 : Int32))] [(.int (-1 : Int32)), (.int (own_Dig cld ct.toInt.toNat fr (0 : Int32)))]))) (fun t k => XS.iload X35.here hx rfl (hb hby at_246) rfl k) ?_
        refine own_go (B := (T35.setTop (mkF m 251 #[.val (.int p0), .val (.int p1), .val (.int p2), .val (.int p3), .val (.int p4), .val (.int p5), .val (.ref b1), .val (.int fr), .val (.int ct), .val (.int (fr + ct)), .val (.int (1 : Int32)), .val (.int (-1 : Int32))] []))) (fun t k => XS.icmpNo X35.here hx rfl (hb hby at_248) rfl (teq (own_bad cld v0 v1 v2 v3 v4 fr ct ed0 ed1 ed2 ed3 ed4 hf1.1 hf1.2 hf2.1 hf2.2 (Or.inr (Or.inr (Or.inl hc120))))).2 k) ?_
        refine own_go (B := (T35.setTop (mkF m 252 #[.val (.int p0), .val (.int p1), .val (.int p2), .val (.int p3), .val (.int p4), .val (.int p5), .val (.ref b1), .val (.int fr), .val (.int ct), .val (.int (fr + ct)), .val (.int (1 : Int32)), .val (.int (-1 : Int32))] [(.int (1 : Int32))]))) (fun t k => XS.iconst X35.here hx rfl (hb hby at_251) k) ?_
        refine own_go (B := (T35.setTop (mkF m 256 #[.val (.int p0), .val (.int p1), .val (.int p2), .val (.int p3), .val (.int p4), .val (.int p5), .val (.ref b1), .val (.int fr), .val (.int ct), .val (.int (fr + ct)), .val (.int (1 : Int32)), .val (.int (-1 : Int32))] [(.int (1 : Int32))]))) (fun t k => XS.goto X35.here hx rfl (pc0 := 252) (pc' := 256) rfl (hb hby at_252) (by decide) (by decide) k) ?_
        obtain ⟨fs, hr, hrun, hended, hW, hsame⟩ := X35.leave (v := some (.int (1 : Int32))) (fun h => by rw [Bd.returns] at h; cases h)
        exact ⟨_, _, retN X35 hx (t := .boolean) Bd.returns (by simp) (hb hby at_256) hr, hrun, hended, _, _, rfl, ⟨rfl, N35⟩, ⟨_, rfl⟩, hW, hsame.mono (by decide) (by decide)⟩
    · refine own_go (B := (T15.setTop (mkF m 153 #[.val (.int p0), .val (.int p1), .val (.int p2), .val (.int p3), .val (.int p4), .val (.int p5), .val (.ref b1), .val (.int fr), .val (.int ct), .val (.int (fr + ct)), .unset, .unset] []))) (fun t k => XS.ifYes X15.here hx rfl (pc0 := 105) (pc' := 153) rfl (hb hby at_105) rfl ((if0 _ _).trans (feq hc105).2) (by decide) (by decide) k) ?_
      refine own_go (B := (T15.setTop (mkF m 154 #[.val (.int p0), .val (.int p1), .val (.int p2), .val (.int p3), .val (.int p4), .val (.int p5), .val (.ref b1), .val (.int fr), .val (.int ct), .val (.int (fr + ct)), .unset, .unset] [(.int (1 : Int32))]))) (fun t k => XS.iconst X15.here hx rfl (hb hby at_153) k) ?_
      refine own_go (B := (T15.setTop (mkF m 158 #[.val (.int p0), .val (.int p1), .val (.int p2), .val (.int p3), .val (.int p4), .val (.int p5), .val (.ref b1), .val (.int fr), .val (.int ct), .val (.int (fr + ct)), .unset, .unset] [(.int (1 : Int32))]))) (fun t k => XS.goto X15.here hx rfl (pc0 := 154) (pc' := 158) rfl (hb hby at_154) (by decide) (by decide) k) ?_
      refine own_go (B := (T15.setTop (mkF m 160 #[.val (.int p0), .val (.int p1), .val (.int p2), .val (.int p3), .val (.int p4), .val (.int p5), .val (.ref b1), .val (.int fr), .val (.int ct), .val (.int (fr + ct)), .val (.int (1 : Int32)), .unset] []))) (fun t k => XS.istore X15.here hx rfl (hb hby at_158) rfl (l' := #[.val (.int p0), .val (.int p1), .val (.int p2), .val (.int p3), .val (.int p4), .val (.int p5), .val (.ref b1), .val (.int fr), .val (.int ct), .val (.int (fr + ct)), .val (.int (1 : Int32)), .unset]) rfl k) ?_
      refine own_go (B := (T15.setTop (mkF m 162 #[.val (.int p0), .val (.int p1), .val (.int p2), .val (.int p3), .val (.int p4), .val (.int p5), .val (.ref b1), .val (.int fr), .val (.int ct), .val (.int (fr + ct)), .val (.int (1 : Int32)), .unset] [(.int (1 : Int32))]))) (fun t k => XS.iload X15.here hx rfl (hb hby at_160) rfl k) ?_
      refine own_go (B := (T15.setTop (mkF m 165 #[.val (.int p0), .val (.int p1), .val (.int p2), .val (.int p3), .val (.int p4), .val (.int p5), .val (.ref b1), .val (.int fr), .val (.int ct), .val (.int (fr + ct)), .val (.int (1 : Int32)), .unset] []))) (fun t k => XS.ifNo X15.here hx rfl (hb hby at_162) rfl ((if0 _ _).trans (feq (by decide)).1) k) ?_
      refine own_go (B := (T15.setTop (mkF m 166 #[.val (.int p0), .val (.int p1), .val (.int p2), .val (.int p3), .val (.int p4), .val (.int p5), .val (.ref b1), .val (.int fr), .val (.int ct), .val (.int (fr + ct)), .val (.int (1 : Int32)), .unset] [(.int (-1 : Int32))]))) (fun t k => XS.iconst X15.here hx rfl (hb hby at_165) k) ?_
      refine own_go (B := (T15.setTop (mkF m 168 #[.val (.int p0), .val (.int p1), .val (.int p2), .val (.int p3), .val (.int p4), .val (.int p5), .val (.ref b1), .val (.int fr), .val (.int ct), .val (.int (fr + ct)), .val (.int (1 : Int32)), .val (.int (-1 : Int32))] []))) (fun t k => XS.istore X15.here hx rfl (hb hby at_166) rfl (l' := #[.val (.int p0), .val (.int p1), .val (.int p2), .val (.int p3), .val (.int p4), .val (.int p5), .val (.ref b1), .val (.int fr), .val (.int ct), .val (.int (fr + ct)), .val (.int (1 : Int32)), .val (.int (-1 : Int32))]) rfl k) ?_
      refine own_go (B := (T15.setTop (mkF m 237 #[.val (.int p0), .val (.int p1), .val (.int p2), .val (.int p3), .val (.int p4), .val (.int p5), .val (.ref b1), .val (.int fr), .val (.int ct), .val (.int (fr + ct)), .val (.int (1 : Int32)), .val (.int (-1 : Int32))] []))) (fun t k => XS.goto X15.here hx rfl (pc0 := 168) (pc' := 237) rfl (hb hby at_168) (by decide) (by decide) k) ?_
      refine own_go (B := (T15.setTop (mkF m 239 #[.val (.int p0), .val (.int p1), .val (.int p2), .val (.int p3), .val (.int p4), .val (.int p5), .val (.ref b1), .val (.int fr), .val (.int ct), .val (.int (fr + ct)), .val (.int (1 : Int32)), .val (.int (-1 : Int32))] [(.ref b1)]))) (fun t k => XS.aload X15.here hx rfl (hb hby at_237) rfl rfl k) ?_
      refine own_go (B := (T15.setTop (mkF m 241 #[.val (.int p0), .val (.int p1), .val (.int p2), .val (.int p3), .val (.int p4), .val (.int p5), .val (.ref b1), .val (.int fr), .val (.int ct), .val (.int (fr + ct)), .val (.int (1 : Int32)), .val (.int (-1 : Int32))] [(.int fr), (.ref b1)]))) (fun t k => XS.iload X15.here hx rfl (hb hby at_239) rfl k) ?_
      refine own_go (B := (T15.setTop (mkF m 243 #[.val (.int p0), .val (.int p1), .val (.int p2), .val (.int p3), .val (.int p4), .val (.int p5), .val (.ref b1), .val (.int fr), .val (.int ct), .val (.int (fr + ct)), .val (.int (1 : Int32)), .val (.int (-1 : Int32))] [(.int ct), (.int fr), (.ref b1)]))) (fun t k => XS.iload X15.here hx rfl (hb hby at_241) rfl k) ?_
      obtain ⟨cld, Ard, qd, Sd, Nd, Hd, Gd⟩ := id V_b1_11
      have szd : cld.slots.size = 5 := Sd
      have Hvd := own_Hv szd Hd
      have ed0 : atv cld (0 : Int32) = v0 := atv_of (Has.at Hd (inb_of Sd ⟨by decide, by decide⟩) rfl)
      have ed1 : atv cld (1 : Int32) = v1 := atv_of (Has.at Hd (inb_of Sd ⟨by decide, by decide⟩) rfl)
      have ed2 : atv cld (2 : Int32) = v2 := atv_of (Has.at Hd (inb_of Sd ⟨by decide, by decide⟩) rfl)
      have ed3 : atv cld (3 : Int32) = v3 := atv_of (Has.at Hd (inb_of Sd ⟨by decide, by decide⟩) rfl)
      have ed4 : atv cld (4 : Int32) = v4 := atv_of (Has.at Hd (inb_of Sd ⟨by decide, by decide⟩) rfl)
      obtain ⟨_, _, ⟨T36, L36, k36, n36⟩, -, X36, ⟨Lc36, hQ36, l36, y36, z36⟩, st36⟩ := Jvm.LawKit.callS X15 hx (y := (⟨"com/example/platemark/platemark/records/Iso2709", "digits", "([BII)I"⟩ : MethodName)) hown (mvT hZ (hw _ (List.mem_of_getElem? (i := 14) rfl))) (mvT hZ (hw _ (List.mem_of_getElem? (i := 15) rfl))) (mvT hZ (hw _ (List.mem_of_getElem? (i := 16) rfl))) (mvT hZ (hw _ (List.mem_of_getElem? (i := 17) rfl))) (by decide) (backOf (W := 0) (rm5 l Z ta hw [] b1 fr ct cld h11 n0 Ard szd Hvd hf1.1 hf2.1 (by omega)) hZ (hw _ (List.mem_of_getElem? (i := 17) rfl)) (hw _ (List.mem_of_getElem? (i := 16) rfl)) (by decide) (by decide)) (g := (mkF m 243 #[.val (.int p0), .val (.int p1), .val (.int p2), .val (.int p3), .val (.int p4), .val (.int p5), .val (.ref b1), .val (.int fr), .val (.int ct), .val (.int (fr + ct)), .val (.int (1 : Int32)), .val (.int (-1 : Int32))] [(.int ct), (.int fr), (.ref b1)])) rfl (by rw [hml]; rfl) (argsL := [(.ref b1), (.int fr), (.int ct)]) (rest := []) (lenOf pd_0_3 rfl) rfl (by show 2 * 0 + _ ≤ _; exact Nat.le_of_eq rfl) (hb hby at_243) (fun _ _ => ⟨rfl, e15, (by decide : ((((((((0 + 1) + 0) + 0) + 0) + 0) + 0) + 0) + 0) + 0 ≤ _), (by decide : ((((((((0 + 5) + 0) + 0) + 0) + 0) + 0) + 0) + 0) + 0 ≤ _)⟩)
      dsimp only [Pt.U, Pt.locs, Pt.cells, Pt.slots] at X36 l36 y36 z36 st36 hQ36
      subst l36 y36 z36
      obtain ⟨rfl, N36q, e36⟩ := hQ36
      replace e36 := e36
      have N36 := Fr.app N15 N36q
      refine own_go (B := (T36.setTop (mkF m 246 #[.val (.int p0), .val (.int p1), .val (.int p2), .val (.int p3), .val (.int p4), .val (.int p5), .val (.ref b1), .val (.int fr), .val (.int ct), .val (.int (fr + ct)), .val (.int (1 : Int32)), .val (.int (-1 : Int32))] [(.int (own_Dig cld ct.toInt.toNat fr (0 : Int32)))]))) (fun t k => st36 _ k) ?_
      refine own_go (B := (T36.setTop (mkF m 248 #[.val (.int p0), .val (.int p1), .val (.int p2), .val (.int p3), .val (.int p4), .val (.int p5), .val (.ref b1), .val (.int fr), .val (.int ct), .val (.int (fr + ct)), .val (.int (1 : Int32)), .val (.int (-1 : Int32))] [(.int (-1 : Int32)), (.int (own_Dig cld ct.toInt.toNat fr (0 : Int32)))]))) (fun t k => XS.iload X36.here hx rfl (hb hby at_246) rfl k) ?_
      refine own_go (B := (T36.setTop (mkF m 251 #[.val (.int p0), .val (.int p1), .val (.int p2), .val (.int p3), .val (.int p4), .val (.int p5), .val (.ref b1), .val (.int fr), .val (.int ct), .val (.int (fr + ct)), .val (.int (1 : Int32)), .val (.int (-1 : Int32))] []))) (fun t k => XS.icmpNo X36.here hx rfl (hb hby at_248) rfl (teq (own_bad cld v0 v1 v2 v3 v4 fr ct ed0 ed1 ed2 ed3 ed4 hf1.1 hf1.2 hf2.1 hf2.2 (Or.inr (Or.inl hc105)))).2 k) ?_
      refine own_go (B := (T36.setTop (mkF m 252 #[.val (.int p0), .val (.int p1), .val (.int p2), .val (.int p3), .val (.int p4), .val (.int p5), .val (.ref b1), .val (.int fr), .val (.int ct), .val (.int (fr + ct)), .val (.int (1 : Int32)), .val (.int (-1 : Int32))] [(.int (1 : Int32))]))) (fun t k => XS.iconst X36.here hx rfl (hb hby at_251) k) ?_
      refine own_go (B := (T36.setTop (mkF m 256 #[.val (.int p0), .val (.int p1), .val (.int p2), .val (.int p3), .val (.int p4), .val (.int p5), .val (.ref b1), .val (.int fr), .val (.int ct), .val (.int (fr + ct)), .val (.int (1 : Int32)), .val (.int (-1 : Int32))] [(.int (1 : Int32))]))) (fun t k => XS.goto X36.here hx rfl (pc0 := 252) (pc' := 256) rfl (hb hby at_252) (by decide) (by decide) k) ?_
      obtain ⟨fs, hr, hrun, hended, hW, hsame⟩ := X36.leave (v := some (.int (1 : Int32))) (fun h => by rw [Bd.returns] at h; cases h)
      exact ⟨_, _, retN X36 hx (t := .boolean) Bd.returns (by simp) (hb hby at_256) hr, hrun, hended, _, _, rfl, ⟨rfl, N36⟩, ⟨_, rfl⟩, hW, hsame.mono (by decide) (by decide)⟩
  · refine own_go (B := (T13.setTop (mkF m 153 #[.val (.int p0), .val (.int p1), .val (.int p2), .val (.int p3), .val (.int p4), .val (.int p5), .val (.ref b1), .val (.int fr), .val (.int ct), .val (.int (fr + ct)), .unset, .unset] []))) (fun t k => XS.ifYes X13.here hx rfl (pc0 := 90) (pc' := 153) rfl (hb hby at_90) rfl ((if0 _ _).trans (feq hc90).2) (by decide) (by decide) k) ?_
    refine own_go (B := (T13.setTop (mkF m 154 #[.val (.int p0), .val (.int p1), .val (.int p2), .val (.int p3), .val (.int p4), .val (.int p5), .val (.ref b1), .val (.int fr), .val (.int ct), .val (.int (fr + ct)), .unset, .unset] [(.int (1 : Int32))]))) (fun t k => XS.iconst X13.here hx rfl (hb hby at_153) k) ?_
    refine own_go (B := (T13.setTop (mkF m 158 #[.val (.int p0), .val (.int p1), .val (.int p2), .val (.int p3), .val (.int p4), .val (.int p5), .val (.ref b1), .val (.int fr), .val (.int ct), .val (.int (fr + ct)), .unset, .unset] [(.int (1 : Int32))]))) (fun t k => XS.goto X13.here hx rfl (pc0 := 154) (pc' := 158) rfl (hb hby at_154) (by decide) (by decide) k) ?_
    refine own_go (B := (T13.setTop (mkF m 160 #[.val (.int p0), .val (.int p1), .val (.int p2), .val (.int p3), .val (.int p4), .val (.int p5), .val (.ref b1), .val (.int fr), .val (.int ct), .val (.int (fr + ct)), .val (.int (1 : Int32)), .unset] []))) (fun t k => XS.istore X13.here hx rfl (hb hby at_158) rfl (l' := #[.val (.int p0), .val (.int p1), .val (.int p2), .val (.int p3), .val (.int p4), .val (.int p5), .val (.ref b1), .val (.int fr), .val (.int ct), .val (.int (fr + ct)), .val (.int (1 : Int32)), .unset]) rfl k) ?_
    refine own_go (B := (T13.setTop (mkF m 162 #[.val (.int p0), .val (.int p1), .val (.int p2), .val (.int p3), .val (.int p4), .val (.int p5), .val (.ref b1), .val (.int fr), .val (.int ct), .val (.int (fr + ct)), .val (.int (1 : Int32)), .unset] [(.int (1 : Int32))]))) (fun t k => XS.iload X13.here hx rfl (hb hby at_160) rfl k) ?_
    refine own_go (B := (T13.setTop (mkF m 165 #[.val (.int p0), .val (.int p1), .val (.int p2), .val (.int p3), .val (.int p4), .val (.int p5), .val (.ref b1), .val (.int fr), .val (.int ct), .val (.int (fr + ct)), .val (.int (1 : Int32)), .unset] []))) (fun t k => XS.ifNo X13.here hx rfl (hb hby at_162) rfl ((if0 _ _).trans (feq (by decide)).1) k) ?_
    refine own_go (B := (T13.setTop (mkF m 166 #[.val (.int p0), .val (.int p1), .val (.int p2), .val (.int p3), .val (.int p4), .val (.int p5), .val (.ref b1), .val (.int fr), .val (.int ct), .val (.int (fr + ct)), .val (.int (1 : Int32)), .unset] [(.int (-1 : Int32))]))) (fun t k => XS.iconst X13.here hx rfl (hb hby at_165) k) ?_
    refine own_go (B := (T13.setTop (mkF m 168 #[.val (.int p0), .val (.int p1), .val (.int p2), .val (.int p3), .val (.int p4), .val (.int p5), .val (.ref b1), .val (.int fr), .val (.int ct), .val (.int (fr + ct)), .val (.int (1 : Int32)), .val (.int (-1 : Int32))] []))) (fun t k => XS.istore X13.here hx rfl (hb hby at_166) rfl (l' := #[.val (.int p0), .val (.int p1), .val (.int p2), .val (.int p3), .val (.int p4), .val (.int p5), .val (.ref b1), .val (.int fr), .val (.int ct), .val (.int (fr + ct)), .val (.int (1 : Int32)), .val (.int (-1 : Int32))]) rfl k) ?_
    refine own_go (B := (T13.setTop (mkF m 237 #[.val (.int p0), .val (.int p1), .val (.int p2), .val (.int p3), .val (.int p4), .val (.int p5), .val (.ref b1), .val (.int fr), .val (.int ct), .val (.int (fr + ct)), .val (.int (1 : Int32)), .val (.int (-1 : Int32))] []))) (fun t k => XS.goto X13.here hx rfl (pc0 := 168) (pc' := 237) rfl (hb hby at_168) (by decide) (by decide) k) ?_
    refine own_go (B := (T13.setTop (mkF m 239 #[.val (.int p0), .val (.int p1), .val (.int p2), .val (.int p3), .val (.int p4), .val (.int p5), .val (.ref b1), .val (.int fr), .val (.int ct), .val (.int (fr + ct)), .val (.int (1 : Int32)), .val (.int (-1 : Int32))] [(.ref b1)]))) (fun t k => XS.aload X13.here hx rfl (hb hby at_237) rfl rfl k) ?_
    refine own_go (B := (T13.setTop (mkF m 241 #[.val (.int p0), .val (.int p1), .val (.int p2), .val (.int p3), .val (.int p4), .val (.int p5), .val (.ref b1), .val (.int fr), .val (.int ct), .val (.int (fr + ct)), .val (.int (1 : Int32)), .val (.int (-1 : Int32))] [(.int fr), (.ref b1)]))) (fun t k => XS.iload X13.here hx rfl (hb hby at_239) rfl k) ?_
    refine own_go (B := (T13.setTop (mkF m 243 #[.val (.int p0), .val (.int p1), .val (.int p2), .val (.int p3), .val (.int p4), .val (.int p5), .val (.ref b1), .val (.int fr), .val (.int ct), .val (.int (fr + ct)), .val (.int (1 : Int32)), .val (.int (-1 : Int32))] [(.int ct), (.int fr), (.ref b1)]))) (fun t k => XS.iload X13.here hx rfl (hb hby at_241) rfl k) ?_
    obtain ⟨cld, Ard, qd, Sd, Nd, Hd, Gd⟩ := id V_b1_11
    have szd : cld.slots.size = 5 := Sd
    have Hvd := own_Hv szd Hd
    have ed0 : atv cld (0 : Int32) = v0 := atv_of (Has.at Hd (inb_of Sd ⟨by decide, by decide⟩) rfl)
    have ed1 : atv cld (1 : Int32) = v1 := atv_of (Has.at Hd (inb_of Sd ⟨by decide, by decide⟩) rfl)
    have ed2 : atv cld (2 : Int32) = v2 := atv_of (Has.at Hd (inb_of Sd ⟨by decide, by decide⟩) rfl)
    have ed3 : atv cld (3 : Int32) = v3 := atv_of (Has.at Hd (inb_of Sd ⟨by decide, by decide⟩) rfl)
    have ed4 : atv cld (4 : Int32) = v4 := atv_of (Has.at Hd (inb_of Sd ⟨by decide, by decide⟩) rfl)
    obtain ⟨_, _, ⟨T37, L37, k37, n37⟩, -, X37, ⟨Lc37, hQ37, l37, y37, z37⟩, st37⟩ := Jvm.LawKit.callS X13 hx (y := (⟨"com/example/platemark/platemark/records/Iso2709", "digits", "([BII)I"⟩ : MethodName)) hown (mvT hZ (hw _ (List.mem_of_getElem? (i := 14) rfl))) (mvT hZ (hw _ (List.mem_of_getElem? (i := 15) rfl))) (mvT hZ (hw _ (List.mem_of_getElem? (i := 16) rfl))) (mvT hZ (hw _ (List.mem_of_getElem? (i := 17) rfl))) (by decide) (backOf (W := 0) (rm5 l Z ta hw [] b1 fr ct cld h11 n0 Ard szd Hvd hf1.1 hf2.1 (by omega)) hZ (hw _ (List.mem_of_getElem? (i := 17) rfl)) (hw _ (List.mem_of_getElem? (i := 16) rfl)) (by decide) (by decide)) (g := (mkF m 243 #[.val (.int p0), .val (.int p1), .val (.int p2), .val (.int p3), .val (.int p4), .val (.int p5), .val (.ref b1), .val (.int fr), .val (.int ct), .val (.int (fr + ct)), .val (.int (1 : Int32)), .val (.int (-1 : Int32))] [(.int ct), (.int fr), (.ref b1)])) rfl (by rw [hml]; rfl) (argsL := [(.ref b1), (.int fr), (.int ct)]) (rest := []) (lenOf pd_0_3 rfl) rfl (by show 2 * 0 + _ ≤ _; exact Nat.le_of_eq rfl) (hb hby at_243) (fun _ _ => ⟨rfl, e13, (by decide : (((((((0 + 1) + 0) + 0) + 0) + 0) + 0) + 0) + 0 ≤ _), (by decide : (((((((0 + 5) + 0) + 0) + 0) + 0) + 0) + 0) + 0 ≤ _)⟩)
    dsimp only [Pt.U, Pt.locs, Pt.cells, Pt.slots] at X37 l37 y37 z37 st37 hQ37
    subst l37 y37 z37
    obtain ⟨rfl, N37q, e37⟩ := hQ37
    replace e37 := e37
    have N37 := Fr.app N13 N37q
    refine own_go (B := (T37.setTop (mkF m 246 #[.val (.int p0), .val (.int p1), .val (.int p2), .val (.int p3), .val (.int p4), .val (.int p5), .val (.ref b1), .val (.int fr), .val (.int ct), .val (.int (fr + ct)), .val (.int (1 : Int32)), .val (.int (-1 : Int32))] [(.int (own_Dig cld ct.toInt.toNat fr (0 : Int32)))]))) (fun t k => st37 _ k) ?_
    refine own_go (B := (T37.setTop (mkF m 248 #[.val (.int p0), .val (.int p1), .val (.int p2), .val (.int p3), .val (.int p4), .val (.int p5), .val (.ref b1), .val (.int fr), .val (.int ct), .val (.int (fr + ct)), .val (.int (1 : Int32)), .val (.int (-1 : Int32))] [(.int (-1 : Int32)), (.int (own_Dig cld ct.toInt.toNat fr (0 : Int32)))]))) (fun t k => XS.iload X37.here hx rfl (hb hby at_246) rfl k) ?_
    refine own_go (B := (T37.setTop (mkF m 251 #[.val (.int p0), .val (.int p1), .val (.int p2), .val (.int p3), .val (.int p4), .val (.int p5), .val (.ref b1), .val (.int fr), .val (.int ct), .val (.int (fr + ct)), .val (.int (1 : Int32)), .val (.int (-1 : Int32))] []))) (fun t k => XS.icmpNo X37.here hx rfl (hb hby at_248) rfl (teq (own_bad cld v0 v1 v2 v3 v4 fr ct ed0 ed1 ed2 ed3 ed4 hf1.1 hf1.2 hf2.1 hf2.2 (Or.inl hc90))).2 k) ?_
    refine own_go (B := (T37.setTop (mkF m 252 #[.val (.int p0), .val (.int p1), .val (.int p2), .val (.int p3), .val (.int p4), .val (.int p5), .val (.ref b1), .val (.int fr), .val (.int ct), .val (.int (fr + ct)), .val (.int (1 : Int32)), .val (.int (-1 : Int32))] [(.int (1 : Int32))]))) (fun t k => XS.iconst X37.here hx rfl (hb hby at_251) k) ?_
    refine own_go (B := (T37.setTop (mkF m 256 #[.val (.int p0), .val (.int p1), .val (.int p2), .val (.int p3), .val (.int p4), .val (.int p5), .val (.ref b1), .val (.int fr), .val (.int ct), .val (.int (fr + ct)), .val (.int (1 : Int32)), .val (.int (-1 : Int32))] [(.int (1 : Int32))]))) (fun t k => XS.goto X37.here hx rfl (pc0 := 252) (pc' := 256) rfl (hb hby at_252) (by decide) (by decide) k) ?_
    obtain ⟨fs, hr, hrun, hended, hW, hsame⟩ := X37.leave (v := some (.int (1 : Int32))) (fun h => by rw [Bd.returns] at h; cases h)
    exact ⟨_, _, retN X37 hx (t := .boolean) Bd.returns (by simp) (hb hby at_256) hr, hrun, hended, _, _, rfl, ⟨rfl, N37⟩, ⟨_, rfl⟩, hW, hsame.mono (by decide) (by decide)⟩
set_option maxRecDepth 65536 in
set_option maxHeartbeats 40000000 in
theorem comes_1 {Post : Tables → Env → Array Value → State → Outcome → State → Prop} (hpost : ∀ tb e args s v u, (limb_1_1.after args s (.returned v) u = true ∧ limb_1_2.after args s (.returned v) u = true ∧ True) → FrameEnd s (.returned v) u (Jvm.fieldLocs frame_1_writes args s ++ Jvm.arrayLocs frame_1_arrays args s ++ Jvm.staticLocs frame_1_statics s) 16 128 → Post tb e args s (.returned v) u) :
    ArmFor flags0 classFile x code maxLocals ret World_1 tables_1 room_1 Calls_1 rest_1 Pre_1 Post := by
  intro l hfl _ _ p e ha hc hk s m args below hf hA hF happ hP
  obtain ⟨hcalls, hrest, hpre⟩ := hP
  obtain ⟨-, -, -, hnamed, -, -, -, hat⟩ := (Spec.applies_iff hf).mp happ
  obtain ⟨hg, hn⟩ := and_e (Cond.before_iff.mp (show (Jvm.Cond.and given_1 narrow_1).before args s = true from hpre))
  obtain ⟨gc, g0⟩ := and_e hg
  obtain ⟨gg0, g1⟩ := and_e g0
  obtain ⟨gg1, g2⟩ := and_e g1
  obtain ⟨gg2, g3⟩ := and_e g2
  obtain ⟨gg3, g4⟩ := and_e g3
  obtain ⟨gg4, g5⟩ := and_e g4
  obtain ⟨w0, w1, w2, w3, w4, w5, rfl⟩ : ∃ w0 w1 w2 w3 w4 w5 : Value, args = #[w0, w1, w2, w3, w4, w5] := by
    have hs : args.size = 6 := by simpa [Cond.value, given_1] using gc
    obtain ⟨L⟩ := args
    match L, hs with
    | [w0, w1, w2, w3, w4, w5], _ => exact ⟨w0, w1, w2, w3, w4, w5, rfl⟩
  have hw := fun d (hd : d ∈ tables_1) => atoms_spec (ws := Jvm.Cond.code x code maxLocals ret :: tables_1) hat d (List.mem_cons_of_mem _ hd)
  have hfit : Fit s := fun {y c} hc i hi => by
    obtain ⟨ha, rfl⟩ := Array.getElem?_eq_some_iff.mp hc
    have q := List.all_eq_true.mp ((Array.all_eq_true_iff_forall_mem.mp hF) _ (Array.getElem_mem ha)) i (List.mem_range.mpr hi)
    simpa [Array.getElem?_eq_getElem hi] using q
  obtain ⟨i0, ei0⟩ := is_v gg0
  obtain rfl : w0 = (.int i0) := Option.some.inj ei0
  obtain ⟨i1, ei1⟩ := is_v gg1
  obtain rfl : w1 = (.int i1) := Option.some.inj ei1
  obtain ⟨i2, ei2⟩ := is_v gg2
  obtain rfl : w2 = (.int i2) := Option.some.inj ei2
  obtain ⟨i3, ei3⟩ := is_v gg3
  obtain rfl : w3 = (.int i3) := Option.some.inj ei3
  obtain ⟨i4, ei4⟩ := is_v gg4
  obtain rfl : w4 = (.int i4) := Option.some.inj ei4
  obtain ⟨i5, ei5⟩ := is_v g5
  obtain rfl : w5 = (.int i5) := Option.some.inj ei5
  obtain ⟨n, o, h1, h2, h3, _, L, rfl, ⟨rfl, N⟩, hq⟩ := rm0 l s _ hw tables_1 i0 i1 i2 i3 i4 i5 s.heap s.heap.size (Nat.le_refl _) p e ha hc hk s m _ below hf ((Spec.applies_iff_loose hf).mp happ).1 ⟨rfl, State.Warmed39.refl s, rfl⟩ trivial
  refine ⟨n, _, h1, h2, h3, hpost _ _ _ _ _ _ ⟨Cond.after_iff.mpr rfl, Cond.after_iff.mpr (eq_i res_at (Term.int_eval (1)) rfl), trivial⟩ ⟨hq.1, hq.2.1, (hq.2.2.sift fun y hy => Or.inr (N y hy)).mono (by decide) (by decide)⟩⟩
theorem main_1_1 : Claimed_1_1 := comes_1 fun _ _ _ _ _ _ h hF => ⟨h.1, hF⟩
theorem main_1_2 : Claimed_1_2 := comes_1 fun _ _ _ _ _ _ h hF => ⟨h.2.1, hF⟩
end Jvm.Pilot.@@N@@
namespace Jvm.Pilot.@@N@@
open Jvm Jvm.ClassFile Sem Op Lib Jvm.Free Jvm.Stand Jvm.Pilot.@@N@@.Jvm.D
/-! MADE BY PROGRAM (witnessworld.py) out of the Statement's table words and the real class files: 9 classes; the members and pool entries that the words name. The judged class is class 1, her method 7. -/
namespace start1
open Jvm.ClassFile
def u (s : String) : CpInfo := .utf8 (stringToUtf16 s)
/-- a pool by its gaps: so many unusable entries, then the entry; so many at the end -/
def gap : Nat → List CpInfo → List CpInfo
  | 0, r => r
  | n + 1, r => .unusable :: gap n r
def poolList (es : List (Nat × CpInfo)) (last : Nat) : List CpInfo := es.foldr (fun e r => gap e.1 (e.2 :: r)) (gap last [])
def pool (es : List (Nat × CpInfo)) (last : Nat) : Array CpInfo := ⟨poolList es last⟩
def fileOf (pool : Array CpInfo) (this : Nat) (attrs : Array Attribute := #[]) (ms : Array MethodInfo := #[]) (fl : Nat := 33) (sup : Nat := 0) (ifs : Array Nat := #[]) (fds : Array FieldInfo := #[]) : ClassFile where
  minorVersion := 0
  majorVersion := 65
  constantPool := pool
  accessFlags := fl
  thisClass := this
  superClass := sup
  interfaces := ifs
  fields := fds
  methods := ms
  attributes := attrs
def plain (name : String) (sup : Option ClassId) : Class where
  name := name
  kind := .ordinary
  loader := none
  accessFlags := 33
  super := sup
  interfaces := #[]
  cf := none
  fields := #[]
  methods := #[]
  instanceTypes := #[]
  staticTypes := #[]
  resolved := #[]
  callSites := []
  init := .initialized
  statics := none
  mirror := none

def pool0 : Array CpInfo := pool [(5, u "<init>"), (0, u "()V"), (1, .class_ 10), (1, u "java/lang/Object")] 113

def k0m0 : Method := { name := "<init>", desc := "()V", sig := { parameters := [], returnType := none }, accessFlags := 1, code := none }
/-- java/lang/Object -/
def k0 : Class := { plain "java/lang/Object" none with
  accessFlags := 33
  interfaces := #[]
  cf := some (fileOf pool0 8 #[] #[{ accessFlags := 1, nameIndex := 5, descriptorIndex := 6, attributes := #[] }] 33 0 #[] #[])
  fields := #[]
  methods := #[k0m0]
  instanceTypes := #[]
  staticTypes := #[]
  resolved := Array.replicate 124 none
  statics := none }

def pool1 : Array CpInfo := pool [(2, .class_ 4), (1, u "java/lang/Object"), (0, u "<init>"), (0, u "()V"), (0, .methodref 8 9), (0, .class_ 10), (0, .nameAndType 11 12), (0, u "com/example/platemark/platemark/records/Iso2709DigitsPinLaw"), (0, u "inWindow"), (0, u "(III)Z"), (0, .methodref 8 14), (0, .nameAndType 15 16), (0, u "dig"), (0, u "(B)I"), (0, .methodref 8 18), (0, .nameAndType 19 20), (0, u "pow10"), (0, u "(I)I"), (0, .methodref 8 22), (0, .nameAndType 23 24), (0, u "mk"), (0, u "(I)B"), (0, .methodref 8 26), (0, .nameAndType 27 28), (0, u "bad"), (0, u "(BIII)Z"), (0, .methodref 8 30), (0, .nameAndType 31 32), (0, u "term"), (0, u "(BIII)I"), (0, .methodref 34 35), (0, .class_ 36), (0, .nameAndType 37 38), (0, u "com/example/platemark/platemark/records/Iso2709"), (0, u "digits"), (0, u "([BII)I"), (3, u "law"), (0, u "(IIIIII)Z")] 4

def k1m0 : Method := { name := "<init>", desc := "()V", sig := { parameters := [], returnType := none }, accessFlags := 2, code := none }
def k1c1 : Code := { maxStack := 3, maxLocals := 1, code := method_2_code, exceptionTable := #[], attributes := #[] }
def k1m1 : Method := { name := "mk", desc := "(I)B", sig := { parameters := [.int], returnType := some .byte }, accessFlags := 10, code := some k1c1 }
def k1c2 : Code := { maxStack := 2, maxLocals := 1, code := method_3_code, exceptionTable := #[], attributes := #[] }
def k1m2 : Method := { name := "dig", desc := "(B)I", sig := { parameters := [.byte], returnType := some .int }, accessFlags := 10, code := some k1c2 }
def k1c3 : Code := { maxStack := 2, maxLocals := 1, code := method_4_code, exceptionTable := #[], attributes := #[] }
def k1m3 : Method := { name := "pow10", desc := "(I)I", sig := { parameters := [.int], returnType := some .int }, accessFlags := 10, code := some k1c3 }
def k1c4 : Code := { maxStack := 2, maxLocals := 3, code := method_5_code, exceptionTable := #[], attributes := #[] }
def k1m4 : Method := { name := "inWindow", desc := "(III)Z", sig := { parameters := [.int, .int, .int], returnType := some .boolean }, accessFlags := 10, code := some k1c4 }
def k1c5 : Code := { maxStack := 3, maxLocals := 4, code := method_6_code, exceptionTable := #[], attributes := #[] }
def k1m5 : Method := { name := "bad", desc := "(BIII)Z", sig := { parameters := [.byte, .int, .int, .int], returnType := some .boolean }, accessFlags := 10, code := some k1c5 }
def k1c6 : Code := { maxStack := 3, maxLocals := 4, code := method_7_code, exceptionTable := #[], attributes := #[] }
def k1m6 : Method := { name := "term", desc := "(BIII)I", sig := { parameters := [.byte, .int, .int, .int], returnType := some .int }, accessFlags := 10, code := some k1c6 }
def k1c7 : Code := { maxStack := 5, maxLocals := 12, code := code, exceptionTable := #[], attributes := #[] }
def k1m7 : Method := { name := "law", desc := "(IIIIII)Z", sig := { parameters := [.int, .int, .int, .int, .int, .int], returnType := some .boolean }, accessFlags := 9, code := some k1c7 }
/-- com/example/platemark/platemark/records/Iso2709DigitsPinLaw -/
def k1 : Class := { plain "com/example/platemark/platemark/records/Iso2709DigitsPinLaw" (some 0) with
  accessFlags := 49
  interfaces := #[]
  cf := some (fileOf pool1 8 #[] #[{ accessFlags := 2, nameIndex := 5, descriptorIndex := 6, attributes := #[] }, { accessFlags := 10, nameIndex := 23, descriptorIndex := 24, attributes := #[] }, { accessFlags := 10, nameIndex := 15, descriptorIndex := 16, attributes := #[] }, { accessFlags := 10, nameIndex := 19, descriptorIndex := 20, attributes := #[] }, { accessFlags := 10, nameIndex := 11, descriptorIndex := 12, attributes := #[] }, { accessFlags := 10, nameIndex := 27, descriptorIndex := 28, attributes := #[] }, { accessFlags := 10, nameIndex := 31, descriptorIndex := 32, attributes := #[] }, { accessFlags := 9, nameIndex := 42, descriptorIndex := 43, attributes := #[] }] 49 2 #[] #[])
  fields := #[]
  methods := #[k1m0, k1m1, k1m2, k1m3, k1m4, k1m5, k1m6, k1m7]
  instanceTypes := #[]
  staticTypes := #[]
  resolved := Array.replicate 48 none
  statics := none }

def pool2 : Array CpInfo := pool [(1, .class_ 2), (0, u "com/example/platemark/platemark/records/Iso2709"), (1, .class_ 6), (1, u "java/lang/Object"), (0, u "<init>"), (0, u "()V"), (194, u "LENGTH_DIGITS"), (0, u "I"), (2, u "LONGEST"), (1, u "LEADER_LENGTH"), (1, u "SHORTEST"), (1, u "INDICATOR_COUNT_POSITION"), (1, u "IDENTIFIER_LENGTH_POSITION"), (1, u "BASE_POSITION"), (1, u "BASE_DIGITS"), (0, u "ENTRY_MAP_POSITION"), (1, u "TAG_LENGTH"), (1, u "RECORD_TERMINATOR"), (0, u "B"), (1, u "FIELD_TERMINATOR"), (1, u "DELIMITER"), (1, u "LAID_OUT_INDICATORS"), (1, u "LAID_OUT_IDENTIFIER_LENGTH"), (0, u "LAID_OUT_ENTRY_MAP"), (0, u "Ljava/lang/String;"), (15, u "digits"), (0, u "([BII)I")] 60

def k2m0 : Method := { name := "<init>", desc := "()V", sig := { parameters := [], returnType := none }, accessFlags := 2, code := none }
def k2c1 : Code := { maxStack := 3, maxLocals := 5, code := prog_44_method_12_code, exceptionTable := #[], attributes := #[] }
def k2m1 : Method := { name := "digits", desc := "([BII)I", sig := { parameters := [(.array .byte), .int, .int], returnType := some .int }, accessFlags := 8, code := some k2c1 }
/-- com/example/platemark/platemark/records/Iso2709 -/
def k2 : Class := { plain "com/example/platemark/platemark/records/Iso2709" (some 0) with
  accessFlags := 48
  interfaces := #[]
  cf := some (fileOf pool2 1 #[] #[{ accessFlags := 2, nameIndex := 7, descriptorIndex := 8, attributes := #[] }, { accessFlags := 8, nameIndex := 251, descriptorIndex := 252, attributes := #[] }] 48 4 #[] #[{ accessFlags := 24, nameIndex := 203, descriptorIndex := 204, attributes := #[] }, { accessFlags := 24, nameIndex := 207, descriptorIndex := 204, attributes := #[] }, { accessFlags := 24, nameIndex := 209, descriptorIndex := 204, attributes := #[] }, { accessFlags := 24, nameIndex := 211, descriptorIndex := 204, attributes := #[] }, { accessFlags := 24, nameIndex := 213, descriptorIndex := 204, attributes := #[] }, { accessFlags := 24, nameIndex := 215, descriptorIndex := 204, attributes := #[] }, { accessFlags := 24, nameIndex := 217, descriptorIndex := 204, attributes := #[] }, { accessFlags := 24, nameIndex := 219, descriptorIndex := 204, attributes := #[] }, { accessFlags := 24, nameIndex := 220, descriptorIndex := 204, attributes := #[] }, { accessFlags := 24, nameIndex := 222, descriptorIndex := 204, attributes := #[] }, { accessFlags := 24, nameIndex := 224, descriptorIndex := 225, attributes := #[] }, { accessFlags := 24, nameIndex := 227, descriptorIndex := 225, attributes := #[] }, { accessFlags := 24, nameIndex := 229, descriptorIndex := 225, attributes := #[] }, { accessFlags := 24, nameIndex := 231, descriptorIndex := 204, attributes := #[] }, { accessFlags := 24, nameIndex := 233, descriptorIndex := 204, attributes := #[] }, { accessFlags := 26, nameIndex := 234, descriptorIndex := 235, attributes := #[] }])
  fields := #[{ name := "LENGTH_DIGITS", type := .int, accessFlags := 24, slot := 0, constantValue := 0 }, { name := "LONGEST", type := .int, accessFlags := 24, slot := 1, constantValue := 0 }, { name := "LEADER_LENGTH", type := .int, accessFlags := 24, slot := 2, constantValue := 0 }, { name := "SHORTEST", type := .int, accessFlags := 24, slot := 3, constantValue := 0 }, { name := "INDICATOR_COUNT_POSITION", type := .int, accessFlags := 24, slot := 4, constantValue := 0 }, { name := "IDENTIFIER_LENGTH_POSITION", type := .int, accessFlags := 24, slot := 5, constantValue := 0 }, { name := "BASE_POSITION", type := .int, accessFlags := 24, slot := 6, constantValue := 0 }, { name := "BASE_DIGITS", type := .int, accessFlags := 24, slot := 7, constantValue := 0 }, { name := "ENTRY_MAP_POSITION", type := .int, accessFlags := 24, slot := 8, constantValue := 0 }, { name := "TAG_LENGTH", type := .int, accessFlags := 24, slot := 9, constantValue := 0 }, { name := "RECORD_TERMINATOR", type := .byte, accessFlags := 24, slot := 10, constantValue := 0 }, { name := "FIELD_TERMINATOR", type := .byte, accessFlags := 24, slot := 11, constantValue := 0 }, { name := "DELIMITER", type := .byte, accessFlags := 24, slot := 12, constantValue := 0 }, { name := "LAID_OUT_INDICATORS", type := .int, accessFlags := 24, slot := 13, constantValue := 0 }, { name := "LAID_OUT_IDENTIFIER_LENGTH", type := .int, accessFlags := 24, slot := 14, constantValue := 0 }, { name := "LAID_OUT_ENTRY_MAP", type := (.object "java/lang/String"), accessFlags := 26, slot := 15, constantValue := 0 }]
  methods := #[k2m0, k2m1]
  instanceTypes := #[]
  staticTypes := #[.int, .int, .int, .int, .int, .int, .int, .int, .int, .int, .byte, .byte, .byte, .int, .int, (.object "java/lang/String")]
  resolved := Array.replicate 313 none
  statics := none }

def pool3 : Array CpInfo := pool [(1, u "java/lang/Cloneable"), (0, .class_ 1), (0, u "java/lang/Object"), (0, .class_ 3)] 3

/-- java/lang/Cloneable -/
def k3 : Class := { plain "java/lang/Cloneable" (some 0) with
  accessFlags := 1537
  interfaces := #[]
  cf := some (fileOf pool3 2 #[] #[] 1537 4 #[] #[])
  fields := #[]
  methods := #[]
  instanceTypes := #[]
  staticTypes := #[]
  resolved := Array.replicate 8 none
  statics := none }

def pool4 : Array CpInfo := pool [(1, u "java/io/Serializable"), (0, .class_ 1), (0, u "java/lang/Object"), (0, .class_ 3)] 3

/-- java/io/Serializable -/
def k4 : Class := { plain "java/io/Serializable" (some 0) with
  accessFlags := 1537
  interfaces := #[]
  cf := some (fileOf pool4 2 #[] #[] 1537 4 #[] #[])
  fields := #[]
  methods := #[]
  instanceTypes := #[]
  staticTypes := #[]
  resolved := Array.replicate 8 none
  statics := none }

/-- the primitive byte -/
def k5 : Class := { plain "byte" none with kind := .primitive 'B', accessFlags := 0x411 }
/-- [B -/
def k6 : Class := { plain "[B" (some 0) with kind := .array 5 .byte, interfaces := #[3, 4], accessFlags := 1041 }

/-- the primitive int -/
def k7 : Class := { plain "int" none with kind := .primitive 'I', accessFlags := 0x411 }
/-- [I -/
def k8 : Class := { plain "[I" (some 0) with kind := .array 7 .int, interfaces := #[3, 4], accessFlags := 1041 }

def heap : Heap := #[]
def classes : Array Class := #[k0, k1, k2, k3, k4, k5, k6, k7, k8]
def interned : List (Array UInt16 × Addr) := []
def slotsUsed : Nat := 0
def theMethod : MethodId := ⟨1, 7⟩
def args0 : Array Value := #[.int 5, .int 6, .int 7, .int 8, .int 9, .int 10]
def aboutOver (below : List Frame) : State where
  vm := { classes := classes, interned := interned.toArray }
  heap := heap
  slotsUsed := slotsUsed
  threads := #[{ frames := .invoking theMethod args0 :: below }]
def below0 : List Frame := [.native { method := ⟨0, 0⟩, args := #[] }]
def about1 : State := aboutOver below0
def p0 : Program := .bare "" "" ""
def e0 : Env := launch0.env 0 0 0
theorem w_frames : about1.frames = Frame.invoking theMethod args0 :: below0 := rfl
set_option maxRecDepth 65536 in
theorem w_args : argsFit about1.vm theMethod args0 = true := by decide +kernel
set_option maxRecDepth 65536 in
theorem w_heap : heapFits about1 = true := by decide +kernel
set_option maxRecDepth 65536 in
theorem w_runnable : about1.curStatus? = some .runnable := by decide +kernel
set_option maxRecDepth 65536 in
theorem w_alone : about1.alone = true := by decide +kernel
set_option maxRecDepth 65536 in
theorem w_named : about1.methodNamed? x = some theMethod := by decide +kernel
set_option maxRecDepth 65536 in
theorem w_hears : about1.hears theMethod below0 = true := by decide +kernel
set_option maxRecDepth 65536 in
theorem w_ripe : about1.ripe theMethod args0 below0 = true := by decide +kernel
theorem w_running : about1.status = .running := rfl
set_option maxRecDepth 65536 in
theorem w_room : about1.hasRoom e0.platform room_1 = true :=
  launch0.hasRoom_least _ room_1 (by decide +kernel) (by decide +kernel) (by decide +kernel) (by decide +kernel) (by decide +kernel) (by decide +kernel)
theorem allAtoms_all (ts : List Jvm.Cond) (a : Array Jvm.Value) (st : Jvm.State) : (allAtoms ts).before a st = ts.all (fun c => c.before a st) := by
  induction ts with
  | nil => rfl
  | cons c t ih =>
    show (Jvm.Cond.and c (allAtoms t)).before a st = _
    rw [Jvm.Cond.before_and, ih, List.all_cons]
def words1 : List Jvm.Cond := Jvm.Cond.code x code maxLocals ret :: tables_1
/-- a 'code' word, met by the world's own term for the bytes: nothing is compared byte by byte -/
theorem code_word {y : MethodName} {bytes : ByteArray} {mx : Nat} {rt : Option FieldType} {a : Array Value} {s : State} {m : MethodId} {meth : Method} {c : Code} (h1 : s.methodNamed? y = some m) (h2 : s.vm.method? m = some meth) (h3 : meth.code = some c) (h4 : c.code = bytes)
    (h5 : (c.maxLocals == mx && c.exceptionTable.isEmpty && decide (c.maxStack ≤ mostOperands) && decide (meth.sig.returnType = rt) && !meth.locks && decide (parseMethodDescriptor y.desc = some meth.sig)) = true) : (Jvm.Cond.code y bytes mx rt).before a s = true := by
  simp only [Bool.and_eq_true, beq_iff_eq, Bool.not_eq_true', decide_eq_true_eq] at h5
  obtain ⟨⟨⟨⟨⟨g1, g2⟩, g3⟩, g4⟩, g5⟩, g6⟩ := h5
  simp [Cond.before, Cond.holds, Cond.value, h1, h2, h3, h4, g1, g2, g3, g4, g5, g6]
def isCode : Jvm.Cond → Bool
  | .code _ _ _ _ => true
  | _ => false
theorem all_split {L : List Jvm.Cond} {P : Jvm.Cond → Bool} (h1 : L.all (fun c => isCode c || P c) = true) (h2 : ∀ c ∈ L.filter isCode, P c = true) : L.all P = true := by
  refine List.all_eq_true.mpr fun c hc => ?_
  have h := List.all_eq_true.mp h1 c hc
  rcases Bool.eq_false_or_eq_true (isCode c) with hi | hi
  · exact h2 c (List.mem_filter.mpr ⟨hc, hi⟩)
  · simpa [hi] using h
set_option maxRecDepth 65536 in
theorem w_c0 : (Jvm.Cond.code x code maxLocals ret).before args0 about1 = true := code_word (m := ⟨1, 7⟩) (meth := k1m7) (c := k1c7) (by decide +kernel) rfl rfl rfl (by decide +kernel)
set_option maxRecDepth 65536 in
theorem w_c1 : (Jvm.Cond.code ({ cls := "com/example/platemark/platemark/records/Iso2709DigitsPinLaw", name := "mk", desc := "(I)B" } : Jvm.MethodName) method_2_code (1 : Nat) (Option.some Jvm.ClassFile.FieldType.byte)).before args0 about1 = true := code_word (m := ⟨1, 1⟩) (meth := k1m1) (c := k1c1) (by decide +kernel) rfl rfl rfl (by decide +kernel)
set_option maxRecDepth 65536 in
theorem w_c2 : (Jvm.Cond.code ({ cls := "com/example/platemark/platemark/records/Iso2709DigitsPinLaw", name := "bad", desc := "(BIII)Z" } : Jvm.MethodName) method_6_code (4 : Nat) (Option.some Jvm.ClassFile.FieldType.boolean)).before args0 about1 = true := code_word (m := ⟨1, 5⟩) (meth := k1m5) (c := k1c5) (by decide +kernel) rfl rfl rfl (by decide +kernel)
set_option maxRecDepth 65536 in
theorem w_c3 : (Jvm.Cond.code ({ cls := "com/example/platemark/platemark/records/Iso2709DigitsPinLaw", name := "inWindow", desc := "(III)Z" } : Jvm.MethodName) method_5_code (3 : Nat) (Option.some Jvm.ClassFile.FieldType.boolean)).before args0 about1 = true := code_word (m := ⟨1, 4⟩) (meth := k1m4) (c := k1c4) (by decide +kernel) rfl rfl rfl (by decide +kernel)
set_option maxRecDepth 65536 in
theorem w_c4 : (Jvm.Cond.code ({ cls := "com/example/platemark/platemark/records/Iso2709DigitsPinLaw", name := "term", desc := "(BIII)I" } : Jvm.MethodName) method_7_code (4 : Nat) (Option.some Jvm.ClassFile.FieldType.int)).before args0 about1 = true := code_word (m := ⟨1, 6⟩) (meth := k1m6) (c := k1c6) (by decide +kernel) rfl rfl rfl (by decide +kernel)
set_option maxRecDepth 65536 in
theorem w_c5 : (Jvm.Cond.code ({ cls := "com/example/platemark/platemark/records/Iso2709", name := "digits", desc := "([BII)I" } : Jvm.MethodName) prog_44_method_12_code (5 : Nat) (Option.some Jvm.ClassFile.FieldType.int)).before args0 about1 = true := code_word (m := ⟨2, 1⟩) (meth := k2m1) (c := k2c1) (by decide +kernel) rfl rfl rfl (by decide +kernel)
set_option maxRecDepth 65536 in
theorem w_c6 : (Jvm.Cond.code ({ cls := "com/example/platemark/platemark/records/Iso2709DigitsPinLaw", name := "dig", desc := "(B)I" } : Jvm.MethodName) method_3_code (1 : Nat) (Option.some Jvm.ClassFile.FieldType.int)).before args0 about1 = true := code_word (m := ⟨1, 2⟩) (meth := k1m2) (c := k1c2) (by decide +kernel) rfl rfl rfl (by decide +kernel)
set_option maxRecDepth 65536 in
theorem w_c7 : (Jvm.Cond.code ({ cls := "com/example/platemark/platemark/records/Iso2709DigitsPinLaw", name := "pow10", desc := "(I)I" } : Jvm.MethodName) method_4_code (1 : Nat) (Option.some Jvm.ClassFile.FieldType.int)).before args0 about1 = true := code_word (m := ⟨1, 3⟩) (meth := k1m3) (c := k1c3) (by decide +kernel) rfl rfl rfl (by decide +kernel)
def codes1 : List Jvm.Cond := [Jvm.Cond.code x code maxLocals ret, Jvm.Cond.code ({ cls := "com/example/platemark/platemark/records/Iso2709DigitsPinLaw", name := "mk", desc := "(I)B" } : Jvm.MethodName) method_2_code (1 : Nat) (Option.some Jvm.ClassFile.FieldType.byte), Jvm.Cond.code ({ cls := "com/example/platemark/platemark/records/Iso2709DigitsPinLaw", name := "bad", desc := "(BIII)Z" } : Jvm.MethodName) method_6_code (4 : Nat) (Option.some Jvm.ClassFile.FieldType.boolean), Jvm.Cond.code ({ cls := "com/example/platemark/platemark/records/Iso2709DigitsPinLaw", name := "inWindow", desc := "(III)Z" } : Jvm.MethodName) method_5_code (3 : Nat) (Option.some Jvm.ClassFile.FieldType.boolean), Jvm.Cond.code ({ cls := "com/example/platemark/platemark/records/Iso2709DigitsPinLaw", name := "term", desc := "(BIII)I" } : Jvm.MethodName) method_7_code (4 : Nat) (Option.some Jvm.ClassFile.FieldType.int), Jvm.Cond.code ({ cls := "com/example/platemark/platemark/records/Iso2709", name := "digits", desc := "([BII)I" } : Jvm.MethodName) prog_44_method_12_code (5 : Nat) (Option.some Jvm.ClassFile.FieldType.int), Jvm.Cond.code ({ cls := "com/example/platemark/platemark/records/Iso2709DigitsPinLaw", name := "dig", desc := "(B)I" } : Jvm.MethodName) method_3_code (1 : Nat) (Option.some Jvm.ClassFile.FieldType.int), Jvm.Cond.code ({ cls := "com/example/platemark/platemark/records/Iso2709DigitsPinLaw", name := "pow10", desc := "(I)I" } : Jvm.MethodName) method_4_code (1 : Nat) (Option.some Jvm.ClassFile.FieldType.int)]
set_option maxRecDepth 65536 in
theorem codes_eq : words1.filter isCode = codes1 := rfl
theorem w_codes : ∀ c ∈ words1.filter isCode, c.before args0 about1 = true := by
  rw [codes_eq]
  intro c hc
  simp only [codes1, List.mem_cons, List.not_mem_nil, or_false] at hc
  rcases hc with rfl | rfl | rfl | rfl | rfl | rfl | rfl | rfl
  · exact w_c0
  · exact w_c1
  · exact w_c2
  · exact w_c3
  · exact w_c4
  · exact w_c5
  · exact w_c6
  · exact w_c7
set_option maxRecDepth 65536 in
theorem w_t1 : (words1.take 24).all (fun c => isCode c || c.before args0 about1) = true := by decide +kernel
set_option maxRecDepth 65536 in
theorem w_t2 : (words1.drop 24).all (fun c => isCode c || c.before args0 about1) = true := by decide +kernel
theorem w_tables : (allAtoms (Jvm.Cond.code x code maxLocals ret :: tables_1)).before args0 about1 = true := by
  rw [allAtoms_all]
  show words1.all (fun c => c.before args0 about1) = true
  refine all_split ?_ w_codes
  rw [← List.take_append_drop 24 words1, List.all_append, w_t1, w_t2]
  rfl
set_option maxRecDepth 65536 in
theorem w_case : (Jvm.Cond.and given_1 narrow_1).before args0 about1 = true := by decide +kernel
theorem w_applies : (headSpec (Jvm.Cond.code x code maxLocals ret :: tables_1) room_1).applies x e0.platform about1 = true :=
  (Spec.applies_iff w_frames).mpr ⟨w_running, w_runnable, w_alone, w_named, w_hears, w_ripe, w_room, w_tables⟩
theorem atStart : AtStart classFile x code maxLocals ret World_1 tables_1 room_1 Calls_1 rest_1 Pre_1 launch0 p0 e0 about1 theMethod args0 below0 :=
  ⟨lists_1, trivial, launch0.admits_env _ _ _, launch0.least_env, fairChoices_fair.cas, fairChoices_fair.clock, w_frames, w_args, w_heap, w_applies, trivial, trivial, w_case⟩
end start1
theorem witness_1 : WitnessClaimed_1 := ⟨start1.p0, start1.e0, start1.about1, start1.theMethod, start1.args0, start1.below0, start1.atStart⟩
end Jvm.Pilot.@@N@@
