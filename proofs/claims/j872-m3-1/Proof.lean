import JvmDerived
import JvmDerived.Pilot.@@N@@Statement
import JvmDerived.Pilot.@@N@@Code
set_option linter.unusedVariables false
set_option linter.unusedSimpArgs false

namespace Jvm.RoadKit
open Sem ClassFile Op Lib Jvm.Stand Jvm.Free Jvm.LawKit
section New
variable {p : Program} {l : Launch} {e : Env} {R : Room} {s : State} {m : MethodId} {args : Array Value} {below : List Frame} {meth : Method} {c : Code} {T : State} {locs : List Loc} {cells slots : Nat}
theorem retI (X : Stand p l e R s m args below meth c T locs cells slots) (hx : p.tables.exec = Jvm.exec) {pc : Nat} {Ls : Array Slot} {z : Int32} {rest : List Value} (hret : meth.sig.returnType = some .int) (hd : decode c.code pc = .ok (.ireturn, 1)) {fs : List Frame}
    (hl : ∀ (f : JFrame) (acts : List Action), f.method = m → f.locked = none → f.entered = [] → (doReturn e (T.setTop f) acts (some (.int z))).1 = T.setFrames fs) : Steps p.tables e below (T.setTop (mkF m pc Ls (.int z :: rest))) (T.setFrames fs) := by
  have hm' : T.vm.method? m = some meth := X.method'
  have hn : narrow .int (.int z) = .int z := rfl
  show Steps p.tables e below (T.setTop { method := m, pc := pc, locals := Ls, stack := _ :: rest, locked := none }) _
  jvm_step X.here [X.here.top, hx, hd, hm', hret, hn]
  first | (intro acts; rw [hl _ acts rfl rfl rfl]) | rw [hl _ _ rfl rfl rfl]
  exact Steps.refl _
end New
end Jvm.RoadKit
namespace Jvm.Pilot.@@N@@
open Jvm Jvm.ClassFile Sem Op Lib Jvm.Free Jvm.Stand Jvm.LawKit Jvm.RoadKit Bundle Jvm.Pilot.@@N@@.Jvm.D
abbrev own_Goes (tb : Tables) (e : Env) (below : List Frame) (A : State) (R : State → Outcome → Prop) : Prop := ∃ s₂ o, Steps tb e below A s₂ ∧ R s₂ o
theorem own_go {tb : Tables} {e : Env} {below : List Frame} {A B : State} {R : State → Outcome → Prop} (f : ∀ t, Steps tb e below B t → Steps tb e below A t) (h : own_Goes tb e below B R) : own_Goes tb e below A R := by
  obtain ⟨s₂, o, h1, h2⟩ := h
  exact ⟨s₂, o, f _ h1, h2⟩
theorem d1_0 : decode prog_284_method_3_code 0 = .ok (.iload_n 0, 1) := by decide +kernel
theorem d1_1 : decode prog_284_method_3_code 1 = .ok (.ldc 60, 2) := by decide +kernel
theorem d1_3 : decode prog_284_method_3_code 3 = .ok (.isub, 1) := by decide +kernel
theorem d1_4 : decode prog_284_method_3_code 4 = .ok (.istore_n 1, 1) := by decide +kernel
theorem d1_5 : decode prog_284_method_3_code 5 = .ok (.iload_n 1, 1) := by decide +kernel
theorem d1_6 : decode prog_284_method_3_code 6 = .ok (.ifCond .lt 14, 3) := by decide +kernel
theorem d1_9 : decode prog_284_method_3_code 9 = .ok (.iload_n 1, 1) := by decide +kernel
theorem d1_10 : decode prog_284_method_3_code 10 = .ok (.sipush 255, 3) := by decide +kernel
theorem d1_13 : decode prog_284_method_3_code 13 = .ok (.if_icmp .gt 7, 3) := by decide +kernel
theorem d1_16 : decode prog_284_method_3_code 16 = .ok (.iload_n 1, 1) := by decide +kernel
theorem d1_17 : decode prog_284_method_3_code 17 = .ok (.goto 4, 3) := by decide +kernel
theorem d1_20 : decode prog_284_method_3_code 20 = .ok (.iconst (-1), 1) := by decide +kernel
theorem d1_21 : decode prog_284_method_3_code 21 = .ok (.ireturn, 1) := by decide +kernel
theorem pn_1 : plainName "com/example/loopwise/loopwise/frontend/KeptBytes" = true := by first | (simp [plainName, overriddenIn]; done) | decide +kernel
theorem ef_1 (m : MethodId) (x0 : Int32) : entryFrame m #[(.int x0)] 2 = mkF m 0 #[.val (.int x0), .unset] [] := by first | (simp [entryFrame, mkF, argsToLocals, Value.category]; done) | rfl
def F1 (p0 : Int32)  : Int32 := if (p0 - (56320 : Int32)) < (0 : Int32) then (-1 : Int32) else if (255 : Int32) < (p0 - (56320 : Int32)) then (-1 : Int32) else (p0 - (56320 : Int32))
def Q1 (Z : State) (p0 : Int32)  (h0 : Heap) (n0 : Nat) (v : Option Value) (h : Heap) (L : List Loc) : Prop := v = some (.int (F1 p0)) ∧ Fr n0 L ∧ h = h0
set_option maxRecDepth 65536 in
set_option maxHeartbeats 40000000 in
theorem rm1 (l : Launch) (Z : State) (a0 : Array Value) (hw : ∀ d ∈ tables_1, d.before a0 Z = true) (ws : List Jvm.Cond) (p0 : Int32)  (h0 : Heap) (n0 : Nat)  :
    MetFree l (⟨"com/example/loopwise/loopwise/frontend/KeptBytes", "keptByte", "(C)I"⟩ : MethodName) (head1 (Jvm.Cond.code (⟨"com/example/loopwise/loopwise/frontend/KeptBytes", "keptByte", "(C)I"⟩ : MethodName) prog_284_method_3_code 2 (some .int) :: ws) ({ frames := 0, cells := 0, slots := 0, locals := 0 } : Room)) (fun a U => a = #[(.int p0)] ∧ Z.Warmed39 U.vm ∧ U.heap = h0) (fun _ _ _ _ _ => True) (fun _ U o U' => ∃ v L, o = .returned v ∧ Q1 Z p0  h0 n0 v U'.heap L ∧ FrameEnd U o U' L ({ frames := 0, cells := 0, slots := 0, locals := 0 } : Room).cells ({ frames := 0, cells := 0, slots := 0, locals := 0 } : Room).slots) := by
  refine MetFree.of_bodySF (plainFor_of_name pn_1) hisR ?_
  intro p e s m args below meth c s₁ Bd hml0 hP hK
  obtain ⟨rfl, hZ, hh⟩ := hP
  have hx := Bd.exec
  have hby := Bd.bytes
  have hml : c.maxLocals = 2 := hml0
  have hown : s.vm.findClass "com/example/loopwise/loopwise/frontend/KeptBytes" = some m.cls := findClass_of_methodNamed Bd.named
  have hnm := (name_of_methodNamed Bd.named Bd.method).1
  have X0 : Stand p l e ({ frames := 0, cells := 0, slots := 0, locals := 0 } : Room) s m #[(.int p0)] below meth c s₁ [] 0 0 := Stand.of_body Bd
  have e0 : s₁.heap = h0 := by rw [← hh, Bd.state]; rfl
  have N0 := Fr.nil n0
  refine own_go (B := (s₁.setTop (mkF m 0 #[.val (.int p0), .unset] []))) (fun t k => castTop (ef_1 m p0) k) ?_
  refine own_go (B := (s₁.setTop (mkF m 1 #[.val (.int p0), .unset] [(.int p0)]))) (fun t k => XS.iloadN X0.here hx rfl (hb hby d1_0) rfl k) ?_
  refine own_go (B := (s₁.setTop (mkF m 3 #[.val (.int p0), .unset] [(.int (56320 : Int32)), (.int p0)]))) (fun t k => X0.ldcInt hx hown (mvT hZ (hw _ (List.mem_of_getElem? (i := 4) rfl))) (g := (mkF m 1 #[.val (.int p0), .unset] [(.int p0)])) rfl (hb hby d1_1) _ k) ?_
  refine own_go (B := (s₁.setTop (mkF m 4 #[.val (.int p0), .unset] [(.int (p0 - (56320 : Int32)))]))) (fun t k => XS.isub X0.here hx rfl (hb hby d1_3) rfl k) ?_
  refine own_go (B := (s₁.setTop (mkF m 5 #[.val (.int p0), .val (.int (p0 - (56320 : Int32)))] []))) (fun t k => XS.istoreN X0.here hx rfl (hb hby d1_4) rfl (l' := #[.val (.int p0), .val (.int (p0 - (56320 : Int32)))]) rfl k) ?_
  refine own_go (B := (s₁.setTop (mkF m 6 #[.val (.int p0), .val (.int (p0 - (56320 : Int32)))] [(.int (p0 - (56320 : Int32)))]))) (fun t k => XS.iloadN X0.here hx rfl (hb hby d1_5) rfl k) ?_
  by_cases hc6 : (p0 - (56320 : Int32)) < (0 : Int32)
  · refine own_go (B := (s₁.setTop (mkF m 20 #[.val (.int p0), .val (.int (p0 - (56320 : Int32)))] []))) (fun t k => XS.ifYes X0.here hx rfl (pc0 := 6) (pc' := 20) rfl (hb hby d1_6) rfl ((if0 _ _).trans (tlt hc6).1) (by decide) (by decide) k) ?_
    refine own_go (B := (s₁.setTop (mkF m 21 #[.val (.int p0), .val (.int (p0 - (56320 : Int32)))] [(.int (-1 : Int32))]))) (fun t k => XS.iconst X0.here hx rfl (hb hby d1_20) k) ?_
    obtain ⟨fs, hr, hrun, hended, hW, hsame⟩ := X0.leave (v := some (.int (-1 : Int32))) (fun h => by rw [Bd.returns] at h; cases h)
    exact ⟨_, _, retI X0 hx Bd.returns (hb hby d1_21) hr, hrun, hended, _, _, rfl, ⟨congrArg (fun z => some (Value.int z)) (by simp only [F1, if_pos hc6]), N0, e0⟩, ⟨_, rfl⟩, hW, hsame.mono (by decide) (by decide)⟩
  · refine own_go (B := (s₁.setTop (mkF m 9 #[.val (.int p0), .val (.int (p0 - (56320 : Int32)))] []))) (fun t k => XS.ifNo X0.here hx rfl (hb hby d1_6) rfl ((if0 _ _).trans (flt hc6).1) k) ?_
    refine own_go (B := (s₁.setTop (mkF m 10 #[.val (.int p0), .val (.int (p0 - (56320 : Int32)))] [(.int (p0 - (56320 : Int32)))]))) (fun t k => XS.iloadN X0.here hx rfl (hb hby d1_9) rfl k) ?_
    refine own_go (B := (s₁.setTop (mkF m 13 #[.val (.int p0), .val (.int (p0 - (56320 : Int32)))] [(.int (255 : Int32)), (.int (p0 - (56320 : Int32)))]))) (fun t k => XS.sipush X0.here hx rfl (hb hby d1_10) k) ?_
    by_cases hc13 : (255 : Int32) < (p0 - (56320 : Int32))
    · refine own_go (B := (s₁.setTop (mkF m 20 #[.val (.int p0), .val (.int (p0 - (56320 : Int32)))] []))) (fun t k => XS.icmpYes X0.here hx rfl (pc0 := 13) (pc' := 20) rfl (hb hby d1_13) rfl (tlt hc13).2.2.1 (by decide) (by decide) k) ?_
      refine own_go (B := (s₁.setTop (mkF m 21 #[.val (.int p0), .val (.int (p0 - (56320 : Int32)))] [(.int (-1 : Int32))]))) (fun t k => XS.iconst X0.here hx rfl (hb hby d1_20) k) ?_
      obtain ⟨fs, hr, hrun, hended, hW, hsame⟩ := X0.leave (v := some (.int (-1 : Int32))) (fun h => by rw [Bd.returns] at h; cases h)
      exact ⟨_, _, retI X0 hx Bd.returns (hb hby d1_21) hr, hrun, hended, _, _, rfl, ⟨congrArg (fun z => some (Value.int z)) (by simp only [F1, if_neg hc6, if_pos hc13]), N0, e0⟩, ⟨_, rfl⟩, hW, hsame.mono (by decide) (by decide)⟩
    · refine own_go (B := (s₁.setTop (mkF m 16 #[.val (.int p0), .val (.int (p0 - (56320 : Int32)))] []))) (fun t k => XS.icmpNo X0.here hx rfl (hb hby d1_13) rfl (flt hc13).2.2.1 k) ?_
      refine own_go (B := (s₁.setTop (mkF m 17 #[.val (.int p0), .val (.int (p0 - (56320 : Int32)))] [(.int (p0 - (56320 : Int32)))]))) (fun t k => XS.iloadN X0.here hx rfl (hb hby d1_16) rfl k) ?_
      refine own_go (B := (s₁.setTop (mkF m 21 #[.val (.int p0), .val (.int (p0 - (56320 : Int32)))] [(.int (p0 - (56320 : Int32)))]))) (fun t k => XS.goto X0.here hx rfl (pc0 := 17) (pc' := 21) rfl (hb hby d1_17) (by decide) (by decide) k) ?_
      obtain ⟨fs, hr, hrun, hended, hW, hsame⟩ := X0.leave (v := some (.int (p0 - (56320 : Int32)))) (fun h => by rw [Bd.returns] at h; cases h)
      exact ⟨_, _, retI X0 hx Bd.returns (hb hby d1_21) hr, hrun, hended, _, _, rfl, ⟨congrArg (fun z => some (Value.int z)) (by simp only [F1, if_neg hc6, if_neg hc13]), N0, e0⟩, ⟨_, rfl⟩, hW, hsame.mono (by decide) (by decide)⟩
theorem own_in {c : Int32} (h1 : ¬ c < (56320 : Int32)) (h2 : ¬ (56575 : Int32) < c) : ¬ F1 c < (0 : Int32) ∧ ¬ (255 : Int32) < F1 c ∧ c = (56320 : Int32) + F1 c := by
  have a1 := c_isub c (56320 : Int32)
  have a2 := rng32 (c - (56320 : Int32))
  have a3 := rng32 c
  have k1 : (56320 : Int32).toInt = 56320 := by decide
  have k2 : (56575 : Int32).toInt = 56575 := by decide
  have k3 : (255 : Int32).toInt = 255 := by decide
  have k4 : (0 : Int32).toInt = 0 := by decide
  simp only [Int32.lt_iff_toInt_lt, k1, k2] at h1 h2
  rw [k1] at a1
  have n1 : ¬ (c - (56320 : Int32)) < (0 : Int32) := by simp only [Int32.lt_iff_toInt_lt, k4]; omega
  have n2 : ¬ (255 : Int32) < (c - (56320 : Int32)) := by simp only [Int32.lt_iff_toInt_lt, k3]; omega
  have e : F1 c = c - (56320 : Int32) := by simp only [F1, if_neg n1, if_neg n2]
  rw [e]
  refine ⟨n1, n2, ?_⟩
  have a4 := c_iadd (56320 : Int32) (c - (56320 : Int32))
  have a5 := rng32 ((56320 : Int32) + (c - (56320 : Int32)))
  rw [k1] at a4
  apply Int32.toInt_inj.mp
  omega
theorem own_out {c : Int32} (h0 : 0 ≤ c.toInt ∧ c.toInt < 65536) (h : c < (56320 : Int32) ∨ (56575 : Int32) < c) : F1 c = (-1 : Int32) := by
  have a1 := c_isub c (56320 : Int32)
  have a2 := rng32 (c - (56320 : Int32))
  have k1 : (56320 : Int32).toInt = 56320 := by decide
  have k2 : (56575 : Int32).toInt = 56575 := by decide
  have k3 : (255 : Int32).toInt = 255 := by decide
  have k4 : (0 : Int32).toInt = 0 := by decide
  rw [k1] at a1
  unfold F1
  split
  · rfl
  · rename_i q
    split
    · rfl
    · rename_i q2
      exfalso
      simp only [Int32.lt_iff_toInt_lt, k1, k2, k3, k4] at *
      omega
theorem own_kept (y : Int32) : F1 ((((56320 : Int32) + (y &&& (255 : Int32))).toUInt32.toUInt16.toUInt32.toInt32)) = (y &&& (255 : Int32)) := by
  have b1 := c_mask y (255 : Int32) 8 (by decide) (by decide)
  generalize (y &&& (255 : Int32)) = b at *
  have b2 := c_iadd (56320 : Int32) b
  have b3 := rng32 ((56320 : Int32) + b)
  have b4 := c_i2c ((56320 : Int32) + b)
  have k1 : (56320 : Int32).toInt = 56320 := by decide
  have k2 : (56575 : Int32).toInt = 56575 := by decide
  rw [k1] at b2
  generalize (((56320 : Int32) + b).toUInt32.toUInt16.toUInt32.toInt32) = c at *
  have h1 : ¬ c < (56320 : Int32) := by simp only [Int32.lt_iff_toInt_lt, k1]; omega
  have h2 : ¬ (56575 : Int32) < c := by simp only [Int32.lt_iff_toInt_lt, k2]; omega
  have h3 := (own_in h1 h2).2.2
  have a4 := c_iadd (56320 : Int32) (F1 c)
  have a5 := rng32 (F1 c)
  rw [← h3, k1] at a4
  apply Int32.toInt_inj.mp
  omega
theorem pn_0 : plainName "com/example/loopwise/loopwise/frontend/KeptBytesKeptBytePinLaw" = true := by first | (simp [plainName, overriddenIn]; done) | decide +kernel
theorem pd_0_0 : parseMethodDescriptor "(C)I" = some ⟨[.char], some .int⟩ := by decide +kernel
theorem ef_0 (m : MethodId) (x0 : Int32) (x1 : Int32) : entryFrame m #[(.int x0), (.int x1)] maxLocals = mkF m 0 #[.val (.int x0), .val (.int x1), .unset, .unset, .unset, .unset, .unset, .unset, .unset] [] := by first | (simp [entryFrame, mkF, argsToLocals, Value.category, maxLocals]; done) | rfl
def Q0 (Z : State) (p0 : Int32) (p1 : Int32) (h0 : Heap) (n0 : Nat) (v : Option Value) (h : Heap) (L : List Loc) : Prop := v = some (.int (1 : Int32)) ∧ Fr n0 L
set_option maxRecDepth 65536 in
set_option maxHeartbeats 40000000 in
theorem rm0 (l : Launch) (Z : State) (a0 : Array Value) (hw : ∀ d ∈ tables_1, d.before a0 Z = true) (ws : List Jvm.Cond) (p0 : Int32) (p1 : Int32)  (h0 : Heap) (n0 : Nat)  :
    MetFree l x (head1 (Jvm.Cond.code x code maxLocals ret :: ws) room_1) (fun a U => a = #[(.int p0), (.int p1)] ∧ Z.Warmed39 U.vm ∧ U.heap = h0) (fun _ _ _ _ _ => True) (fun _ U o U' => ∃ v L, o = .returned v ∧ Q0 Z p0 p1  h0 n0 v U'.heap L ∧ FrameEnd U o U' L room_1.cells room_1.slots) := by
  refine MetFree.of_bodySF (plainFor_of_name pn_0) hisR ?_
  intro p e s m args below meth c s₁ Bd hml0 hP hK
  obtain ⟨rfl, hZ, hh⟩ := hP
  have hx := Bd.exec
  have hby := Bd.bytes
  have hml : c.maxLocals = 9 := hml0
  have hown : s.vm.findClass "com/example/loopwise/loopwise/frontend/KeptBytesKeptBytePinLaw" = some m.cls := findClass_of_methodNamed Bd.named
  have hnm := (name_of_methodNamed Bd.named Bd.method).1
  have X0 : Stand p l e room_1 s m #[(.int p0), (.int p1)] below meth c s₁ [] 0 0 := Stand.of_body Bd
  have e0 : s₁.heap = h0 := by rw [← hh, Bd.state]; rfl
  have N0 := Fr.nil n0
  refine own_go (B := (s₁.setTop (mkF m 0 #[.val (.int p0), .val (.int p1), .unset, .unset, .unset, .unset, .unset, .unset, .unset] []))) (fun t k => castTop (ef_0 m p0 p1) k) ?_
  refine own_go (B := (s₁.setTop (mkF m 1 #[.val (.int p0), .val (.int p1), .unset, .unset, .unset, .unset, .unset, .unset, .unset] [(.int p0)]))) (fun t k => XS.iloadN X0.here hx rfl (hb hby at_0) rfl k) ?_
  refine own_go (B := (s₁.setTop (mkF m 2 #[.val (.int p0), .val (.int p1), .unset, .unset, .unset, .unset, .unset, .unset, .unset] [(.int (p0.toUInt32.toUInt16.toUInt32.toInt32))]))) (fun t k => XS.i2c X0.here hx rfl (hb hby at_1) rfl k) ?_
  refine own_go (B := (s₁.setTop (mkF m 3 #[.val (.int p0), .val (.int p1), .val (.int (p0.toUInt32.toUInt16.toUInt32.toInt32)), .unset, .unset, .unset, .unset, .unset, .unset] []))) (fun t k => XS.istoreN X0.here hx rfl (hb hby at_2) rfl (l' := #[.val (.int p0), .val (.int p1), .val (.int (p0.toUInt32.toUInt16.toUInt32.toInt32)), .unset, .unset, .unset, .unset, .unset, .unset]) rfl k) ?_
  refine own_go (B := (s₁.setTop (mkF m 4 #[.val (.int p0), .val (.int p1), .val (.int (p0.toUInt32.toUInt16.toUInt32.toInt32)), .unset, .unset, .unset, .unset, .unset, .unset] [(.int (p0.toUInt32.toUInt16.toUInt32.toInt32))]))) (fun t k => XS.iloadN X0.here hx rfl (hb hby at_3) rfl k) ?_
  obtain ⟨_, _, ⟨T1, L1, k1, n1⟩, -, X1, ⟨Lc1, hQ1, l1, y1, z1⟩, st1⟩ := Jvm.LawKit.callS X0 hx (y := (⟨"com/example/loopwise/loopwise/frontend/KeptBytes", "keptByte", "(C)I"⟩ : MethodName)) hown (mvT hZ (hw _ (List.mem_of_getElem? (i := 0) rfl))) (mvT hZ (hw _ (List.mem_of_getElem? (i := 1) rfl))) (mvT hZ (hw _ (List.mem_of_getElem? (i := 2) rfl))) (mvT hZ (hw _ (List.mem_of_getElem? (i := 3) rfl))) (by decide) (backOf (W := 0) (rm1 l Z a0 hw [] (p0.toUInt32.toUInt16.toUInt32.toInt32)  h0 n0 ) hZ (hw _ (List.mem_of_getElem? (i := 3) rfl)) (hw _ (List.mem_of_getElem? (i := 2) rfl)) (by decide) (by decide)) (g := (mkF m 4 #[.val (.int p0), .val (.int p1), .val (.int (p0.toUInt32.toUInt16.toUInt32.toInt32)), .unset, .unset, .unset, .unset, .unset, .unset] [(.int (p0.toUInt32.toUInt16.toUInt32.toInt32))])) rfl (by rw [hml]; rfl) (argsL := [(.int (p0.toUInt32.toUInt16.toUInt32.toInt32))]) (rest := []) (lenOf pd_0_0 rfl) rfl (by show 2 * 0 + _ ≤ _; exact Nat.le_of_eq rfl) (hb hby at_4) (fun _ _ => ⟨rfl, e0, (by decide : 0 + 0 ≤ _), (by decide : 0 + 0 ≤ _)⟩)
  dsimp only [Pt.U, Pt.locs, Pt.cells, Pt.slots] at X1 l1 y1 z1 st1 hQ1
  subst l1 y1 z1
  obtain ⟨rfl, N1q, e1⟩ := hQ1
  replace e1 := e1
  have N1 := Fr.app N0 N1q
  refine own_go (B := (T1.setTop (mkF m 7 #[.val (.int p0), .val (.int p1), .val (.int (p0.toUInt32.toUInt16.toUInt32.toInt32)), .unset, .unset, .unset, .unset, .unset, .unset] [(.int (F1 (p0.toUInt32.toUInt16.toUInt32.toInt32)))]))) (fun t k => st1 _ k) ?_
  refine own_go (B := (T1.setTop (mkF m 8 #[.val (.int p0), .val (.int p1), .val (.int (p0.toUInt32.toUInt16.toUInt32.toInt32)), .val (.int (F1 (p0.toUInt32.toUInt16.toUInt32.toInt32))), .unset, .unset, .unset, .unset, .unset] []))) (fun t k => XS.istoreN X1.here hx rfl (hb hby at_7) rfl (l' := #[.val (.int p0), .val (.int p1), .val (.int (p0.toUInt32.toUInt16.toUInt32.toInt32)), .val (.int (F1 (p0.toUInt32.toUInt16.toUInt32.toInt32))), .unset, .unset, .unset, .unset, .unset]) rfl k) ?_
  refine own_go (B := (T1.setTop (mkF m 9 #[.val (.int p0), .val (.int p1), .val (.int (p0.toUInt32.toUInt16.toUInt32.toInt32)), .val (.int (F1 (p0.toUInt32.toUInt16.toUInt32.toInt32))), .unset, .unset, .unset, .unset, .unset] [(.int (p0.toUInt32.toUInt16.toUInt32.toInt32))]))) (fun t k => XS.iloadN X1.here hx rfl (hb hby at_8) rfl k) ?_
  refine own_go (B := (T1.setTop (mkF m 11 #[.val (.int p0), .val (.int p1), .val (.int (p0.toUInt32.toUInt16.toUInt32.toInt32)), .val (.int (F1 (p0.toUInt32.toUInt16.toUInt32.toInt32))), .unset, .unset, .unset, .unset, .unset] [(.int (56320 : Int32)), (.int (p0.toUInt32.toUInt16.toUInt32.toInt32))]))) (fun t k => X1.ldcInt hx hown (mvT hZ (hw _ (List.mem_of_getElem? (i := 5) rfl))) (g := (mkF m 9 #[.val (.int p0), .val (.int p1), .val (.int (p0.toUInt32.toUInt16.toUInt32.toInt32)), .val (.int (F1 (p0.toUInt32.toUInt16.toUInt32.toInt32))), .unset, .unset, .unset, .unset, .unset] [(.int (p0.toUInt32.toUInt16.toUInt32.toInt32))])) rfl (hb hby at_9) _ k) ?_
  by_cases hc11 : (p0.toUInt32.toUInt16.toUInt32.toInt32) < (56320 : Int32)
  · refine own_go (B := (T1.setTop (mkF m 24 #[.val (.int p0), .val (.int p1), .val (.int (p0.toUInt32.toUInt16.toUInt32.toInt32)), .val (.int (F1 (p0.toUInt32.toUInt16.toUInt32.toInt32))), .unset, .unset, .unset, .unset, .unset] []))) (fun t k => XS.icmpYes X1.here hx rfl (pc0 := 11) (pc' := 24) rfl (hb hby at_11) rfl (tlt hc11).1 (by decide) (by decide) k) ?_
    refine own_go (B := (T1.setTop (mkF m 25 #[.val (.int p0), .val (.int p1), .val (.int (p0.toUInt32.toUInt16.toUInt32.toInt32)), .val (.int (F1 (p0.toUInt32.toUInt16.toUInt32.toInt32))), .unset, .unset, .unset, .unset, .unset] [(.int (0 : Int32))]))) (fun t k => XS.iconst X1.here hx rfl (hb hby at_24) k) ?_
    refine own_go (B := (T1.setTop (mkF m 27 #[.val (.int p0), .val (.int p1), .val (.int (p0.toUInt32.toUInt16.toUInt32.toInt32)), .val (.int (F1 (p0.toUInt32.toUInt16.toUInt32.toInt32))), .val (.int (0 : Int32)), .unset, .unset, .unset, .unset] []))) (fun t k => XS.istore X1.here hx rfl (hb hby at_25) rfl (l' := #[.val (.int p0), .val (.int p1), .val (.int (p0.toUInt32.toUInt16.toUInt32.toInt32)), .val (.int (F1 (p0.toUInt32.toUInt16.toUInt32.toInt32))), .val (.int (0 : Int32)), .unset, .unset, .unset, .unset]) rfl k) ?_
    refine own_go (B := (T1.setTop (mkF m 29 #[.val (.int p0), .val (.int p1), .val (.int (p0.toUInt32.toUInt16.toUInt32.toInt32)), .val (.int (F1 (p0.toUInt32.toUInt16.toUInt32.toInt32))), .val (.int (0 : Int32)), .unset, .unset, .unset, .unset] [(.int (0 : Int32))]))) (fun t k => XS.iload X1.here hx rfl (hb hby at_27) rfl k) ?_
    refine own_go (B := (T1.setTop (mkF m 61 #[.val (.int p0), .val (.int p1), .val (.int (p0.toUInt32.toUInt16.toUInt32.toInt32)), .val (.int (F1 (p0.toUInt32.toUInt16.toUInt32.toInt32))), .val (.int (0 : Int32)), .unset, .unset, .unset, .unset] []))) (fun t k => XS.ifYes X1.here hx rfl (pc0 := 29) (pc' := 61) rfl (hb hby at_29) rfl ((if0 _ _).trans (teq (by decide)).1) (by decide) (by decide) k) ?_
    refine own_go (B := (T1.setTop (mkF m 62 #[.val (.int p0), .val (.int p1), .val (.int (p0.toUInt32.toUInt16.toUInt32.toInt32)), .val (.int (F1 (p0.toUInt32.toUInt16.toUInt32.toInt32))), .val (.int (0 : Int32)), .unset, .unset, .unset, .unset] [(.int (F1 (p0.toUInt32.toUInt16.toUInt32.toInt32)))]))) (fun t k => XS.iloadN X1.here hx rfl (hb hby at_61) rfl k) ?_
    refine own_go (B := (T1.setTop (mkF m 63 #[.val (.int p0), .val (.int p1), .val (.int (p0.toUInt32.toUInt16.toUInt32.toInt32)), .val (.int (F1 (p0.toUInt32.toUInt16.toUInt32.toInt32))), .val (.int (0 : Int32)), .unset, .unset, .unset, .unset] [(.int (-1 : Int32)), (.int (F1 (p0.toUInt32.toUInt16.toUInt32.toInt32)))]))) (fun t k => XS.iconst X1.here hx rfl (hb hby at_62) k) ?_
    refine own_go (B := (T1.setTop (mkF m 66 #[.val (.int p0), .val (.int p1), .val (.int (p0.toUInt32.toUInt16.toUInt32.toInt32)), .val (.int (F1 (p0.toUInt32.toUInt16.toUInt32.toInt32))), .val (.int (0 : Int32)), .unset, .unset, .unset, .unset] []))) (fun t k => XS.icmpNo X1.here hx rfl (hb hby at_63) rfl (teq (own_out (c_i2c p0).2 (Or.inl hc11))).2 k) ?_
    refine own_go (B := (T1.setTop (mkF m 67 #[.val (.int p0), .val (.int p1), .val (.int (p0.toUInt32.toUInt16.toUInt32.toInt32)), .val (.int (F1 (p0.toUInt32.toUInt16.toUInt32.toInt32))), .val (.int (0 : Int32)), .unset, .unset, .unset, .unset] [(.int (1 : Int32))]))) (fun t k => XS.iconst X1.here hx rfl (hb hby at_66) k) ?_
    refine own_go (B := (T1.setTop (mkF m 71 #[.val (.int p0), .val (.int p1), .val (.int (p0.toUInt32.toUInt16.toUInt32.toInt32)), .val (.int (F1 (p0.toUInt32.toUInt16.toUInt32.toInt32))), .val (.int (0 : Int32)), .unset, .unset, .unset, .unset] [(.int (1 : Int32))]))) (fun t k => XS.goto X1.here hx rfl (pc0 := 67) (pc' := 71) rfl (hb hby at_67) (by decide) (by decide) k) ?_
    refine own_go (B := (T1.setTop (mkF m 73 #[.val (.int p0), .val (.int p1), .val (.int (p0.toUInt32.toUInt16.toUInt32.toInt32)), .val (.int (F1 (p0.toUInt32.toUInt16.toUInt32.toInt32))), .val (.int (0 : Int32)), .val (.int (1 : Int32)), .unset, .unset, .unset] []))) (fun t k => XS.istore X1.here hx rfl (hb hby at_71) rfl (l' := #[.val (.int p0), .val (.int p1), .val (.int (p0.toUInt32.toUInt16.toUInt32.toInt32)), .val (.int (F1 (p0.toUInt32.toUInt16.toUInt32.toInt32))), .val (.int (0 : Int32)), .val (.int (1 : Int32)), .unset, .unset, .unset]) rfl k) ?_
    refine own_go (B := (T1.setTop (mkF m 74 #[.val (.int p0), .val (.int p1), .val (.int (p0.toUInt32.toUInt16.toUInt32.toInt32)), .val (.int (F1 (p0.toUInt32.toUInt16.toUInt32.toInt32))), .val (.int (0 : Int32)), .val (.int (1 : Int32)), .unset, .unset, .unset] [(.int p1)]))) (fun t k => XS.iloadN X1.here hx rfl (hb hby at_73) rfl k) ?_
    refine own_go (B := (T1.setTop (mkF m 77 #[.val (.int p0), .val (.int p1), .val (.int (p0.toUInt32.toUInt16.toUInt32.toInt32)), .val (.int (F1 (p0.toUInt32.toUInt16.toUInt32.toInt32))), .val (.int (0 : Int32)), .val (.int (1 : Int32)), .unset, .unset, .unset] [(.int (255 : Int32)), (.int p1)]))) (fun t k => XS.sipush X1.here hx rfl (hb hby at_74) k) ?_
    refine own_go (B := (T1.setTop (mkF m 78 #[.val (.int p0), .val (.int p1), .val (.int (p0.toUInt32.toUInt16.toUInt32.toInt32)), .val (.int (F1 (p0.toUInt32.toUInt16.toUInt32.toInt32))), .val (.int (0 : Int32)), .val (.int (1 : Int32)), .unset, .unset, .unset] [(.int (p1 &&& (255 : Int32)))]))) (fun t k => XS.iand X1.here hx rfl (hb hby at_77) rfl k) ?_
    refine own_go (B := (T1.setTop (mkF m 80 #[.val (.int p0), .val (.int p1), .val (.int (p0.toUInt32.toUInt16.toUInt32.toInt32)), .val (.int (F1 (p0.toUInt32.toUInt16.toUInt32.toInt32))), .val (.int (0 : Int32)), .val (.int (1 : Int32)), .val (.int (p1 &&& (255 : Int32))), .unset, .unset] []))) (fun t k => XS.istore X1.here hx rfl (hb hby at_78) rfl (l' := #[.val (.int p0), .val (.int p1), .val (.int (p0.toUInt32.toUInt16.toUInt32.toInt32)), .val (.int (F1 (p0.toUInt32.toUInt16.toUInt32.toInt32))), .val (.int (0 : Int32)), .val (.int (1 : Int32)), .val (.int (p1 &&& (255 : Int32))), .unset, .unset]) rfl k) ?_
    refine own_go (B := (T1.setTop (mkF m 82 #[.val (.int p0), .val (.int p1), .val (.int (p0.toUInt32.toUInt16.toUInt32.toInt32)), .val (.int (F1 (p0.toUInt32.toUInt16.toUInt32.toInt32))), .val (.int (0 : Int32)), .val (.int (1 : Int32)), .val (.int (p1 &&& (255 : Int32))), .unset, .unset] [(.int (56320 : Int32))]))) (fun t k => X1.ldcInt hx hown (mvT hZ (hw _ (List.mem_of_getElem? (i := 5) rfl))) (g := (mkF m 80 #[.val (.int p0), .val (.int p1), .val (.int (p0.toUInt32.toUInt16.toUInt32.toInt32)), .val (.int (F1 (p0.toUInt32.toUInt16.toUInt32.toInt32))), .val (.int (0 : Int32)), .val (.int (1 : Int32)), .val (.int (p1 &&& (255 : Int32))), .unset, .unset] [])) rfl (hb hby at_80) _ k) ?_
    refine own_go (B := (T1.setTop (mkF m 84 #[.val (.int p0), .val (.int p1), .val (.int (p0.toUInt32.toUInt16.toUInt32.toInt32)), .val (.int (F1 (p0.toUInt32.toUInt16.toUInt32.toInt32))), .val (.int (0 : Int32)), .val (.int (1 : Int32)), .val (.int (p1 &&& (255 : Int32))), .unset, .unset] [(.int (p1 &&& (255 : Int32))), (.int (56320 : Int32))]))) (fun t k => XS.iload X1.here hx rfl (hb hby at_82) rfl k) ?_
    refine own_go (B := (T1.setTop (mkF m 85 #[.val (.int p0), .val (.int p1), .val (.int (p0.toUInt32.toUInt16.toUInt32.toInt32)), .val (.int (F1 (p0.toUInt32.toUInt16.toUInt32.toInt32))), .val (.int (0 : Int32)), .val (.int (1 : Int32)), .val (.int (p1 &&& (255 : Int32))), .unset, .unset] [(.int ((56320 : Int32) + (p1 &&& (255 : Int32))))]))) (fun t k => XS.iadd X1.here hx rfl (hb hby at_84) rfl k) ?_
    refine own_go (B := (T1.setTop (mkF m 86 #[.val (.int p0), .val (.int p1), .val (.int (p0.toUInt32.toUInt16.toUInt32.toInt32)), .val (.int (F1 (p0.toUInt32.toUInt16.toUInt32.toInt32))), .val (.int (0 : Int32)), .val (.int (1 : Int32)), .val (.int (p1 &&& (255 : Int32))), .unset, .unset] [(.int (((56320 : Int32) + (p1 &&& (255 : Int32))).toUInt32.toUInt16.toUInt32.toInt32))]))) (fun t k => XS.i2c X1.here hx rfl (hb hby at_85) rfl k) ?_
    refine own_go (B := (T1.setTop (mkF m 88 #[.val (.int p0), .val (.int p1), .val (.int (p0.toUInt32.toUInt16.toUInt32.toInt32)), .val (.int (F1 (p0.toUInt32.toUInt16.toUInt32.toInt32))), .val (.int (0 : Int32)), .val (.int (1 : Int32)), .val (.int (p1 &&& (255 : Int32))), .val (.int (((56320 : Int32) + (p1 &&& (255 : Int32))).toUInt32.toUInt16.toUInt32.toInt32)), .unset] []))) (fun t k => XS.istore X1.here hx rfl (hb hby at_86) rfl (l' := #[.val (.int p0), .val (.int p1), .val (.int (p0.toUInt32.toUInt16.toUInt32.toInt32)), .val (.int (F1 (p0.toUInt32.toUInt16.toUInt32.toInt32))), .val (.int (0 : Int32)), .val (.int (1 : Int32)), .val (.int (p1 &&& (255 : Int32))), .val (.int (((56320 : Int32) + (p1 &&& (255 : Int32))).toUInt32.toUInt16.toUInt32.toInt32)), .unset]) rfl k) ?_
    refine own_go (B := (T1.setTop (mkF m 90 #[.val (.int p0), .val (.int p1), .val (.int (p0.toUInt32.toUInt16.toUInt32.toInt32)), .val (.int (F1 (p0.toUInt32.toUInt16.toUInt32.toInt32))), .val (.int (0 : Int32)), .val (.int (1 : Int32)), .val (.int (p1 &&& (255 : Int32))), .val (.int (((56320 : Int32) + (p1 &&& (255 : Int32))).toUInt32.toUInt16.toUInt32.toInt32)), .unset] [(.int (((56320 : Int32) + (p1 &&& (255 : Int32))).toUInt32.toUInt16.toUInt32.toInt32))]))) (fun t k => XS.iload X1.here hx rfl (hb hby at_88) rfl k) ?_
    obtain ⟨_, _, ⟨T2, L2, k2, n2⟩, -, X2, ⟨Lc2, hQ2, l2, y2, z2⟩, st2⟩ := Jvm.LawKit.callS X1 hx (y := (⟨"com/example/loopwise/loopwise/frontend/KeptBytes", "keptByte", "(C)I"⟩ : MethodName)) hown (mvT hZ (hw _ (List.mem_of_getElem? (i := 0) rfl))) (mvT hZ (hw _ (List.mem_of_getElem? (i := 1) rfl))) (mvT hZ (hw _ (List.mem_of_getElem? (i := 2) rfl))) (mvT hZ (hw _ (List.mem_of_getElem? (i := 3) rfl))) (by decide) (backOf (W := 0) (rm1 l Z a0 hw [] (((56320 : Int32) + (p1 &&& (255 : Int32))).toUInt32.toUInt16.toUInt32.toInt32)  h0 n0 ) hZ (hw _ (List.mem_of_getElem? (i := 3) rfl)) (hw _ (List.mem_of_getElem? (i := 2) rfl)) (by decide) (by decide)) (g := (mkF m 90 #[.val (.int p0), .val (.int p1), .val (.int (p0.toUInt32.toUInt16.toUInt32.toInt32)), .val (.int (F1 (p0.toUInt32.toUInt16.toUInt32.toInt32))), .val (.int (0 : Int32)), .val (.int (1 : Int32)), .val (.int (p1 &&& (255 : Int32))), .val (.int (((56320 : Int32) + (p1 &&& (255 : Int32))).toUInt32.toUInt16.toUInt32.toInt32)), .unset] [(.int (((56320 : Int32) + (p1 &&& (255 : Int32))).toUInt32.toUInt16.toUInt32.toInt32))])) rfl (by rw [hml]; rfl) (argsL := [(.int (((56320 : Int32) + (p1 &&& (255 : Int32))).toUInt32.toUInt16.toUInt32.toInt32))]) (rest := []) (lenOf pd_0_0 rfl) rfl (by show 2 * 0 + _ ≤ _; exact Nat.le_of_eq rfl) (hb hby at_90) (fun _ _ => ⟨rfl, e1, (by decide : (0 + 0) + 0 ≤ _), (by decide : (0 + 0) + 0 ≤ _)⟩)
    dsimp only [Pt.U, Pt.locs, Pt.cells, Pt.slots] at X2 l2 y2 z2 st2 hQ2
    subst l2 y2 z2
    obtain ⟨rfl, N2q, e2⟩ := hQ2
    replace e2 := e2
    have N2 := Fr.app N1 N2q
    refine own_go (B := (T2.setTop (mkF m 93 #[.val (.int p0), .val (.int p1), .val (.int (p0.toUInt32.toUInt16.toUInt32.toInt32)), .val (.int (F1 (p0.toUInt32.toUInt16.toUInt32.toInt32))), .val (.int (0 : Int32)), .val (.int (1 : Int32)), .val (.int (p1 &&& (255 : Int32))), .val (.int (((56320 : Int32) + (p1 &&& (255 : Int32))).toUInt32.toUInt16.toUInt32.toInt32)), .unset] [(.int (F1 (((56320 : Int32) + (p1 &&& (255 : Int32))).toUInt32.toUInt16.toUInt32.toInt32)))]))) (fun t k => st2 _ k) ?_
    refine own_go (B := (T2.setTop (mkF m 95 #[.val (.int p0), .val (.int p1), .val (.int (p0.toUInt32.toUInt16.toUInt32.toInt32)), .val (.int (F1 (p0.toUInt32.toUInt16.toUInt32.toInt32))), .val (.int (0 : Int32)), .val (.int (1 : Int32)), .val (.int (p1 &&& (255 : Int32))), .val (.int (((56320 : Int32) + (p1 &&& (255 : Int32))).toUInt32.toUInt16.toUInt32.toInt32)), .unset] [(.int (p1 &&& (255 : Int32))), (.int (F1 (((56320 : Int32) + (p1 &&& (255 : Int32))).toUInt32.toUInt16.toUInt32.toInt32)))]))) (fun t k => XS.iload X2.here hx rfl (hb hby at_93) rfl k) ?_
    refine own_go (B := (T2.setTop (mkF m 98 #[.val (.int p0), .val (.int p1), .val (.int (p0.toUInt32.toUInt16.toUInt32.toInt32)), .val (.int (F1 (p0.toUInt32.toUInt16.toUInt32.toInt32))), .val (.int (0 : Int32)), .val (.int (1 : Int32)), .val (.int (p1 &&& (255 : Int32))), .val (.int (((56320 : Int32) + (p1 &&& (255 : Int32))).toUInt32.toUInt16.toUInt32.toInt32)), .unset] []))) (fun t k => XS.icmpNo X2.here hx rfl (hb hby at_95) rfl (teq (own_kept p1)).2 k) ?_
    refine own_go (B := (T2.setTop (mkF m 99 #[.val (.int p0), .val (.int p1), .val (.int (p0.toUInt32.toUInt16.toUInt32.toInt32)), .val (.int (F1 (p0.toUInt32.toUInt16.toUInt32.toInt32))), .val (.int (0 : Int32)), .val (.int (1 : Int32)), .val (.int (p1 &&& (255 : Int32))), .val (.int (((56320 : Int32) + (p1 &&& (255 : Int32))).toUInt32.toUInt16.toUInt32.toInt32)), .unset] [(.int (1 : Int32))]))) (fun t k => XS.iconst X2.here hx rfl (hb hby at_98) k) ?_
    refine own_go (B := (T2.setTop (mkF m 103 #[.val (.int p0), .val (.int p1), .val (.int (p0.toUInt32.toUInt16.toUInt32.toInt32)), .val (.int (F1 (p0.toUInt32.toUInt16.toUInt32.toInt32))), .val (.int (0 : Int32)), .val (.int (1 : Int32)), .val (.int (p1 &&& (255 : Int32))), .val (.int (((56320 : Int32) + (p1 &&& (255 : Int32))).toUInt32.toUInt16.toUInt32.toInt32)), .unset] [(.int (1 : Int32))]))) (fun t k => XS.goto X2.here hx rfl (pc0 := 99) (pc' := 103) rfl (hb hby at_99) (by decide) (by decide) k) ?_
    refine own_go (B := (T2.setTop (mkF m 105 #[.val (.int p0), .val (.int p1), .val (.int (p0.toUInt32.toUInt16.toUInt32.toInt32)), .val (.int (F1 (p0.toUInt32.toUInt16.toUInt32.toInt32))), .val (.int (0 : Int32)), .val (.int (1 : Int32)), .val (.int (p1 &&& (255 : Int32))), .val (.int (((56320 : Int32) + (p1 &&& (255 : Int32))).toUInt32.toUInt16.toUInt32.toInt32)), .val (.int (1 : Int32))] []))) (fun t k => XS.istore X2.here hx rfl (hb hby at_103) rfl (l' := #[.val (.int p0), .val (.int p1), .val (.int (p0.toUInt32.toUInt16.toUInt32.toInt32)), .val (.int (F1 (p0.toUInt32.toUInt16.toUInt32.toInt32))), .val (.int (0 : Int32)), .val (.int (1 : Int32)), .val (.int (p1 &&& (255 : Int32))), .val (.int (((56320 : Int32) + (p1 &&& (255 : Int32))).toUInt32.toUInt16.toUInt32.toInt32)), .val (.int (1 : Int32))]) rfl k) ?_
    refine own_go (B := (T2.setTop (mkF m 107 #[.val (.int p0), .val (.int p1), .val (.int (p0.toUInt32.toUInt16.toUInt32.toInt32)), .val (.int (F1 (p0.toUInt32.toUInt16.toUInt32.toInt32))), .val (.int (0 : Int32)), .val (.int (1 : Int32)), .val (.int (p1 &&& (255 : Int32))), .val (.int (((56320 : Int32) + (p1 &&& (255 : Int32))).toUInt32.toUInt16.toUInt32.toInt32)), .val (.int (1 : Int32))] [(.int (1 : Int32))]))) (fun t k => XS.iload X2.here hx rfl (hb hby at_105) rfl k) ?_
    refine own_go (B := (T2.setTop (mkF m 110 #[.val (.int p0), .val (.int p1), .val (.int (p0.toUInt32.toUInt16.toUInt32.toInt32)), .val (.int (F1 (p0.toUInt32.toUInt16.toUInt32.toInt32))), .val (.int (0 : Int32)), .val (.int (1 : Int32)), .val (.int (p1 &&& (255 : Int32))), .val (.int (((56320 : Int32) + (p1 &&& (255 : Int32))).toUInt32.toUInt16.toUInt32.toInt32)), .val (.int (1 : Int32))] []))) (fun t k => XS.ifNo X2.here hx rfl (hb hby at_107) rfl ((if0 _ _).trans (feq (by decide)).1) k) ?_
    refine own_go (B := (T2.setTop (mkF m 112 #[.val (.int p0), .val (.int p1), .val (.int (p0.toUInt32.toUInt16.toUInt32.toInt32)), .val (.int (F1 (p0.toUInt32.toUInt16.toUInt32.toInt32))), .val (.int (0 : Int32)), .val (.int (1 : Int32)), .val (.int (p1 &&& (255 : Int32))), .val (.int (((56320 : Int32) + (p1 &&& (255 : Int32))).toUInt32.toUInt16.toUInt32.toInt32)), .val (.int (1 : Int32))] [(.int (1 : Int32))]))) (fun t k => XS.iload X2.here hx rfl (hb hby at_110) rfl k) ?_
    refine own_go (B := (T2.setTop (mkF m 115 #[.val (.int p0), .val (.int p1), .val (.int (p0.toUInt32.toUInt16.toUInt32.toInt32)), .val (.int (F1 (p0.toUInt32.toUInt16.toUInt32.toInt32))), .val (.int (0 : Int32)), .val (.int (1 : Int32)), .val (.int (p1 &&& (255 : Int32))), .val (.int (((56320 : Int32) + (p1 &&& (255 : Int32))).toUInt32.toUInt16.toUInt32.toInt32)), .val (.int (1 : Int32))] []))) (fun t k => XS.ifNo X2.here hx rfl (hb hby at_112) rfl ((if0 _ _).trans (feq (by decide)).1) k) ?_
    refine own_go (B := (T2.setTop (mkF m 116 #[.val (.int p0), .val (.int p1), .val (.int (p0.toUInt32.toUInt16.toUInt32.toInt32)), .val (.int (F1 (p0.toUInt32.toUInt16.toUInt32.toInt32))), .val (.int (0 : Int32)), .val (.int (1 : Int32)), .val (.int (p1 &&& (255 : Int32))), .val (.int (((56320 : Int32) + (p1 &&& (255 : Int32))).toUInt32.toUInt16.toUInt32.toInt32)), .val (.int (1 : Int32))] [(.int (1 : Int32))]))) (fun t k => XS.iconst X2.here hx rfl (hb hby at_115) k) ?_
    refine own_go (B := (T2.setTop (mkF m 120 #[.val (.int p0), .val (.int p1), .val (.int (p0.toUInt32.toUInt16.toUInt32.toInt32)), .val (.int (F1 (p0.toUInt32.toUInt16.toUInt32.toInt32))), .val (.int (0 : Int32)), .val (.int (1 : Int32)), .val (.int (p1 &&& (255 : Int32))), .val (.int (((56320 : Int32) + (p1 &&& (255 : Int32))).toUInt32.toUInt16.toUInt32.toInt32)), .val (.int (1 : Int32))] [(.int (1 : Int32))]))) (fun t k => XS.goto X2.here hx rfl (pc0 := 116) (pc' := 120) rfl (hb hby at_116) (by decide) (by decide) k) ?_
    obtain ⟨fs, hr, hrun, hended, hW, hsame⟩ := X2.leave (v := some (.int (1 : Int32))) (fun h => by rw [Bd.returns] at h; cases h)
    exact ⟨_, _, retN X2 hx (t := .boolean) Bd.returns (by simp) (hb hby at_120) hr, hrun, hended, _, _, rfl, ⟨rfl, N2⟩, ⟨_, rfl⟩, hW, hsame.mono (by decide) (by decide)⟩
  · refine own_go (B := (T1.setTop (mkF m 14 #[.val (.int p0), .val (.int p1), .val (.int (p0.toUInt32.toUInt16.toUInt32.toInt32)), .val (.int (F1 (p0.toUInt32.toUInt16.toUInt32.toInt32))), .unset, .unset, .unset, .unset, .unset] []))) (fun t k => XS.icmpNo X1.here hx rfl (hb hby at_11) rfl (flt hc11).1 k) ?_
    refine own_go (B := (T1.setTop (mkF m 15 #[.val (.int p0), .val (.int p1), .val (.int (p0.toUInt32.toUInt16.toUInt32.toInt32)), .val (.int (F1 (p0.toUInt32.toUInt16.toUInt32.toInt32))), .unset, .unset, .unset, .unset, .unset] [(.int (p0.toUInt32.toUInt16.toUInt32.toInt32))]))) (fun t k => XS.iloadN X1.here hx rfl (hb hby at_14) rfl k) ?_
    refine own_go (B := (T1.setTop (mkF m 17 #[.val (.int p0), .val (.int p1), .val (.int (p0.toUInt32.toUInt16.toUInt32.toInt32)), .val (.int (F1 (p0.toUInt32.toUInt16.toUInt32.toInt32))), .unset, .unset, .unset, .unset, .unset] [(.int (56575 : Int32)), (.int (p0.toUInt32.toUInt16.toUInt32.toInt32))]))) (fun t k => X1.ldcInt hx hown (mvT hZ (hw _ (List.mem_of_getElem? (i := 6) rfl))) (g := (mkF m 15 #[.val (.int p0), .val (.int p1), .val (.int (p0.toUInt32.toUInt16.toUInt32.toInt32)), .val (.int (F1 (p0.toUInt32.toUInt16.toUInt32.toInt32))), .unset, .unset, .unset, .unset, .unset] [(.int (p0.toUInt32.toUInt16.toUInt32.toInt32))])) rfl (hb hby at_15) _ k) ?_
    by_cases hc17 : (56575 : Int32) < (p0.toUInt32.toUInt16.toUInt32.toInt32)
    · refine own_go (B := (T1.setTop (mkF m 24 #[.val (.int p0), .val (.int p1), .val (.int (p0.toUInt32.toUInt16.toUInt32.toInt32)), .val (.int (F1 (p0.toUInt32.toUInt16.toUInt32.toInt32))), .unset, .unset, .unset, .unset, .unset] []))) (fun t k => XS.icmpYes X1.here hx rfl (pc0 := 17) (pc' := 24) rfl (hb hby at_17) rfl (tlt hc17).2.2.1 (by decide) (by decide) k) ?_
      refine own_go (B := (T1.setTop (mkF m 25 #[.val (.int p0), .val (.int p1), .val (.int (p0.toUInt32.toUInt16.toUInt32.toInt32)), .val (.int (F1 (p0.toUInt32.toUInt16.toUInt32.toInt32))), .unset, .unset, .unset, .unset, .unset] [(.int (0 : Int32))]))) (fun t k => XS.iconst X1.here hx rfl (hb hby at_24) k) ?_
      refine own_go (B := (T1.setTop (mkF m 27 #[.val (.int p0), .val (.int p1), .val (.int (p0.toUInt32.toUInt16.toUInt32.toInt32)), .val (.int (F1 (p0.toUInt32.toUInt16.toUInt32.toInt32))), .val (.int (0 : Int32)), .unset, .unset, .unset, .unset] []))) (fun t k => XS.istore X1.here hx rfl (hb hby at_25) rfl (l' := #[.val (.int p0), .val (.int p1), .val (.int (p0.toUInt32.toUInt16.toUInt32.toInt32)), .val (.int (F1 (p0.toUInt32.toUInt16.toUInt32.toInt32))), .val (.int (0 : Int32)), .unset, .unset, .unset, .unset]) rfl k) ?_
      refine own_go (B := (T1.setTop (mkF m 29 #[.val (.int p0), .val (.int p1), .val (.int (p0.toUInt32.toUInt16.toUInt32.toInt32)), .val (.int (F1 (p0.toUInt32.toUInt16.toUInt32.toInt32))), .val (.int (0 : Int32)), .unset, .unset, .unset, .unset] [(.int (0 : Int32))]))) (fun t k => XS.iload X1.here hx rfl (hb hby at_27) rfl k) ?_
      refine own_go (B := (T1.setTop (mkF m 61 #[.val (.int p0), .val (.int p1), .val (.int (p0.toUInt32.toUInt16.toUInt32.toInt32)), .val (.int (F1 (p0.toUInt32.toUInt16.toUInt32.toInt32))), .val (.int (0 : Int32)), .unset, .unset, .unset, .unset] []))) (fun t k => XS.ifYes X1.here hx rfl (pc0 := 29) (pc' := 61) rfl (hb hby at_29) rfl ((if0 _ _).trans (teq (by decide)).1) (by decide) (by decide) k) ?_
      refine own_go (B := (T1.setTop (mkF m 62 #[.val (.int p0), .val (.int p1), .val (.int (p0.toUInt32.toUInt16.toUInt32.toInt32)), .val (.int (F1 (p0.toUInt32.toUInt16.toUInt32.toInt32))), .val (.int (0 : Int32)), .unset, .unset, .unset, .unset] [(.int (F1 (p0.toUInt32.toUInt16.toUInt32.toInt32)))]))) (fun t k => XS.iloadN X1.here hx rfl (hb hby at_61) rfl k) ?_
      refine own_go (B := (T1.setTop (mkF m 63 #[.val (.int p0), .val (.int p1), .val (.int (p0.toUInt32.toUInt16.toUInt32.toInt32)), .val (.int (F1 (p0.toUInt32.toUInt16.toUInt32.toInt32))), .val (.int (0 : Int32)), .unset, .unset, .unset, .unset] [(.int (-1 : Int32)), (.int (F1 (p0.toUInt32.toUInt16.toUInt32.toInt32)))]))) (fun t k => XS.iconst X1.here hx rfl (hb hby at_62) k) ?_
      refine own_go (B := (T1.setTop (mkF m 66 #[.val (.int p0), .val (.int p1), .val (.int (p0.toUInt32.toUInt16.toUInt32.toInt32)), .val (.int (F1 (p0.toUInt32.toUInt16.toUInt32.toInt32))), .val (.int (0 : Int32)), .unset, .unset, .unset, .unset] []))) (fun t k => XS.icmpNo X1.here hx rfl (hb hby at_63) rfl (teq (own_out (c_i2c p0).2 (Or.inr hc17))).2 k) ?_
      refine own_go (B := (T1.setTop (mkF m 67 #[.val (.int p0), .val (.int p1), .val (.int (p0.toUInt32.toUInt16.toUInt32.toInt32)), .val (.int (F1 (p0.toUInt32.toUInt16.toUInt32.toInt32))), .val (.int (0 : Int32)), .unset, .unset, .unset, .unset] [(.int (1 : Int32))]))) (fun t k => XS.iconst X1.here hx rfl (hb hby at_66) k) ?_
      refine own_go (B := (T1.setTop (mkF m 71 #[.val (.int p0), .val (.int p1), .val (.int (p0.toUInt32.toUInt16.toUInt32.toInt32)), .val (.int (F1 (p0.toUInt32.toUInt16.toUInt32.toInt32))), .val (.int (0 : Int32)), .unset, .unset, .unset, .unset] [(.int (1 : Int32))]))) (fun t k => XS.goto X1.here hx rfl (pc0 := 67) (pc' := 71) rfl (hb hby at_67) (by decide) (by decide) k) ?_
      refine own_go (B := (T1.setTop (mkF m 73 #[.val (.int p0), .val (.int p1), .val (.int (p0.toUInt32.toUInt16.toUInt32.toInt32)), .val (.int (F1 (p0.toUInt32.toUInt16.toUInt32.toInt32))), .val (.int (0 : Int32)), .val (.int (1 : Int32)), .unset, .unset, .unset] []))) (fun t k => XS.istore X1.here hx rfl (hb hby at_71) rfl (l' := #[.val (.int p0), .val (.int p1), .val (.int (p0.toUInt32.toUInt16.toUInt32.toInt32)), .val (.int (F1 (p0.toUInt32.toUInt16.toUInt32.toInt32))), .val (.int (0 : Int32)), .val (.int (1 : Int32)), .unset, .unset, .unset]) rfl k) ?_
      refine own_go (B := (T1.setTop (mkF m 74 #[.val (.int p0), .val (.int p1), .val (.int (p0.toUInt32.toUInt16.toUInt32.toInt32)), .val (.int (F1 (p0.toUInt32.toUInt16.toUInt32.toInt32))), .val (.int (0 : Int32)), .val (.int (1 : Int32)), .unset, .unset, .unset] [(.int p1)]))) (fun t k => XS.iloadN X1.here hx rfl (hb hby at_73) rfl k) ?_
      refine own_go (B := (T1.setTop (mkF m 77 #[.val (.int p0), .val (.int p1), .val (.int (p0.toUInt32.toUInt16.toUInt32.toInt32)), .val (.int (F1 (p0.toUInt32.toUInt16.toUInt32.toInt32))), .val (.int (0 : Int32)), .val (.int (1 : Int32)), .unset, .unset, .unset] [(.int (255 : Int32)), (.int p1)]))) (fun t k => XS.sipush X1.here hx rfl (hb hby at_74) k) ?_
      refine own_go (B := (T1.setTop (mkF m 78 #[.val (.int p0), .val (.int p1), .val (.int (p0.toUInt32.toUInt16.toUInt32.toInt32)), .val (.int (F1 (p0.toUInt32.toUInt16.toUInt32.toInt32))), .val (.int (0 : Int32)), .val (.int (1 : Int32)), .unset, .unset, .unset] [(.int (p1 &&& (255 : Int32)))]))) (fun t k => XS.iand X1.here hx rfl (hb hby at_77) rfl k) ?_
      refine own_go (B := (T1.setTop (mkF m 80 #[.val (.int p0), .val (.int p1), .val (.int (p0.toUInt32.toUInt16.toUInt32.toInt32)), .val (.int (F1 (p0.toUInt32.toUInt16.toUInt32.toInt32))), .val (.int (0 : Int32)), .val (.int (1 : Int32)), .val (.int (p1 &&& (255 : Int32))), .unset, .unset] []))) (fun t k => XS.istore X1.here hx rfl (hb hby at_78) rfl (l' := #[.val (.int p0), .val (.int p1), .val (.int (p0.toUInt32.toUInt16.toUInt32.toInt32)), .val (.int (F1 (p0.toUInt32.toUInt16.toUInt32.toInt32))), .val (.int (0 : Int32)), .val (.int (1 : Int32)), .val (.int (p1 &&& (255 : Int32))), .unset, .unset]) rfl k) ?_
      refine own_go (B := (T1.setTop (mkF m 82 #[.val (.int p0), .val (.int p1), .val (.int (p0.toUInt32.toUInt16.toUInt32.toInt32)), .val (.int (F1 (p0.toUInt32.toUInt16.toUInt32.toInt32))), .val (.int (0 : Int32)), .val (.int (1 : Int32)), .val (.int (p1 &&& (255 : Int32))), .unset, .unset] [(.int (56320 : Int32))]))) (fun t k => X1.ldcInt hx hown (mvT hZ (hw _ (List.mem_of_getElem? (i := 5) rfl))) (g := (mkF m 80 #[.val (.int p0), .val (.int p1), .val (.int (p0.toUInt32.toUInt16.toUInt32.toInt32)), .val (.int (F1 (p0.toUInt32.toUInt16.toUInt32.toInt32))), .val (.int (0 : Int32)), .val (.int (1 : Int32)), .val (.int (p1 &&& (255 : Int32))), .unset, .unset] [])) rfl (hb hby at_80) _ k) ?_
      refine own_go (B := (T1.setTop (mkF m 84 #[.val (.int p0), .val (.int p1), .val (.int (p0.toUInt32.toUInt16.toUInt32.toInt32)), .val (.int (F1 (p0.toUInt32.toUInt16.toUInt32.toInt32))), .val (.int (0 : Int32)), .val (.int (1 : Int32)), .val (.int (p1 &&& (255 : Int32))), .unset, .unset] [(.int (p1 &&& (255 : Int32))), (.int (56320 : Int32))]))) (fun t k => XS.iload X1.here hx rfl (hb hby at_82) rfl k) ?_
      refine own_go (B := (T1.setTop (mkF m 85 #[.val (.int p0), .val (.int p1), .val (.int (p0.toUInt32.toUInt16.toUInt32.toInt32)), .val (.int (F1 (p0.toUInt32.toUInt16.toUInt32.toInt32))), .val (.int (0 : Int32)), .val (.int (1 : Int32)), .val (.int (p1 &&& (255 : Int32))), .unset, .unset] [(.int ((56320 : Int32) + (p1 &&& (255 : Int32))))]))) (fun t k => XS.iadd X1.here hx rfl (hb hby at_84) rfl k) ?_
      refine own_go (B := (T1.setTop (mkF m 86 #[.val (.int p0), .val (.int p1), .val (.int (p0.toUInt32.toUInt16.toUInt32.toInt32)), .val (.int (F1 (p0.toUInt32.toUInt16.toUInt32.toInt32))), .val (.int (0 : Int32)), .val (.int (1 : Int32)), .val (.int (p1 &&& (255 : Int32))), .unset, .unset] [(.int (((56320 : Int32) + (p1 &&& (255 : Int32))).toUInt32.toUInt16.toUInt32.toInt32))]))) (fun t k => XS.i2c X1.here hx rfl (hb hby at_85) rfl k) ?_
      refine own_go (B := (T1.setTop (mkF m 88 #[.val (.int p0), .val (.int p1), .val (.int (p0.toUInt32.toUInt16.toUInt32.toInt32)), .val (.int (F1 (p0.toUInt32.toUInt16.toUInt32.toInt32))), .val (.int (0 : Int32)), .val (.int (1 : Int32)), .val (.int (p1 &&& (255 : Int32))), .val (.int (((56320 : Int32) + (p1 &&& (255 : Int32))).toUInt32.toUInt16.toUInt32.toInt32)), .unset] []))) (fun t k => XS.istore X1.here hx rfl (hb hby at_86) rfl (l' := #[.val (.int p0), .val (.int p1), .val (.int (p0.toUInt32.toUInt16.toUInt32.toInt32)), .val (.int (F1 (p0.toUInt32.toUInt16.toUInt32.toInt32))), .val (.int (0 : Int32)), .val (.int (1 : Int32)), .val (.int (p1 &&& (255 : Int32))), .val (.int (((56320 : Int32) + (p1 &&& (255 : Int32))).toUInt32.toUInt16.toUInt32.toInt32)), .unset]) rfl k) ?_
      refine own_go (B := (T1.setTop (mkF m 90 #[.val (.int p0), .val (.int p1), .val (.int (p0.toUInt32.toUInt16.toUInt32.toInt32)), .val (.int (F1 (p0.toUInt32.toUInt16.toUInt32.toInt32))), .val (.int (0 : Int32)), .val (.int (1 : Int32)), .val (.int (p1 &&& (255 : Int32))), .val (.int (((56320 : Int32) + (p1 &&& (255 : Int32))).toUInt32.toUInt16.toUInt32.toInt32)), .unset] [(.int (((56320 : Int32) + (p1 &&& (255 : Int32))).toUInt32.toUInt16.toUInt32.toInt32))]))) (fun t k => XS.iload X1.here hx rfl (hb hby at_88) rfl k) ?_
      obtain ⟨_, _, ⟨T3, L3, k3, n3⟩, -, X3, ⟨Lc3, hQ3, l3, y3, z3⟩, st3⟩ := Jvm.LawKit.callS X1 hx (y := (⟨"com/example/loopwise/loopwise/frontend/KeptBytes", "keptByte", "(C)I"⟩ : MethodName)) hown (mvT hZ (hw _ (List.mem_of_getElem? (i := 0) rfl))) (mvT hZ (hw _ (List.mem_of_getElem? (i := 1) rfl))) (mvT hZ (hw _ (List.mem_of_getElem? (i := 2) rfl))) (mvT hZ (hw _ (List.mem_of_getElem? (i := 3) rfl))) (by decide) (backOf (W := 0) (rm1 l Z a0 hw [] (((56320 : Int32) + (p1 &&& (255 : Int32))).toUInt32.toUInt16.toUInt32.toInt32)  h0 n0 ) hZ (hw _ (List.mem_of_getElem? (i := 3) rfl)) (hw _ (List.mem_of_getElem? (i := 2) rfl)) (by decide) (by decide)) (g := (mkF m 90 #[.val (.int p0), .val (.int p1), .val (.int (p0.toUInt32.toUInt16.toUInt32.toInt32)), .val (.int (F1 (p0.toUInt32.toUInt16.toUInt32.toInt32))), .val (.int (0 : Int32)), .val (.int (1 : Int32)), .val (.int (p1 &&& (255 : Int32))), .val (.int (((56320 : Int32) + (p1 &&& (255 : Int32))).toUInt32.toUInt16.toUInt32.toInt32)), .unset] [(.int (((56320 : Int32) + (p1 &&& (255 : Int32))).toUInt32.toUInt16.toUInt32.toInt32))])) rfl (by rw [hml]; rfl) (argsL := [(.int (((56320 : Int32) + (p1 &&& (255 : Int32))).toUInt32.toUInt16.toUInt32.toInt32))]) (rest := []) (lenOf pd_0_0 rfl) rfl (by show 2 * 0 + _ ≤ _; exact Nat.le_of_eq rfl) (hb hby at_90) (fun _ _ => ⟨rfl, e1, (by decide : (0 + 0) + 0 ≤ _), (by decide : (0 + 0) + 0 ≤ _)⟩)
      dsimp only [Pt.U, Pt.locs, Pt.cells, Pt.slots] at X3 l3 y3 z3 st3 hQ3
      subst l3 y3 z3
      obtain ⟨rfl, N3q, e3⟩ := hQ3
      replace e3 := e3
      have N3 := Fr.app N1 N3q
      refine own_go (B := (T3.setTop (mkF m 93 #[.val (.int p0), .val (.int p1), .val (.int (p0.toUInt32.toUInt16.toUInt32.toInt32)), .val (.int (F1 (p0.toUInt32.toUInt16.toUInt32.toInt32))), .val (.int (0 : Int32)), .val (.int (1 : Int32)), .val (.int (p1 &&& (255 : Int32))), .val (.int (((56320 : Int32) + (p1 &&& (255 : Int32))).toUInt32.toUInt16.toUInt32.toInt32)), .unset] [(.int (F1 (((56320 : Int32) + (p1 &&& (255 : Int32))).toUInt32.toUInt16.toUInt32.toInt32)))]))) (fun t k => st3 _ k) ?_
      refine own_go (B := (T3.setTop (mkF m 95 #[.val (.int p0), .val (.int p1), .val (.int (p0.toUInt32.toUInt16.toUInt32.toInt32)), .val (.int (F1 (p0.toUInt32.toUInt16.toUInt32.toInt32))), .val (.int (0 : Int32)), .val (.int (1 : Int32)), .val (.int (p1 &&& (255 : Int32))), .val (.int (((56320 : Int32) + (p1 &&& (255 : Int32))).toUInt32.toUInt16.toUInt32.toInt32)), .unset] [(.int (p1 &&& (255 : Int32))), (.int (F1 (((56320 : Int32) + (p1 &&& (255 : Int32))).toUInt32.toUInt16.toUInt32.toInt32)))]))) (fun t k => XS.iload X3.here hx rfl (hb hby at_93) rfl k) ?_
      refine own_go (B := (T3.setTop (mkF m 98 #[.val (.int p0), .val (.int p1), .val (.int (p0.toUInt32.toUInt16.toUInt32.toInt32)), .val (.int (F1 (p0.toUInt32.toUInt16.toUInt32.toInt32))), .val (.int (0 : Int32)), .val (.int (1 : Int32)), .val (.int (p1 &&& (255 : Int32))), .val (.int (((56320 : Int32) + (p1 &&& (255 : Int32))).toUInt32.toUInt16.toUInt32.toInt32)), .unset] []))) (fun t k => XS.icmpNo X3.here hx rfl (hb hby at_95) rfl (teq (own_kept p1)).2 k) ?_
      refine own_go (B := (T3.setTop (mkF m 99 #[.val (.int p0), .val (.int p1), .val (.int (p0.toUInt32.toUInt16.toUInt32.toInt32)), .val (.int (F1 (p0.toUInt32.toUInt16.toUInt32.toInt32))), .val (.int (0 : Int32)), .val (.int (1 : Int32)), .val (.int (p1 &&& (255 : Int32))), .val (.int (((56320 : Int32) + (p1 &&& (255 : Int32))).toUInt32.toUInt16.toUInt32.toInt32)), .unset] [(.int (1 : Int32))]))) (fun t k => XS.iconst X3.here hx rfl (hb hby at_98) k) ?_
      refine own_go (B := (T3.setTop (mkF m 103 #[.val (.int p0), .val (.int p1), .val (.int (p0.toUInt32.toUInt16.toUInt32.toInt32)), .val (.int (F1 (p0.toUInt32.toUInt16.toUInt32.toInt32))), .val (.int (0 : Int32)), .val (.int (1 : Int32)), .val (.int (p1 &&& (255 : Int32))), .val (.int (((56320 : Int32) + (p1 &&& (255 : Int32))).toUInt32.toUInt16.toUInt32.toInt32)), .unset] [(.int (1 : Int32))]))) (fun t k => XS.goto X3.here hx rfl (pc0 := 99) (pc' := 103) rfl (hb hby at_99) (by decide) (by decide) k) ?_
      refine own_go (B := (T3.setTop (mkF m 105 #[.val (.int p0), .val (.int p1), .val (.int (p0.toUInt32.toUInt16.toUInt32.toInt32)), .val (.int (F1 (p0.toUInt32.toUInt16.toUInt32.toInt32))), .val (.int (0 : Int32)), .val (.int (1 : Int32)), .val (.int (p1 &&& (255 : Int32))), .val (.int (((56320 : Int32) + (p1 &&& (255 : Int32))).toUInt32.toUInt16.toUInt32.toInt32)), .val (.int (1 : Int32))] []))) (fun t k => XS.istore X3.here hx rfl (hb hby at_103) rfl (l' := #[.val (.int p0), .val (.int p1), .val (.int (p0.toUInt32.toUInt16.toUInt32.toInt32)), .val (.int (F1 (p0.toUInt32.toUInt16.toUInt32.toInt32))), .val (.int (0 : Int32)), .val (.int (1 : Int32)), .val (.int (p1 &&& (255 : Int32))), .val (.int (((56320 : Int32) + (p1 &&& (255 : Int32))).toUInt32.toUInt16.toUInt32.toInt32)), .val (.int (1 : Int32))]) rfl k) ?_
      refine own_go (B := (T3.setTop (mkF m 107 #[.val (.int p0), .val (.int p1), .val (.int (p0.toUInt32.toUInt16.toUInt32.toInt32)), .val (.int (F1 (p0.toUInt32.toUInt16.toUInt32.toInt32))), .val (.int (0 : Int32)), .val (.int (1 : Int32)), .val (.int (p1 &&& (255 : Int32))), .val (.int (((56320 : Int32) + (p1 &&& (255 : Int32))).toUInt32.toUInt16.toUInt32.toInt32)), .val (.int (1 : Int32))] [(.int (1 : Int32))]))) (fun t k => XS.iload X3.here hx rfl (hb hby at_105) rfl k) ?_
      refine own_go (B := (T3.setTop (mkF m 110 #[.val (.int p0), .val (.int p1), .val (.int (p0.toUInt32.toUInt16.toUInt32.toInt32)), .val (.int (F1 (p0.toUInt32.toUInt16.toUInt32.toInt32))), .val (.int (0 : Int32)), .val (.int (1 : Int32)), .val (.int (p1 &&& (255 : Int32))), .val (.int (((56320 : Int32) + (p1 &&& (255 : Int32))).toUInt32.toUInt16.toUInt32.toInt32)), .val (.int (1 : Int32))] []))) (fun t k => XS.ifNo X3.here hx rfl (hb hby at_107) rfl ((if0 _ _).trans (feq (by decide)).1) k) ?_
      refine own_go (B := (T3.setTop (mkF m 112 #[.val (.int p0), .val (.int p1), .val (.int (p0.toUInt32.toUInt16.toUInt32.toInt32)), .val (.int (F1 (p0.toUInt32.toUInt16.toUInt32.toInt32))), .val (.int (0 : Int32)), .val (.int (1 : Int32)), .val (.int (p1 &&& (255 : Int32))), .val (.int (((56320 : Int32) + (p1 &&& (255 : Int32))).toUInt32.toUInt16.toUInt32.toInt32)), .val (.int (1 : Int32))] [(.int (1 : Int32))]))) (fun t k => XS.iload X3.here hx rfl (hb hby at_110) rfl k) ?_
      refine own_go (B := (T3.setTop (mkF m 115 #[.val (.int p0), .val (.int p1), .val (.int (p0.toUInt32.toUInt16.toUInt32.toInt32)), .val (.int (F1 (p0.toUInt32.toUInt16.toUInt32.toInt32))), .val (.int (0 : Int32)), .val (.int (1 : Int32)), .val (.int (p1 &&& (255 : Int32))), .val (.int (((56320 : Int32) + (p1 &&& (255 : Int32))).toUInt32.toUInt16.toUInt32.toInt32)), .val (.int (1 : Int32))] []))) (fun t k => XS.ifNo X3.here hx rfl (hb hby at_112) rfl ((if0 _ _).trans (feq (by decide)).1) k) ?_
      refine own_go (B := (T3.setTop (mkF m 116 #[.val (.int p0), .val (.int p1), .val (.int (p0.toUInt32.toUInt16.toUInt32.toInt32)), .val (.int (F1 (p0.toUInt32.toUInt16.toUInt32.toInt32))), .val (.int (0 : Int32)), .val (.int (1 : Int32)), .val (.int (p1 &&& (255 : Int32))), .val (.int (((56320 : Int32) + (p1 &&& (255 : Int32))).toUInt32.toUInt16.toUInt32.toInt32)), .val (.int (1 : Int32))] [(.int (1 : Int32))]))) (fun t k => XS.iconst X3.here hx rfl (hb hby at_115) k) ?_
      refine own_go (B := (T3.setTop (mkF m 120 #[.val (.int p0), .val (.int p1), .val (.int (p0.toUInt32.toUInt16.toUInt32.toInt32)), .val (.int (F1 (p0.toUInt32.toUInt16.toUInt32.toInt32))), .val (.int (0 : Int32)), .val (.int (1 : Int32)), .val (.int (p1 &&& (255 : Int32))), .val (.int (((56320 : Int32) + (p1 &&& (255 : Int32))).toUInt32.toUInt16.toUInt32.toInt32)), .val (.int (1 : Int32))] [(.int (1 : Int32))]))) (fun t k => XS.goto X3.here hx rfl (pc0 := 116) (pc' := 120) rfl (hb hby at_116) (by decide) (by decide) k) ?_
      obtain ⟨fs, hr, hrun, hended, hW, hsame⟩ := X3.leave (v := some (.int (1 : Int32))) (fun h => by rw [Bd.returns] at h; cases h)
      exact ⟨_, _, retN X3 hx (t := .boolean) Bd.returns (by simp) (hb hby at_120) hr, hrun, hended, _, _, rfl, ⟨rfl, N3⟩, ⟨_, rfl⟩, hW, hsame.mono (by decide) (by decide)⟩
    · refine own_go (B := (T1.setTop (mkF m 20 #[.val (.int p0), .val (.int p1), .val (.int (p0.toUInt32.toUInt16.toUInt32.toInt32)), .val (.int (F1 (p0.toUInt32.toUInt16.toUInt32.toInt32))), .unset, .unset, .unset, .unset, .unset] []))) (fun t k => XS.icmpNo X1.here hx rfl (hb hby at_17) rfl (flt hc17).2.2.1 k) ?_
      refine own_go (B := (T1.setTop (mkF m 21 #[.val (.int p0), .val (.int p1), .val (.int (p0.toUInt32.toUInt16.toUInt32.toInt32)), .val (.int (F1 (p0.toUInt32.toUInt16.toUInt32.toInt32))), .unset, .unset, .unset, .unset, .unset] [(.int (1 : Int32))]))) (fun t k => XS.iconst X1.here hx rfl (hb hby at_20) k) ?_
      refine own_go (B := (T1.setTop (mkF m 25 #[.val (.int p0), .val (.int p1), .val (.int (p0.toUInt32.toUInt16.toUInt32.toInt32)), .val (.int (F1 (p0.toUInt32.toUInt16.toUInt32.toInt32))), .unset, .unset, .unset, .unset, .unset] [(.int (1 : Int32))]))) (fun t k => XS.goto X1.here hx rfl (pc0 := 21) (pc' := 25) rfl (hb hby at_21) (by decide) (by decide) k) ?_
      refine own_go (B := (T1.setTop (mkF m 27 #[.val (.int p0), .val (.int p1), .val (.int (p0.toUInt32.toUInt16.toUInt32.toInt32)), .val (.int (F1 (p0.toUInt32.toUInt16.toUInt32.toInt32))), .val (.int (1 : Int32)), .unset, .unset, .unset, .unset] []))) (fun t k => XS.istore X1.here hx rfl (hb hby at_25) rfl (l' := #[.val (.int p0), .val (.int p1), .val (.int (p0.toUInt32.toUInt16.toUInt32.toInt32)), .val (.int (F1 (p0.toUInt32.toUInt16.toUInt32.toInt32))), .val (.int (1 : Int32)), .unset, .unset, .unset, .unset]) rfl k) ?_
      refine own_go (B := (T1.setTop (mkF m 29 #[.val (.int p0), .val (.int p1), .val (.int (p0.toUInt32.toUInt16.toUInt32.toInt32)), .val (.int (F1 (p0.toUInt32.toUInt16.toUInt32.toInt32))), .val (.int (1 : Int32)), .unset, .unset, .unset, .unset] [(.int (1 : Int32))]))) (fun t k => XS.iload X1.here hx rfl (hb hby at_27) rfl k) ?_
      refine own_go (B := (T1.setTop (mkF m 32 #[.val (.int p0), .val (.int p1), .val (.int (p0.toUInt32.toUInt16.toUInt32.toInt32)), .val (.int (F1 (p0.toUInt32.toUInt16.toUInt32.toInt32))), .val (.int (1 : Int32)), .unset, .unset, .unset, .unset] []))) (fun t k => XS.ifNo X1.here hx rfl (hb hby at_29) rfl ((if0 _ _).trans (feq (by decide)).1) k) ?_
      refine own_go (B := (T1.setTop (mkF m 33 #[.val (.int p0), .val (.int p1), .val (.int (p0.toUInt32.toUInt16.toUInt32.toInt32)), .val (.int (F1 (p0.toUInt32.toUInt16.toUInt32.toInt32))), .val (.int (1 : Int32)), .unset, .unset, .unset, .unset] [(.int (F1 (p0.toUInt32.toUInt16.toUInt32.toInt32)))]))) (fun t k => XS.iloadN X1.here hx rfl (hb hby at_32) rfl k) ?_
      refine own_go (B := (T1.setTop (mkF m 36 #[.val (.int p0), .val (.int p1), .val (.int (p0.toUInt32.toUInt16.toUInt32.toInt32)), .val (.int (F1 (p0.toUInt32.toUInt16.toUInt32.toInt32))), .val (.int (1 : Int32)), .unset, .unset, .unset, .unset] []))) (fun t k => XS.ifNo X1.here hx rfl (hb hby at_33) rfl ((if0 _ _).trans (flt (own_in hc11 hc17).1).1) k) ?_
      refine own_go (B := (T1.setTop (mkF m 37 #[.val (.int p0), .val (.int p1), .val (.int (p0.toUInt32.toUInt16.toUInt32.toInt32)), .val (.int (F1 (p0.toUInt32.toUInt16.toUInt32.toInt32))), .val (.int (1 : Int32)), .unset, .unset, .unset, .unset] [(.int (F1 (p0.toUInt32.toUInt16.toUInt32.toInt32)))]))) (fun t k => XS.iloadN X1.here hx rfl (hb hby at_36) rfl k) ?_
      refine own_go (B := (T1.setTop (mkF m 40 #[.val (.int p0), .val (.int p1), .val (.int (p0.toUInt32.toUInt16.toUInt32.toInt32)), .val (.int (F1 (p0.toUInt32.toUInt16.toUInt32.toInt32))), .val (.int (1 : Int32)), .unset, .unset, .unset, .unset] [(.int (255 : Int32)), (.int (F1 (p0.toUInt32.toUInt16.toUInt32.toInt32)))]))) (fun t k => XS.sipush X1.here hx rfl (hb hby at_37) k) ?_
      refine own_go (B := (T1.setTop (mkF m 43 #[.val (.int p0), .val (.int p1), .val (.int (p0.toUInt32.toUInt16.toUInt32.toInt32)), .val (.int (F1 (p0.toUInt32.toUInt16.toUInt32.toInt32))), .val (.int (1 : Int32)), .unset, .unset, .unset, .unset] []))) (fun t k => XS.icmpNo X1.here hx rfl (hb hby at_40) rfl (flt (own_in hc11 hc17).2.1).2.2.1 k) ?_
      refine own_go (B := (T1.setTop (mkF m 44 #[.val (.int p0), .val (.int p1), .val (.int (p0.toUInt32.toUInt16.toUInt32.toInt32)), .val (.int (F1 (p0.toUInt32.toUInt16.toUInt32.toInt32))), .val (.int (1 : Int32)), .unset, .unset, .unset, .unset] [(.int (p0.toUInt32.toUInt16.toUInt32.toInt32))]))) (fun t k => XS.iloadN X1.here hx rfl (hb hby at_43) rfl k) ?_
      refine own_go (B := (T1.setTop (mkF m 46 #[.val (.int p0), .val (.int p1), .val (.int (p0.toUInt32.toUInt16.toUInt32.toInt32)), .val (.int (F1 (p0.toUInt32.toUInt16.toUInt32.toInt32))), .val (.int (1 : Int32)), .unset, .unset, .unset, .unset] [(.int (56320 : Int32)), (.int (p0.toUInt32.toUInt16.toUInt32.toInt32))]))) (fun t k => X1.ldcInt hx hown (mvT hZ (hw _ (List.mem_of_getElem? (i := 5) rfl))) (g := (mkF m 44 #[.val (.int p0), .val (.int p1), .val (.int (p0.toUInt32.toUInt16.toUInt32.toInt32)), .val (.int (F1 (p0.toUInt32.toUInt16.toUInt32.toInt32))), .val (.int (1 : Int32)), .unset, .unset, .unset, .unset] [(.int (p0.toUInt32.toUInt16.toUInt32.toInt32))])) rfl (hb hby at_44) _ k) ?_
      refine own_go (B := (T1.setTop (mkF m 47 #[.val (.int p0), .val (.int p1), .val (.int (p0.toUInt32.toUInt16.toUInt32.toInt32)), .val (.int (F1 (p0.toUInt32.toUInt16.toUInt32.toInt32))), .val (.int (1 : Int32)), .unset, .unset, .unset, .unset] [(.int (F1 (p0.toUInt32.toUInt16.toUInt32.toInt32))), (.int (56320 : Int32)), (.int (p0.toUInt32.toUInt16.toUInt32.toInt32))]))) (fun t k => XS.iloadN X1.here hx rfl (hb hby at_46) rfl k) ?_
      refine own_go (B := (T1.setTop (mkF m 48 #[.val (.int p0), .val (.int p1), .val (.int (p0.toUInt32.toUInt16.toUInt32.toInt32)), .val (.int (F1 (p0.toUInt32.toUInt16.toUInt32.toInt32))), .val (.int (1 : Int32)), .unset, .unset, .unset, .unset] [(.int ((56320 : Int32) + (F1 (p0.toUInt32.toUInt16.toUInt32.toInt32)))), (.int (p0.toUInt32.toUInt16.toUInt32.toInt32))]))) (fun t k => XS.iadd X1.here hx rfl (hb hby at_47) rfl k) ?_
      refine own_go (B := (T1.setTop (mkF m 51 #[.val (.int p0), .val (.int p1), .val (.int (p0.toUInt32.toUInt16.toUInt32.toInt32)), .val (.int (F1 (p0.toUInt32.toUInt16.toUInt32.toInt32))), .val (.int (1 : Int32)), .unset, .unset, .unset, .unset] []))) (fun t k => XS.icmpNo X1.here hx rfl (hb hby at_48) rfl (teq (own_in hc11 hc17).2.2).2 k) ?_
      refine own_go (B := (T1.setTop (mkF m 52 #[.val (.int p0), .val (.int p1), .val (.int (p0.toUInt32.toUInt16.toUInt32.toInt32)), .val (.int (F1 (p0.toUInt32.toUInt16.toUInt32.toInt32))), .val (.int (1 : Int32)), .unset, .unset, .unset, .unset] [(.int (1 : Int32))]))) (fun t k => XS.iconst X1.here hx rfl (hb hby at_51) k) ?_
      refine own_go (B := (T1.setTop (mkF m 56 #[.val (.int p0), .val (.int p1), .val (.int (p0.toUInt32.toUInt16.toUInt32.toInt32)), .val (.int (F1 (p0.toUInt32.toUInt16.toUInt32.toInt32))), .val (.int (1 : Int32)), .unset, .unset, .unset, .unset] [(.int (1 : Int32))]))) (fun t k => XS.goto X1.here hx rfl (pc0 := 52) (pc' := 56) rfl (hb hby at_52) (by decide) (by decide) k) ?_
      refine own_go (B := (T1.setTop (mkF m 58 #[.val (.int p0), .val (.int p1), .val (.int (p0.toUInt32.toUInt16.toUInt32.toInt32)), .val (.int (F1 (p0.toUInt32.toUInt16.toUInt32.toInt32))), .val (.int (1 : Int32)), .val (.int (1 : Int32)), .unset, .unset, .unset] []))) (fun t k => XS.istore X1.here hx rfl (hb hby at_56) rfl (l' := #[.val (.int p0), .val (.int p1), .val (.int (p0.toUInt32.toUInt16.toUInt32.toInt32)), .val (.int (F1 (p0.toUInt32.toUInt16.toUInt32.toInt32))), .val (.int (1 : Int32)), .val (.int (1 : Int32)), .unset, .unset, .unset]) rfl k) ?_
      refine own_go (B := (T1.setTop (mkF m 73 #[.val (.int p0), .val (.int p1), .val (.int (p0.toUInt32.toUInt16.toUInt32.toInt32)), .val (.int (F1 (p0.toUInt32.toUInt16.toUInt32.toInt32))), .val (.int (1 : Int32)), .val (.int (1 : Int32)), .unset, .unset, .unset] []))) (fun t k => XS.goto X1.here hx rfl (pc0 := 58) (pc' := 73) rfl (hb hby at_58) (by decide) (by decide) k) ?_
      refine own_go (B := (T1.setTop (mkF m 74 #[.val (.int p0), .val (.int p1), .val (.int (p0.toUInt32.toUInt16.toUInt32.toInt32)), .val (.int (F1 (p0.toUInt32.toUInt16.toUInt32.toInt32))), .val (.int (1 : Int32)), .val (.int (1 : Int32)), .unset, .unset, .unset] [(.int p1)]))) (fun t k => XS.iloadN X1.here hx rfl (hb hby at_73) rfl k) ?_
      refine own_go (B := (T1.setTop (mkF m 77 #[.val (.int p0), .val (.int p1), .val (.int (p0.toUInt32.toUInt16.toUInt32.toInt32)), .val (.int (F1 (p0.toUInt32.toUInt16.toUInt32.toInt32))), .val (.int (1 : Int32)), .val (.int (1 : Int32)), .unset, .unset, .unset] [(.int (255 : Int32)), (.int p1)]))) (fun t k => XS.sipush X1.here hx rfl (hb hby at_74) k) ?_
      refine own_go (B := (T1.setTop (mkF m 78 #[.val (.int p0), .val (.int p1), .val (.int (p0.toUInt32.toUInt16.toUInt32.toInt32)), .val (.int (F1 (p0.toUInt32.toUInt16.toUInt32.toInt32))), .val (.int (1 : Int32)), .val (.int (1 : Int32)), .unset, .unset, .unset] [(.int (p1 &&& (255 : Int32)))]))) (fun t k => XS.iand X1.here hx rfl (hb hby at_77) rfl k) ?_
      refine own_go (B := (T1.setTop (mkF m 80 #[.val (.int p0), .val (.int p1), .val (.int (p0.toUInt32.toUInt16.toUInt32.toInt32)), .val (.int (F1 (p0.toUInt32.toUInt16.toUInt32.toInt32))), .val (.int (1 : Int32)), .val (.int (1 : Int32)), .val (.int (p1 &&& (255 : Int32))), .unset, .unset] []))) (fun t k => XS.istore X1.here hx rfl (hb hby at_78) rfl (l' := #[.val (.int p0), .val (.int p1), .val (.int (p0.toUInt32.toUInt16.toUInt32.toInt32)), .val (.int (F1 (p0.toUInt32.toUInt16.toUInt32.toInt32))), .val (.int (1 : Int32)), .val (.int (1 : Int32)), .val (.int (p1 &&& (255 : Int32))), .unset, .unset]) rfl k) ?_
      refine own_go (B := (T1.setTop (mkF m 82 #[.val (.int p0), .val (.int p1), .val (.int (p0.toUInt32.toUInt16.toUInt32.toInt32)), .val (.int (F1 (p0.toUInt32.toUInt16.toUInt32.toInt32))), .val (.int (1 : Int32)), .val (.int (1 : Int32)), .val (.int (p1 &&& (255 : Int32))), .unset, .unset] [(.int (56320 : Int32))]))) (fun t k => X1.ldcInt hx hown (mvT hZ (hw _ (List.mem_of_getElem? (i := 5) rfl))) (g := (mkF m 80 #[.val (.int p0), .val (.int p1), .val (.int (p0.toUInt32.toUInt16.toUInt32.toInt32)), .val (.int (F1 (p0.toUInt32.toUInt16.toUInt32.toInt32))), .val (.int (1 : Int32)), .val (.int (1 : Int32)), .val (.int (p1 &&& (255 : Int32))), .unset, .unset] [])) rfl (hb hby at_80) _ k) ?_
      refine own_go (B := (T1.setTop (mkF m 84 #[.val (.int p0), .val (.int p1), .val (.int (p0.toUInt32.toUInt16.toUInt32.toInt32)), .val (.int (F1 (p0.toUInt32.toUInt16.toUInt32.toInt32))), .val (.int (1 : Int32)), .val (.int (1 : Int32)), .val (.int (p1 &&& (255 : Int32))), .unset, .unset] [(.int (p1 &&& (255 : Int32))), (.int (56320 : Int32))]))) (fun t k => XS.iload X1.here hx rfl (hb hby at_82) rfl k) ?_
      refine own_go (B := (T1.setTop (mkF m 85 #[.val (.int p0), .val (.int p1), .val (.int (p0.toUInt32.toUInt16.toUInt32.toInt32)), .val (.int (F1 (p0.toUInt32.toUInt16.toUInt32.toInt32))), .val (.int (1 : Int32)), .val (.int (1 : Int32)), .val (.int (p1 &&& (255 : Int32))), .unset, .unset] [(.int ((56320 : Int32) + (p1 &&& (255 : Int32))))]))) (fun t k => XS.iadd X1.here hx rfl (hb hby at_84) rfl k) ?_
      refine own_go (B := (T1.setTop (mkF m 86 #[.val (.int p0), .val (.int p1), .val (.int (p0.toUInt32.toUInt16.toUInt32.toInt32)), .val (.int (F1 (p0.toUInt32.toUInt16.toUInt32.toInt32))), .val (.int (1 : Int32)), .val (.int (1 : Int32)), .val (.int (p1 &&& (255 : Int32))), .unset, .unset] [(.int (((56320 : Int32) + (p1 &&& (255 : Int32))).toUInt32.toUInt16.toUInt32.toInt32))]))) (fun t k => XS.i2c X1.here hx rfl (hb hby at_85) rfl k) ?_
      refine own_go (B := (T1.setTop (mkF m 88 #[.val (.int p0), .val (.int p1), .val (.int (p0.toUInt32.toUInt16.toUInt32.toInt32)), .val (.int (F1 (p0.toUInt32.toUInt16.toUInt32.toInt32))), .val (.int (1 : Int32)), .val (.int (1 : Int32)), .val (.int (p1 &&& (255 : Int32))), .val (.int (((56320 : Int32) + (p1 &&& (255 : Int32))).toUInt32.toUInt16.toUInt32.toInt32)), .unset] []))) (fun t k => XS.istore X1.here hx rfl (hb hby at_86) rfl (l' := #[.val (.int p0), .val (.int p1), .val (.int (p0.toUInt32.toUInt16.toUInt32.toInt32)), .val (.int (F1 (p0.toUInt32.toUInt16.toUInt32.toInt32))), .val (.int (1 : Int32)), .val (.int (1 : Int32)), .val (.int (p1 &&& (255 : Int32))), .val (.int (((56320 : Int32) + (p1 &&& (255 : Int32))).toUInt32.toUInt16.toUInt32.toInt32)), .unset]) rfl k) ?_
      refine own_go (B := (T1.setTop (mkF m 90 #[.val (.int p0), .val (.int p1), .val (.int (p0.toUInt32.toUInt16.toUInt32.toInt32)), .val (.int (F1 (p0.toUInt32.toUInt16.toUInt32.toInt32))), .val (.int (1 : Int32)), .val (.int (1 : Int32)), .val (.int (p1 &&& (255 : Int32))), .val (.int (((56320 : Int32) + (p1 &&& (255 : Int32))).toUInt32.toUInt16.toUInt32.toInt32)), .unset] [(.int (((56320 : Int32) + (p1 &&& (255 : Int32))).toUInt32.toUInt16.toUInt32.toInt32))]))) (fun t k => XS.iload X1.here hx rfl (hb hby at_88) rfl k) ?_
      obtain ⟨_, _, ⟨T4, L4, k4, n4⟩, -, X4, ⟨Lc4, hQ4, l4, y4, z4⟩, st4⟩ := Jvm.LawKit.callS X1 hx (y := (⟨"com/example/loopwise/loopwise/frontend/KeptBytes", "keptByte", "(C)I"⟩ : MethodName)) hown (mvT hZ (hw _ (List.mem_of_getElem? (i := 0) rfl))) (mvT hZ (hw _ (List.mem_of_getElem? (i := 1) rfl))) (mvT hZ (hw _ (List.mem_of_getElem? (i := 2) rfl))) (mvT hZ (hw _ (List.mem_of_getElem? (i := 3) rfl))) (by decide) (backOf (W := 0) (rm1 l Z a0 hw [] (((56320 : Int32) + (p1 &&& (255 : Int32))).toUInt32.toUInt16.toUInt32.toInt32)  h0 n0 ) hZ (hw _ (List.mem_of_getElem? (i := 3) rfl)) (hw _ (List.mem_of_getElem? (i := 2) rfl)) (by decide) (by decide)) (g := (mkF m 90 #[.val (.int p0), .val (.int p1), .val (.int (p0.toUInt32.toUInt16.toUInt32.toInt32)), .val (.int (F1 (p0.toUInt32.toUInt16.toUInt32.toInt32))), .val (.int (1 : Int32)), .val (.int (1 : Int32)), .val (.int (p1 &&& (255 : Int32))), .val (.int (((56320 : Int32) + (p1 &&& (255 : Int32))).toUInt32.toUInt16.toUInt32.toInt32)), .unset] [(.int (((56320 : Int32) + (p1 &&& (255 : Int32))).toUInt32.toUInt16.toUInt32.toInt32))])) rfl (by rw [hml]; rfl) (argsL := [(.int (((56320 : Int32) + (p1 &&& (255 : Int32))).toUInt32.toUInt16.toUInt32.toInt32))]) (rest := []) (lenOf pd_0_0 rfl) rfl (by show 2 * 0 + _ ≤ _; exact Nat.le_of_eq rfl) (hb hby at_90) (fun _ _ => ⟨rfl, e1, (by decide : (0 + 0) + 0 ≤ _), (by decide : (0 + 0) + 0 ≤ _)⟩)
      dsimp only [Pt.U, Pt.locs, Pt.cells, Pt.slots] at X4 l4 y4 z4 st4 hQ4
      subst l4 y4 z4
      obtain ⟨rfl, N4q, e4⟩ := hQ4
      replace e4 := e4
      have N4 := Fr.app N1 N4q
      refine own_go (B := (T4.setTop (mkF m 93 #[.val (.int p0), .val (.int p1), .val (.int (p0.toUInt32.toUInt16.toUInt32.toInt32)), .val (.int (F1 (p0.toUInt32.toUInt16.toUInt32.toInt32))), .val (.int (1 : Int32)), .val (.int (1 : Int32)), .val (.int (p1 &&& (255 : Int32))), .val (.int (((56320 : Int32) + (p1 &&& (255 : Int32))).toUInt32.toUInt16.toUInt32.toInt32)), .unset] [(.int (F1 (((56320 : Int32) + (p1 &&& (255 : Int32))).toUInt32.toUInt16.toUInt32.toInt32)))]))) (fun t k => st4 _ k) ?_
      refine own_go (B := (T4.setTop (mkF m 95 #[.val (.int p0), .val (.int p1), .val (.int (p0.toUInt32.toUInt16.toUInt32.toInt32)), .val (.int (F1 (p0.toUInt32.toUInt16.toUInt32.toInt32))), .val (.int (1 : Int32)), .val (.int (1 : Int32)), .val (.int (p1 &&& (255 : Int32))), .val (.int (((56320 : Int32) + (p1 &&& (255 : Int32))).toUInt32.toUInt16.toUInt32.toInt32)), .unset] [(.int (p1 &&& (255 : Int32))), (.int (F1 (((56320 : Int32) + (p1 &&& (255 : Int32))).toUInt32.toUInt16.toUInt32.toInt32)))]))) (fun t k => XS.iload X4.here hx rfl (hb hby at_93) rfl k) ?_
      refine own_go (B := (T4.setTop (mkF m 98 #[.val (.int p0), .val (.int p1), .val (.int (p0.toUInt32.toUInt16.toUInt32.toInt32)), .val (.int (F1 (p0.toUInt32.toUInt16.toUInt32.toInt32))), .val (.int (1 : Int32)), .val (.int (1 : Int32)), .val (.int (p1 &&& (255 : Int32))), .val (.int (((56320 : Int32) + (p1 &&& (255 : Int32))).toUInt32.toUInt16.toUInt32.toInt32)), .unset] []))) (fun t k => XS.icmpNo X4.here hx rfl (hb hby at_95) rfl (teq (own_kept p1)).2 k) ?_
      refine own_go (B := (T4.setTop (mkF m 99 #[.val (.int p0), .val (.int p1), .val (.int (p0.toUInt32.toUInt16.toUInt32.toInt32)), .val (.int (F1 (p0.toUInt32.toUInt16.toUInt32.toInt32))), .val (.int (1 : Int32)), .val (.int (1 : Int32)), .val (.int (p1 &&& (255 : Int32))), .val (.int (((56320 : Int32) + (p1 &&& (255 : Int32))).toUInt32.toUInt16.toUInt32.toInt32)), .unset] [(.int (1 : Int32))]))) (fun t k => XS.iconst X4.here hx rfl (hb hby at_98) k) ?_
      refine own_go (B := (T4.setTop (mkF m 103 #[.val (.int p0), .val (.int p1), .val (.int (p0.toUInt32.toUInt16.toUInt32.toInt32)), .val (.int (F1 (p0.toUInt32.toUInt16.toUInt32.toInt32))), .val (.int (1 : Int32)), .val (.int (1 : Int32)), .val (.int (p1 &&& (255 : Int32))), .val (.int (((56320 : Int32) + (p1 &&& (255 : Int32))).toUInt32.toUInt16.toUInt32.toInt32)), .unset] [(.int (1 : Int32))]))) (fun t k => XS.goto X4.here hx rfl (pc0 := 99) (pc' := 103) rfl (hb hby at_99) (by decide) (by decide) k) ?_
      refine own_go (B := (T4.setTop (mkF m 105 #[.val (.int p0), .val (.int p1), .val (.int (p0.toUInt32.toUInt16.toUInt32.toInt32)), .val (.int (F1 (p0.toUInt32.toUInt16.toUInt32.toInt32))), .val (.int (1 : Int32)), .val (.int (1 : Int32)), .val (.int (p1 &&& (255 : Int32))), .val (.int (((56320 : Int32) + (p1 &&& (255 : Int32))).toUInt32.toUInt16.toUInt32.toInt32)), .val (.int (1 : Int32))] []))) (fun t k => XS.istore X4.here hx rfl (hb hby at_103) rfl (l' := #[.val (.int p0), .val (.int p1), .val (.int (p0.toUInt32.toUInt16.toUInt32.toInt32)), .val (.int (F1 (p0.toUInt32.toUInt16.toUInt32.toInt32))), .val (.int (1 : Int32)), .val (.int (1 : Int32)), .val (.int (p1 &&& (255 : Int32))), .val (.int (((56320 : Int32) + (p1 &&& (255 : Int32))).toUInt32.toUInt16.toUInt32.toInt32)), .val (.int (1 : Int32))]) rfl k) ?_
      refine own_go (B := (T4.setTop (mkF m 107 #[.val (.int p0), .val (.int p1), .val (.int (p0.toUInt32.toUInt16.toUInt32.toInt32)), .val (.int (F1 (p0.toUInt32.toUInt16.toUInt32.toInt32))), .val (.int (1 : Int32)), .val (.int (1 : Int32)), .val (.int (p1 &&& (255 : Int32))), .val (.int (((56320 : Int32) + (p1 &&& (255 : Int32))).toUInt32.toUInt16.toUInt32.toInt32)), .val (.int (1 : Int32))] [(.int (1 : Int32))]))) (fun t k => XS.iload X4.here hx rfl (hb hby at_105) rfl k) ?_
      refine own_go (B := (T4.setTop (mkF m 110 #[.val (.int p0), .val (.int p1), .val (.int (p0.toUInt32.toUInt16.toUInt32.toInt32)), .val (.int (F1 (p0.toUInt32.toUInt16.toUInt32.toInt32))), .val (.int (1 : Int32)), .val (.int (1 : Int32)), .val (.int (p1 &&& (255 : Int32))), .val (.int (((56320 : Int32) + (p1 &&& (255 : Int32))).toUInt32.toUInt16.toUInt32.toInt32)), .val (.int (1 : Int32))] []))) (fun t k => XS.ifNo X4.here hx rfl (hb hby at_107) rfl ((if0 _ _).trans (feq (by decide)).1) k) ?_
      refine own_go (B := (T4.setTop (mkF m 112 #[.val (.int p0), .val (.int p1), .val (.int (p0.toUInt32.toUInt16.toUInt32.toInt32)), .val (.int (F1 (p0.toUInt32.toUInt16.toUInt32.toInt32))), .val (.int (1 : Int32)), .val (.int (1 : Int32)), .val (.int (p1 &&& (255 : Int32))), .val (.int (((56320 : Int32) + (p1 &&& (255 : Int32))).toUInt32.toUInt16.toUInt32.toInt32)), .val (.int (1 : Int32))] [(.int (1 : Int32))]))) (fun t k => XS.iload X4.here hx rfl (hb hby at_110) rfl k) ?_
      refine own_go (B := (T4.setTop (mkF m 115 #[.val (.int p0), .val (.int p1), .val (.int (p0.toUInt32.toUInt16.toUInt32.toInt32)), .val (.int (F1 (p0.toUInt32.toUInt16.toUInt32.toInt32))), .val (.int (1 : Int32)), .val (.int (1 : Int32)), .val (.int (p1 &&& (255 : Int32))), .val (.int (((56320 : Int32) + (p1 &&& (255 : Int32))).toUInt32.toUInt16.toUInt32.toInt32)), .val (.int (1 : Int32))] []))) (fun t k => XS.ifNo X4.here hx rfl (hb hby at_112) rfl ((if0 _ _).trans (feq (by decide)).1) k) ?_
      refine own_go (B := (T4.setTop (mkF m 116 #[.val (.int p0), .val (.int p1), .val (.int (p0.toUInt32.toUInt16.toUInt32.toInt32)), .val (.int (F1 (p0.toUInt32.toUInt16.toUInt32.toInt32))), .val (.int (1 : Int32)), .val (.int (1 : Int32)), .val (.int (p1 &&& (255 : Int32))), .val (.int (((56320 : Int32) + (p1 &&& (255 : Int32))).toUInt32.toUInt16.toUInt32.toInt32)), .val (.int (1 : Int32))] [(.int (1 : Int32))]))) (fun t k => XS.iconst X4.here hx rfl (hb hby at_115) k) ?_
      refine own_go (B := (T4.setTop (mkF m 120 #[.val (.int p0), .val (.int p1), .val (.int (p0.toUInt32.toUInt16.toUInt32.toInt32)), .val (.int (F1 (p0.toUInt32.toUInt16.toUInt32.toInt32))), .val (.int (1 : Int32)), .val (.int (1 : Int32)), .val (.int (p1 &&& (255 : Int32))), .val (.int (((56320 : Int32) + (p1 &&& (255 : Int32))).toUInt32.toUInt16.toUInt32.toInt32)), .val (.int (1 : Int32))] [(.int (1 : Int32))]))) (fun t k => XS.goto X4.here hx rfl (pc0 := 116) (pc' := 120) rfl (hb hby at_116) (by decide) (by decide) k) ?_
      obtain ⟨fs, hr, hrun, hended, hW, hsame⟩ := X4.leave (v := some (.int (1 : Int32))) (fun h => by rw [Bd.returns] at h; cases h)
      exact ⟨_, _, retN X4 hx (t := .boolean) Bd.returns (by simp) (hb hby at_120) hr, hrun, hended, _, _, rfl, ⟨rfl, N4⟩, ⟨_, rfl⟩, hW, hsame.mono (by decide) (by decide)⟩
set_option maxRecDepth 65536 in
set_option maxHeartbeats 40000000 in
theorem comes_1 {Post : Tables → Env → Array Value → State → Outcome → State → Prop} (hpost : ∀ tb e args s v u, (limb_1_1.after args s (.returned v) u = true ∧ limb_1_2.after args s (.returned v) u = true ∧ True) → FrameEnd s (.returned v) u (Jvm.fieldLocs frame_1_writes args s ++ Jvm.arrayLocs frame_1_arrays args s ++ Jvm.staticLocs frame_1_statics s) 0 0 → Post tb e args s (.returned v) u) :
    ArmFor flags0 classFile x code maxLocals ret World_1 tables_1 room_1 Calls_1 rest_1 Pre_1 Post := by
  intro l hfl _ _ p e ha hc hk s m args below hf hA hF happ hP
  obtain ⟨hcalls, hrest, hpre⟩ := hP
  obtain ⟨-, -, -, hnamed, -, -, -, hat⟩ := (Spec.applies_iff hf).mp happ
  obtain ⟨hg, hn⟩ := and_e (Cond.before_iff.mp (show (Jvm.Cond.and given_1 narrow_1).before args s = true from hpre))
  obtain ⟨gc, g0⟩ := and_e hg
  obtain ⟨gg0, g1⟩ := and_e g0
  obtain ⟨w0, w1, rfl⟩ : ∃ w0 w1 : Value, args = #[w0, w1] := by
    have hs : args.size = 2 := by simpa [Cond.value, given_1] using gc
    obtain ⟨L⟩ := args
    match L, hs with
    | [w0, w1], _ => exact ⟨w0, w1, rfl⟩
  have hw := fun d (hd : d ∈ tables_1) => atoms_spec (ws := Jvm.Cond.code x code maxLocals ret :: tables_1) hat d (List.mem_cons_of_mem _ hd)
  have hfit : Fit s := fun {y c} hc i hi => by
    obtain ⟨ha, rfl⟩ := Array.getElem?_eq_some_iff.mp hc
    have q := List.all_eq_true.mp ((Array.all_eq_true_iff_forall_mem.mp hF) _ (Array.getElem_mem ha)) i (List.mem_range.mpr hi)
    simpa [Array.getElem?_eq_getElem hi] using q
  obtain ⟨i0, ei0⟩ := is_v gg0
  obtain rfl : w0 = (.int i0) := Option.some.inj ei0
  obtain ⟨i1, ei1⟩ := is_v g1
  obtain rfl : w1 = (.int i1) := Option.some.inj ei1
  obtain ⟨n, o, h1, h2, h3, _, L, rfl, ⟨rfl, N⟩, hq⟩ := rm0 l s _ hw tables_1 i0 i1 s.heap s.heap.size p e ha hc hk s m _ below hf ((Spec.applies_iff_loose hf).mp happ).1 ⟨rfl, State.Warmed39.refl s, rfl⟩ trivial
  refine ⟨n, _, h1, h2, h3, hpost _ _ _ _ _ _ ⟨Cond.after_iff.mpr rfl, Cond.after_iff.mpr (eq_i res_at (Term.int_eval (1)) rfl), trivial⟩ ⟨hq.1, hq.2.1, (hq.2.2.sift fun y hy => Or.inr (N y hy)).mono (by decide) (by decide)⟩⟩
theorem main_1_1 : Claimed_1_1 := comes_1 fun _ _ _ _ _ _ h hF => ⟨h.1, hF⟩
theorem main_1_2 : Claimed_1_2 := comes_1 fun _ _ _ _ _ _ h hF => ⟨h.2.1, hF⟩
end Jvm.Pilot.@@N@@
namespace Jvm.Pilot.@@N@@
open Jvm Jvm.ClassFile Sem Op Lib Jvm.Free Jvm.Stand Jvm.Pilot.@@N@@.Jvm.D
/-! MADE BY PROGRAM (witnessworld.py) out of the Statement's table words and the real class files: 9 classes; the members and pool entries that the words name. The judged class is class 1, her method 1. -/
namespace start1
open Jvm.ClassFile
def u (s : String) : CpInfo := .utf8 (stringToUtf16 s)
/-- a pool by its gaps: so many unusable entries, then the entry; so many at the end -/
def gap : Nat → List CpInfo → List CpInfo
  | 0, r => r
  | n + 1, r => .unusable :: gap n r
def poolList (es : List (Nat × CpInfo)) (last : Nat) : List CpInfo := es.foldr (fun e r => gap e.1 (e.2 :: r)) (gap last [])
def pool (es : List (Nat × CpInfo)) (last : Nat) : Array CpInfo := ⟨poolList es last⟩
def fileOf (pool : Array CpInfo) (this : Nat) (attrs : Array Attribute := #[]) (ms : Array MethodInfo := #[]) (fl : Nat := 33) (sup : Nat := 0) (ifs : Array Nat := #[]) (fds : Array FieldInfo := #[]) : ClassFile where
  minorVersion := 0
  majorVersion := 65
  constantPool := pool
  accessFlags := fl
  thisClass := this
  superClass := sup
  interfaces := ifs
  fields := fds
  methods := ms
  attributes := attrs
def plain (name : String) (sup : Option ClassId) : Class where
  name := name
  kind := .ordinary
  loader := none
  accessFlags := 33
  super := sup
  interfaces := #[]
  cf := none
  fields := #[]
  methods := #[]
  instanceTypes := #[]
  staticTypes := #[]
  resolved := #[]
  callSites := []
  init := .initialized
  statics := none
  mirror := none

def pool0 : Array CpInfo := pool [(5, u "<init>"), (0, u "()V"), (1, .class_ 10), (1, u "java/lang/Object")] 113

def k0m0 : Method := { name := "<init>", desc := "()V", sig := { parameters := [], returnType := none }, accessFlags := 1, code := none }
/-- java/lang/Object -/
def k0 : Class := { plain "java/lang/Object" none with
  accessFlags := 33
  interfaces := #[]
  cf := some (fileOf pool0 8 #[] #[{ accessFlags := 1, nameIndex := 5, descriptorIndex := 6, attributes := #[] }] 33 0 #[] #[])
  fields := #[]
  methods := #[k0m0]
  instanceTypes := #[]
  staticTypes := #[]
  resolved := Array.replicate 124 none
  statics := none }

def pool1 : Array CpInfo := pool [(2, .class_ 4), (1, u "java/lang/Object"), (0, u "<init>"), (0, u "()V"), (0, .methodref 8 9), (0, .class_ 10), (0, .nameAndType 11 12), (0, u "com/example/loopwise/loopwise/frontend/KeptBytes"), (0, u "keptByte"), (0, u "(C)I"), (0, .integer 56320), (0, .integer 56575), (0, .class_ 16), (0, u "com/example/loopwise/loopwise/frontend/KeptBytesKeptBytePinLaw"), (2, u "law"), (0, u "(II)Z")] 3

def k1m0 : Method := { name := "<init>", desc := "()V", sig := { parameters := [], returnType := none }, accessFlags := 2, code := none }
def k1c1 : Code := { maxStack := 3, maxLocals := 9, code := code, exceptionTable := #[], attributes := #[] }
def k1m1 : Method := { name := "law", desc := "(II)Z", sig := { parameters := [.int, .int], returnType := some .boolean }, accessFlags := 9, code := some k1c1 }
/-- com/example/loopwise/loopwise/frontend/KeptBytesKeptBytePinLaw -/
def k1 : Class := { plain "com/example/loopwise/loopwise/frontend/KeptBytesKeptBytePinLaw" (some 0) with
  accessFlags := 49
  interfaces := #[]
  cf := some (fileOf pool1 15 #[] #[{ accessFlags := 2, nameIndex := 5, descriptorIndex := 6, attributes := #[] }, { accessFlags := 9, nameIndex := 19, descriptorIndex := 20, attributes := #[] }] 49 2 #[] #[])
  fields := #[]
  methods := #[k1m0, k1m1]
  instanceTypes := #[]
  staticTypes := #[]
  resolved := Array.replicate 24 none
  statics := none }

def pool2 : Array CpInfo := pool [(2, .class_ 4), (1, u "java/lang/Object"), (0, u "<init>"), (0, u "()V"), (51, .class_ 59), (0, u "com/example/loopwise/loopwise/frontend/KeptBytes"), (0, .integer 56320), (21, u "UNDECODABLE_BYTE_BASE"), (0, u "C"), (7, u "keptByte"), (0, u "(C)I")] 2

def k2m0 : Method := { name := "<init>", desc := "()V", sig := { parameters := [], returnType := none }, accessFlags := 2, code := none }
def k2c1 : Code := { maxStack := 2, maxLocals := 2, code := prog_284_method_3_code, exceptionTable := #[], attributes := #[] }
def k2m1 : Method := { name := "keptByte", desc := "(C)I", sig := { parameters := [.char], returnType := some .int }, accessFlags := 8, code := some k2c1 }
/-- com/example/loopwise/loopwise/frontend/KeptBytes -/
def k2 : Class := { plain "com/example/loopwise/loopwise/frontend/KeptBytes" (some 0) with
  accessFlags := 49
  interfaces := #[]
  cf := some (fileOf pool2 58 #[] #[{ accessFlags := 2, nameIndex := 5, descriptorIndex := 6, attributes := #[] }, { accessFlags := 8, nameIndex := 91, descriptorIndex := 92, attributes := #[] }] 49 2 #[] #[{ accessFlags := 26, nameIndex := 82, descriptorIndex := 83, attributes := #[] }])
  fields := #[{ name := "UNDECODABLE_BYTE_BASE", type := .char, accessFlags := 26, slot := 0, constantValue := 0 }]
  methods := #[k2m0, k2m1]
  instanceTypes := #[]
  staticTypes := #[.char]
  resolved := Array.replicate 95 none
  statics := none }

def pool3 : Array CpInfo := pool [(1, u "java/lang/Cloneable"), (0, .class_ 1), (0, u "java/lang/Object"), (0, .class_ 3)] 3

/-- java/lang/Cloneable -/
def k3 : Class := { plain "java/lang/Cloneable" (some 0) with
  accessFlags := 1537
  interfaces := #[]
  cf := some (fileOf pool3 2 #[] #[] 1537 4 #[] #[])
  fields := #[]
  methods := #[]
  instanceTypes := #[]
  staticTypes := #[]
  resolved := Array.replicate 8 none
  statics := none }

def pool4 : Array CpInfo := pool [(1, u "java/io/Serializable"), (0, .class_ 1), (0, u "java/lang/Object"), (0, .class_ 3)] 3

/-- java/io/Serializable -/
def k4 : Class := { plain "java/io/Serializable" (some 0) with
  accessFlags := 1537
  interfaces := #[]
  cf := some (fileOf pool4 2 #[] #[] 1537 4 #[] #[])
  fields := #[]
  methods := #[]
  instanceTypes := #[]
  staticTypes := #[]
  resolved := Array.replicate 8 none
  statics := none }

/-- the primitive byte -/
def k5 : Class := { plain "byte" none with kind := .primitive 'B', accessFlags := 0x411 }
/-- [B -/
def k6 : Class := { plain "[B" (some 0) with kind := .array 5 .byte, interfaces := #[3, 4], accessFlags := 1041 }

/-- the primitive int -/
def k7 : Class := { plain "int" none with kind := .primitive 'I', accessFlags := 0x411 }
/-- [I -/
def k8 : Class := { plain "[I" (some 0) with kind := .array 7 .int, interfaces := #[3, 4], accessFlags := 1041 }

def heap : Heap := #[]
def classes : Array Class := #[k0, k1, k2, k3, k4, k5, k6, k7, k8]
def interned : List (Array UInt16 × Addr) := []
def slotsUsed : Nat := 0
def theMethod : MethodId := ⟨1, 1⟩
def args0 : Array Value := #[.int 5, .int 7]
def aboutOver (below : List Frame) : State where
  vm := { classes := classes, interned := interned.toArray }
  heap := heap
  slotsUsed := slotsUsed
  threads := #[{ frames := .invoking theMethod args0 :: below }]
def below0 : List Frame := [.native { method := ⟨0, 0⟩, args := #[] }]
def about1 : State := aboutOver below0
def p0 : Program := .bare "" "" ""
def e0 : Env := launch0.env 0 0 0
theorem w_frames : about1.frames = Frame.invoking theMethod args0 :: below0 := rfl
set_option maxRecDepth 65536 in
theorem w_args : argsFit about1.vm theMethod args0 = true := by decide +kernel
set_option maxRecDepth 65536 in
theorem w_heap : heapFits about1 = true := by decide +kernel
set_option maxRecDepth 65536 in
theorem w_runnable : about1.curStatus? = some .runnable := by decide +kernel
set_option maxRecDepth 65536 in
theorem w_alone : about1.alone = true := by decide +kernel
set_option maxRecDepth 65536 in
theorem w_named : about1.methodNamed? x = some theMethod := by decide +kernel
set_option maxRecDepth 65536 in
theorem w_hears : about1.hears theMethod below0 = true := by decide +kernel
set_option maxRecDepth 65536 in
theorem w_ripe : about1.ripe theMethod args0 below0 = true := by decide +kernel
theorem w_running : about1.status = .running := rfl
set_option maxRecDepth 65536 in
theorem w_room : about1.hasRoom e0.platform room_1 = true :=
  launch0.hasRoom_least _ room_1 (by decide +kernel) (by decide +kernel) (by decide +kernel) (by decide +kernel) (by decide +kernel) (by decide +kernel)
theorem allAtoms_all (ts : List Jvm.Cond) (a : Array Jvm.Value) (st : Jvm.State) : (allAtoms ts).before a st = ts.all (fun c => c.before a st) := by
  induction ts with
  | nil => rfl
  | cons c t ih =>
    show (Jvm.Cond.and c (allAtoms t)).before a st = _
    rw [Jvm.Cond.before_and, ih, List.all_cons]
def words1 : List Jvm.Cond := Jvm.Cond.code x code maxLocals ret :: tables_1
/-- a 'code' word, met by the world's own term for the bytes: nothing is compared byte by byte -/
theorem code_word {y : MethodName} {bytes : ByteArray} {mx : Nat} {rt : Option FieldType} {a : Array Value} {s : State} {m : MethodId} {meth : Method} {c : Code} (h1 : s.methodNamed? y = some m) (h2 : s.vm.method? m = some meth) (h3 : meth.code = some c) (h4 : c.code = bytes)
    (h5 : (c.maxLocals == mx && c.exceptionTable.isEmpty && decide (c.maxStack ≤ mostOperands) && decide (meth.sig.returnType = rt) && !meth.locks && decide (parseMethodDescriptor y.desc = some meth.sig)) = true) : (Jvm.Cond.code y bytes mx rt).before a s = true := by
  simp only [Bool.and_eq_true, beq_iff_eq, Bool.not_eq_true', decide_eq_true_eq] at h5
  obtain ⟨⟨⟨⟨⟨g1, g2⟩, g3⟩, g4⟩, g5⟩, g6⟩ := h5
  simp [Cond.before, Cond.holds, Cond.value, h1, h2, h3, h4, g1, g2, g3, g4, g5, g6]
def isCode : Jvm.Cond → Bool
  | .code _ _ _ _ => true
  | _ => false
theorem all_split {L : List Jvm.Cond} {P : Jvm.Cond → Bool} (h1 : L.all (fun c => isCode c || P c) = true) (h2 : ∀ c ∈ L.filter isCode, P c = true) : L.all P = true := by
  refine List.all_eq_true.mpr fun c hc => ?_
  have h := List.all_eq_true.mp h1 c hc
  rcases Bool.eq_false_or_eq_true (isCode c) with hi | hi
  · exact h2 c (List.mem_filter.mpr ⟨hc, hi⟩)
  · simpa [hi] using h
set_option maxRecDepth 65536 in
theorem w_c0 : (Jvm.Cond.code x code maxLocals ret).before args0 about1 = true := code_word (m := ⟨1, 1⟩) (meth := k1m1) (c := k1c1) (by decide +kernel) rfl rfl rfl (by decide +kernel)
set_option maxRecDepth 65536 in
theorem w_c1 : (Jvm.Cond.code ({ cls := "com/example/loopwise/loopwise/frontend/KeptBytes", name := "keptByte", desc := "(C)I" } : Jvm.MethodName) prog_284_method_3_code (2 : Nat) (Option.some Jvm.ClassFile.FieldType.int)).before args0 about1 = true := code_word (m := ⟨2, 1⟩) (meth := k2m1) (c := k2c1) (by decide +kernel) rfl rfl rfl (by decide +kernel)
def codes1 : List Jvm.Cond := [Jvm.Cond.code x code maxLocals ret, Jvm.Cond.code ({ cls := "com/example/loopwise/loopwise/frontend/KeptBytes", name := "keptByte", desc := "(C)I" } : Jvm.MethodName) prog_284_method_3_code (2 : Nat) (Option.some Jvm.ClassFile.FieldType.int)]
set_option maxRecDepth 65536 in
theorem codes_eq : words1.filter isCode = codes1 := rfl
theorem w_codes : ∀ c ∈ words1.filter isCode, c.before args0 about1 = true := by
  rw [codes_eq]
  intro c hc
  simp only [codes1, List.mem_cons, List.not_mem_nil, or_false] at hc
  rcases hc with rfl | rfl
  · exact w_c0
  · exact w_c1
set_option maxRecDepth 65536 in
theorem w_t1 : words1.all (fun c => isCode c || c.before args0 about1) = true := by decide +kernel
theorem w_tables : (allAtoms (Jvm.Cond.code x code maxLocals ret :: tables_1)).before args0 about1 = true := by
  rw [allAtoms_all]
  show words1.all (fun c => c.before args0 about1) = true
  refine all_split ?_ w_codes
  rw [w_t1]
set_option maxRecDepth 65536 in
theorem w_case : (Jvm.Cond.and given_1 narrow_1).before args0 about1 = true := by decide +kernel
theorem w_applies : (headSpec (Jvm.Cond.code x code maxLocals ret :: tables_1) room_1).applies x e0.platform about1 = true :=
  (Spec.applies_iff w_frames).mpr ⟨w_running, w_runnable, w_alone, w_named, w_hears, w_ripe, w_room, w_tables⟩
theorem atStart : AtStart classFile x code maxLocals ret World_1 tables_1 room_1 Calls_1 rest_1 Pre_1 launch0 p0 e0 about1 theMethod args0 below0 :=
  ⟨lists_1, trivial, launch0.admits_env _ _ _, launch0.least_env, fairChoices_fair.cas, fairChoices_fair.clock, w_frames, w_args, w_heap, w_applies, trivial, trivial, w_case⟩
end start1
theorem witness_1 : WitnessClaimed_1 := ⟨start1.p0, start1.e0, start1.about1, start1.theMethod, start1.args0, start1.below0, start1.atStart⟩
end Jvm.Pilot.@@N@@
