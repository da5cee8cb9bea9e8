import JvmDerived
import JvmDerived.Pilot.@@N@@Statement
import JvmDerived.Pilot.@@N@@Code
set_option linter.unusedVariables false
set_option linter.unusedSimpArgs false

namespace Jvm.RoadKit
open Sem ClassFile Op Lib Jvm.Stand Jvm.Free Jvm.LawKit
section New
variable {p : Program} {l : Launch} {e : Env} {R : Room} {s : State} {m : MethodId} {args : Array Value} {below : List Frame} {meth : Method} {c : Code} {T : State} {locs : List Loc} {cells slots : Nat}
theorem retI (X : Stand p l e R s m args below meth c T locs cells slots) (hx : p.tables.exec = Jvm.exec) {pc : Nat} {Ls : Array Slot} {z : Int32} {rest : List Value} (hret : meth.sig.returnType = some .int) (hd : decode c.code pc = .ok (.ireturn, 1)) {fs : List Frame}
    (hl : ∀ (f : JFrame) (acts : List Action), f.method = m → f.locked = none → f.entered = [] → (doReturn e (T.setTop f) acts (some (.int z))).1 = T.setFrames fs) : Steps p.tables e below (T.setTop (mkF m pc Ls (.int z :: rest))) (T.setFrames fs) := by
  have hm' : T.vm.method? m = some meth := X.method'
  have hn : narrow .int (.int z) = .int z := rfl
  show Steps p.tables e below (T.setTop { method := m, pc := pc, locals := Ls, stack := _ :: rest, locked := none }) _
  jvm_step X.here [X.here.top, hx, hd, hm', hret, hn]
  first | (intro acts; rw [hl _ acts rfl rfl rfl]) | rw [hl _ _ rfl rfl rfl]
  exact Steps.refl _
end New
end Jvm.RoadKit
namespace Jvm.Pilot.@@N@@
open Jvm Jvm.ClassFile Sem Op Lib Jvm.Free Jvm.Stand Jvm.LawKit Jvm.RoadKit Bundle Jvm.Pilot.@@N@@.Jvm.D
abbrev own_Goes (tb : Tables) (e : Env) (below : List Frame) (A : State) (R : State → Outcome → Prop) : Prop := ∃ s₂ o, Steps tb e below A s₂ ∧ R s₂ o
theorem own_go {tb : Tables} {e : Env} {below : List Frame} {A B : State} {R : State → Outcome → Prop} (f : ∀ t, Steps tb e below B t → Steps tb e below A t) (h : own_Goes tb e below B R) : own_Goes tb e below A R := by
  obtain ⟨s₂, o, h1, h2⟩ := h
  exact ⟨s₂, o, f _ h1, h2⟩
theorem d1_0 : decode prog_22_method_3_code 0 = .ok (.iload_n 0, 1) := by decide +kernel
theorem d1_1 : decode prog_22_method_3_code 1 = .ok (.sipush 128, 3) := by decide +kernel
theorem d1_4 : decode prog_22_method_3_code 4 = .ok (.if_icmp .ge 39, 3) := by decide +kernel
theorem d1_7 : decode prog_22_method_3_code 7 = .ok (.iload_n 0, 1) := by decide +kernel
theorem d1_8 : decode prog_22_method_3_code 8 = .ok (.bipush 97, 2) := by decide +kernel
theorem d1_10 : decode prog_22_method_3_code 10 = .ok (.if_icmp .lt 9, 3) := by decide +kernel
theorem d1_13 : decode prog_22_method_3_code 13 = .ok (.iload_n 0, 1) := by decide +kernel
theorem d1_14 : decode prog_22_method_3_code 14 = .ok (.bipush 122, 2) := by decide +kernel
theorem d1_16 : decode prog_22_method_3_code 16 = .ok (.if_icmp .le 21, 3) := by decide +kernel
theorem d1_19 : decode prog_22_method_3_code 19 = .ok (.iload_n 0, 1) := by decide +kernel
theorem d1_20 : decode prog_22_method_3_code 20 = .ok (.bipush 65, 2) := by decide +kernel
theorem d1_22 : decode prog_22_method_3_code 22 = .ok (.if_icmp .lt 9, 3) := by decide +kernel
theorem d1_25 : decode prog_22_method_3_code 25 = .ok (.iload_n 0, 1) := by decide +kernel
theorem d1_26 : decode prog_22_method_3_code 26 = .ok (.bipush 90, 2) := by decide +kernel
theorem d1_28 : decode prog_22_method_3_code 28 = .ok (.if_icmp .le 9, 3) := by decide +kernel
theorem d1_31 : decode prog_22_method_3_code 31 = .ok (.iload_n 0, 1) := by decide +kernel
theorem d1_32 : decode prog_22_method_3_code 32 = .ok (.bipush 95, 2) := by decide +kernel
theorem d1_34 : decode prog_22_method_3_code 34 = .ok (.if_icmp .ne 7, 3) := by decide +kernel
theorem d1_37 : decode prog_22_method_3_code 37 = .ok (.iconst 1, 1) := by decide +kernel
theorem d1_38 : decode prog_22_method_3_code 38 = .ok (.goto 4, 3) := by decide +kernel
theorem d1_41 : decode prog_22_method_3_code 41 = .ok (.iconst 0, 1) := by decide +kernel
theorem d1_42 : decode prog_22_method_3_code 42 = .ok (.ireturn, 1) := by decide +kernel
theorem d1_43 : decode prog_22_method_3_code 43 = .ok (.iload_n 0, 1) := by decide +kernel
theorem d1_44 : decode prog_22_method_3_code 44 = .ok (.sipush 192, 3) := by decide +kernel
theorem d1_47 : decode prog_22_method_3_code 47 = .ok (.if_icmp .lt 10, 3) := by decide +kernel
theorem d1_50 : decode prog_22_method_3_code 50 = .ok (.iload_n 0, 1) := by decide +kernel
theorem d1_51 : decode prog_22_method_3_code 51 = .ok (.sipush 214, 3) := by decide +kernel
theorem d1_54 : decode prog_22_method_3_code 54 = .ok (.if_icmp .le 150, 3) := by decide +kernel
theorem d1_57 : decode prog_22_method_3_code 57 = .ok (.iload_n 0, 1) := by decide +kernel
theorem d1_58 : decode prog_22_method_3_code 58 = .ok (.sipush 216, 3) := by decide +kernel
theorem d1_61 : decode prog_22_method_3_code 61 = .ok (.if_icmp .lt 10, 3) := by decide +kernel
theorem d1_64 : decode prog_22_method_3_code 64 = .ok (.iload_n 0, 1) := by decide +kernel
theorem d1_65 : decode prog_22_method_3_code 65 = .ok (.sipush 246, 3) := by decide +kernel
theorem d1_68 : decode prog_22_method_3_code 68 = .ok (.if_icmp .le 136, 3) := by decide +kernel
theorem d1_71 : decode prog_22_method_3_code 71 = .ok (.iload_n 0, 1) := by decide +kernel
theorem d1_72 : decode prog_22_method_3_code 72 = .ok (.sipush 248, 3) := by decide +kernel
theorem d1_75 : decode prog_22_method_3_code 75 = .ok (.if_icmp .lt 10, 3) := by decide +kernel
theorem d1_78 : decode prog_22_method_3_code 78 = .ok (.iload_n 0, 1) := by decide +kernel
theorem d1_79 : decode prog_22_method_3_code 79 = .ok (.sipush 767, 3) := by decide +kernel
theorem d1_82 : decode prog_22_method_3_code 82 = .ok (.if_icmp .le 122, 3) := by decide +kernel
theorem d1_85 : decode prog_22_method_3_code 85 = .ok (.iload_n 0, 1) := by decide +kernel
theorem d1_86 : decode prog_22_method_3_code 86 = .ok (.sipush 880, 3) := by decide +kernel
theorem d1_89 : decode prog_22_method_3_code 89 = .ok (.if_icmp .lt 10, 3) := by decide +kernel
theorem d1_92 : decode prog_22_method_3_code 92 = .ok (.iload_n 0, 1) := by decide +kernel
theorem d1_93 : decode prog_22_method_3_code 93 = .ok (.sipush 893, 3) := by decide +kernel
theorem d1_96 : decode prog_22_method_3_code 96 = .ok (.if_icmp .le 108, 3) := by decide +kernel
theorem d1_99 : decode prog_22_method_3_code 99 = .ok (.iload_n 0, 1) := by decide +kernel
theorem d1_100 : decode prog_22_method_3_code 100 = .ok (.sipush 895, 3) := by decide +kernel
theorem d1_103 : decode prog_22_method_3_code 103 = .ok (.if_icmp .lt 10, 3) := by decide +kernel
theorem d1_106 : decode prog_22_method_3_code 106 = .ok (.iload_n 0, 1) := by decide +kernel
theorem d1_107 : decode prog_22_method_3_code 107 = .ok (.sipush 8191, 3) := by decide +kernel
theorem d1_110 : decode prog_22_method_3_code 110 = .ok (.if_icmp .le 94, 3) := by decide +kernel
theorem d1_113 : decode prog_22_method_3_code 113 = .ok (.iload_n 0, 1) := by decide +kernel
theorem d1_114 : decode prog_22_method_3_code 114 = .ok (.sipush 8204, 3) := by decide +kernel
theorem d1_117 : decode prog_22_method_3_code 117 = .ok (.if_icmp .lt 10, 3) := by decide +kernel
theorem d1_120 : decode prog_22_method_3_code 120 = .ok (.iload_n 0, 1) := by decide +kernel
theorem d1_121 : decode prog_22_method_3_code 121 = .ok (.sipush 8205, 3) := by decide +kernel
theorem d1_124 : decode prog_22_method_3_code 124 = .ok (.if_icmp .le 80, 3) := by decide +kernel
theorem d1_127 : decode prog_22_method_3_code 127 = .ok (.iload_n 0, 1) := by decide +kernel
theorem d1_128 : decode prog_22_method_3_code 128 = .ok (.sipush 8304, 3) := by decide +kernel
theorem d1_131 : decode prog_22_method_3_code 131 = .ok (.if_icmp .lt 10, 3) := by decide +kernel
theorem d1_134 : decode prog_22_method_3_code 134 = .ok (.iload_n 0, 1) := by decide +kernel
theorem d1_135 : decode prog_22_method_3_code 135 = .ok (.sipush 8591, 3) := by decide +kernel
theorem d1_138 : decode prog_22_method_3_code 138 = .ok (.if_icmp .le 66, 3) := by decide +kernel
theorem d1_141 : decode prog_22_method_3_code 141 = .ok (.iload_n 0, 1) := by decide +kernel
theorem d1_142 : decode prog_22_method_3_code 142 = .ok (.sipush 11264, 3) := by decide +kernel
theorem d1_145 : decode prog_22_method_3_code 145 = .ok (.if_icmp .lt 10, 3) := by decide +kernel
theorem d1_148 : decode prog_22_method_3_code 148 = .ok (.iload_n 0, 1) := by decide +kernel
theorem d1_149 : decode prog_22_method_3_code 149 = .ok (.sipush 12271, 3) := by decide +kernel
theorem d1_152 : decode prog_22_method_3_code 152 = .ok (.if_icmp .le 52, 3) := by decide +kernel
theorem d1_155 : decode prog_22_method_3_code 155 = .ok (.iload_n 0, 1) := by decide +kernel
theorem d1_156 : decode prog_22_method_3_code 156 = .ok (.sipush 12289, 3) := by decide +kernel
theorem d1_159 : decode prog_22_method_3_code 159 = .ok (.if_icmp .lt 9, 3) := by decide +kernel
theorem d1_162 : decode prog_22_method_3_code 162 = .ok (.iload_n 0, 1) := by decide +kernel
theorem d1_163 : decode prog_22_method_3_code 163 = .ok (.ldc 35, 2) := by decide +kernel
theorem d1_165 : decode prog_22_method_3_code 165 = .ok (.if_icmp .le 39, 3) := by decide +kernel
theorem d1_168 : decode prog_22_method_3_code 168 = .ok (.iload_n 0, 1) := by decide +kernel
theorem d1_169 : decode prog_22_method_3_code 169 = .ok (.ldc 36, 2) := by decide +kernel
theorem d1_171 : decode prog_22_method_3_code 171 = .ok (.if_icmp .lt 9, 3) := by decide +kernel
theorem d1_174 : decode prog_22_method_3_code 174 = .ok (.iload_n 0, 1) := by decide +kernel
theorem d1_175 : decode prog_22_method_3_code 175 = .ok (.ldc 37, 2) := by decide +kernel
theorem d1_177 : decode prog_22_method_3_code 177 = .ok (.if_icmp .le 27, 3) := by decide +kernel
theorem d1_180 : decode prog_22_method_3_code 180 = .ok (.iload_n 0, 1) := by decide +kernel
theorem d1_181 : decode prog_22_method_3_code 181 = .ok (.ldc 38, 2) := by decide +kernel
theorem d1_183 : decode prog_22_method_3_code 183 = .ok (.if_icmp .lt 9, 3) := by decide +kernel
theorem d1_186 : decode prog_22_method_3_code 186 = .ok (.iload_n 0, 1) := by decide +kernel
theorem d1_187 : decode prog_22_method_3_code 187 = .ok (.ldc 39, 2) := by decide +kernel
theorem d1_189 : decode prog_22_method_3_code 189 = .ok (.if_icmp .le 15, 3) := by decide +kernel
theorem d1_192 : decode prog_22_method_3_code 192 = .ok (.iload_n 0, 1) := by decide +kernel
theorem d1_193 : decode prog_22_method_3_code 193 = .ok (.ldc 40, 2) := by decide +kernel
theorem d1_195 : decode prog_22_method_3_code 195 = .ok (.if_icmp .lt 13, 3) := by decide +kernel
theorem d1_198 : decode prog_22_method_3_code 198 = .ok (.iload_n 0, 1) := by decide +kernel
theorem d1_199 : decode prog_22_method_3_code 199 = .ok (.ldc 41, 2) := by decide +kernel
theorem d1_201 : decode prog_22_method_3_code 201 = .ok (.if_icmp .gt 7, 3) := by decide +kernel
theorem d1_204 : decode prog_22_method_3_code 204 = .ok (.iconst 1, 1) := by decide +kernel
theorem d1_205 : decode prog_22_method_3_code 205 = .ok (.goto 4, 3) := by decide +kernel
theorem d1_208 : decode prog_22_method_3_code 208 = .ok (.iconst 0, 1) := by decide +kernel
theorem d1_209 : decode prog_22_method_3_code 209 = .ok (.ireturn, 1) := by decide +kernel
theorem pn_1 : plainName "com/example/homing_pigeon/homingpigeon/NCName" = true := by first | (simp [plainName, overriddenIn]; done) | decide +kernel
theorem ef_1 (m : MethodId) (x0 : Int32) : entryFrame m #[(.int x0)] 1 = mkF m 0 #[.val (.int x0)] [] := by first | (simp [entryFrame, mkF, argsToLocals, Value.category]; done) | rfl
def F1 (p0 : Int32)  : Int32 := if p0 < (128 : Int32) then (if p0 < (97 : Int32) then (if p0 < (65 : Int32) then (0 : Int32) else if (90 : Int32) < p0 then (if p0 = (95 : Int32) then (1 : Int32) else (0 : Int32)) else (1 : Int32)) else if (122 : Int32) < p0 then (0 : Int32) else (1 : Int32)) else if p0 < (192 : Int32) then (0 : Int32) else if (214 : Int32) < p0 then (if p0 < (216 : Int32) then (0 : Int32) else if (246 : Int32) < p0 then (if p0 < (248 : Int32) then (0 : Int32) else if (767 : Int32) < p0 then (if p0 < (880 : Int32) then (0 : Int32) else if (893 : Int32) < p0 then (if p0 < (895 : Int32) then (0 : Int32) else if (8191 : Int32) < p0 then (if p0 < (8204 : Int32) then (0 : Int32) else if (8205 : Int32) < p0 then (if p0 < (8304 : Int32) then (0 : Int32) else if (8591 : Int32) < p0 then (if p0 < (11264 : Int32) then (0 : Int32) else if (12271 : Int32) < p0 then (if p0 < (12289 : Int32) then (0 : Int32) else if (55295 : Int32) < p0 then (if p0 < (63744 : Int32) then (0 : Int32) else if (64975 : Int32) < p0 then (if p0 < (65008 : Int32) then (0 : Int32) else if (65533 : Int32) < p0 then (if p0 < (65536 : Int32) then (0 : Int32) else if (983039 : Int32) < p0 then (0 : Int32) else (1 : Int32)) else (1 : Int32)) else (1 : Int32)) else (1 : Int32)) else (1 : Int32)) else (1 : Int32)) else (1 : Int32)) else (1 : Int32)) else (1 : Int32)) else (1 : Int32)) else (1 : Int32)) else (1 : Int32)
def Q1 (Z : State) (p0 : Int32)  (h0 : Heap) (n0 : Nat) (v : Option Value) (h : Heap) (L : List Loc) : Prop := v = some (.int (F1 p0)) ∧ Fr n0 L ∧ h = h0
set_option maxRecDepth 65536 in
set_option maxHeartbeats 40000000 in
theorem rm1 (l : Launch) (Z : State) (a0 : Array Value) (hw : ∀ d ∈ tables_1, d.before a0 Z = true) (ws : List Jvm.Cond) (p0 : Int32)  (h0 : Heap) (n0 : Nat)  :
    MetFree l (⟨"com/example/homing_pigeon/homingpigeon/NCName", "isNameStartChar", "(I)Z"⟩ : MethodName) (head1 (Jvm.Cond.code (⟨"com/example/homing_pigeon/homingpigeon/NCName", "isNameStartChar", "(I)Z"⟩ : MethodName) prog_22_method_3_code 1 (some .boolean) :: ws) ({ frames := 0, cells := 0, slots := 0, locals := 0 } : Room)) (fun a U => a = #[(.int p0)] ∧ Z.Warmed39 U.vm ∧ U.heap = h0) (fun _ _ _ _ _ => True) (fun _ U o U' => ∃ v L, o = .returned v ∧ Q1 Z p0  h0 n0 v U'.heap L ∧ FrameEnd U o U' L ({ frames := 0, cells := 0, slots := 0, locals := 0 } : Room).cells ({ frames := 0, cells := 0, slots := 0, locals := 0 } : Room).slots) := by
  refine MetFree.of_bodySF (plainFor_of_name pn_1) hisR ?_
  intro p e s m args below meth c s₁ Bd hml0 hP hK
  obtain ⟨rfl, hZ, hh⟩ := hP
  have hx := Bd.exec
  have hby := Bd.bytes
  have hml : c.maxLocals = 1 := hml0
  have hown : s.vm.findClass "com/example/homing_pigeon/homingpigeon/NCName" = some m.cls := findClass_of_methodNamed Bd.named
  have hnm := (name_of_methodNamed Bd.named Bd.method).1
  have X0 : Stand p l e ({ frames := 0, cells := 0, slots := 0, locals := 0 } : Room) s m #[(.int p0)] below meth c s₁ [] 0 0 := Stand.of_body Bd
  have e0 : s₁.heap = h0 := by rw [← hh, Bd.state]; rfl
  have N0 := Fr.nil n0
  refine own_go (B := (s₁.setTop (mkF m 0 #[.val (.int p0)] []))) (fun t k => castTop (ef_1 m p0) k) ?_
  refine own_go (B := (s₁.setTop (mkF m 1 #[.val (.int p0)] [(.int p0)]))) (fun t k => XS.iloadN X0.here hx rfl (hb hby d1_0) rfl k) ?_
  refine own_go (B := (s₁.setTop (mkF m 4 #[.val (.int p0)] [(.int (128 : Int32)), (.int p0)]))) (fun t k => XS.sipush X0.here hx rfl (hb hby d1_1) k) ?_
  by_cases hc4 : p0 < (128 : Int32)
  · refine own_go (B := (s₁.setTop (mkF m 7 #[.val (.int p0)] []))) (fun t k => XS.icmpNo X0.here hx rfl (hb hby d1_4) rfl (tlt hc4).2.1 k) ?_
    refine own_go (B := (s₁.setTop (mkF m 8 #[.val (.int p0)] [(.int p0)]))) (fun t k => XS.iloadN X0.here hx rfl (hb hby d1_7) rfl k) ?_
    refine own_go (B := (s₁.setTop (mkF m 10 #[.val (.int p0)] [(.int (97 : Int32)), (.int p0)]))) (fun t k => XS.bipush X0.here hx rfl (hb hby d1_8) k) ?_
    by_cases hc10 : p0 < (97 : Int32)
    · refine own_go (B := (s₁.setTop (mkF m 19 #[.val (.int p0)] []))) (fun t k => XS.icmpYes X0.here hx rfl (pc0 := 10) (pc' := 19) rfl (hb hby d1_10) rfl (tlt hc10).1 (by decide) (by decide) k) ?_
      refine own_go (B := (s₁.setTop (mkF m 20 #[.val (.int p0)] [(.int p0)]))) (fun t k => XS.iloadN X0.here hx rfl (hb hby d1_19) rfl k) ?_
      refine own_go (B := (s₁.setTop (mkF m 22 #[.val (.int p0)] [(.int (65 : Int32)), (.int p0)]))) (fun t k => XS.bipush X0.here hx rfl (hb hby d1_20) k) ?_
      by_cases hc22 : p0 < (65 : Int32)
      · refine own_go (B := (s₁.setTop (mkF m 31 #[.val (.int p0)] []))) (fun t k => XS.icmpYes X0.here hx rfl (pc0 := 22) (pc' := 31) rfl (hb hby d1_22) rfl (tlt hc22).1 (by decide) (by decide) k) ?_
        refine own_go (B := (s₁.setTop (mkF m 32 #[.val (.int p0)] [(.int p0)]))) (fun t k => XS.iloadN X0.here hx rfl (hb hby d1_31) rfl k) ?_
        refine own_go (B := (s₁.setTop (mkF m 34 #[.val (.int p0)] [(.int (95 : Int32)), (.int p0)]))) (fun t k => XS.bipush X0.here hx rfl (hb hby d1_32) k) ?_
        refine own_go (B := (s₁.setTop (mkF m 41 #[.val (.int p0)] []))) (fun t k => XS.icmpYes X0.here hx rfl (pc0 := 34) (pc' := 41) rfl (hb hby d1_34) rfl (feq (by revert hc22; simp only [Int32.lt_iff_toInt_lt, ← Int32.toInt_inj, Int32.reduceToInt]; intros; omega)).2 (by decide) (by decide) k) ?_
        refine own_go (B := (s₁.setTop (mkF m 42 #[.val (.int p0)] [(.int (0 : Int32))]))) (fun t k => XS.iconst X0.here hx rfl (hb hby d1_41) k) ?_
        obtain ⟨fs, hr, hrun, hended, hW, hsame⟩ := X0.leave (v := some (.int (0 : Int32))) (fun h => by rw [Bd.returns] at h; cases h)
        exact ⟨_, _, retN X0 hx (t := .boolean) Bd.returns (by simp) (hb hby d1_42) hr, hrun, hended, _, _, rfl, ⟨congrArg (fun z => some (Value.int z)) (by simp only [F1, if_pos hc4, if_pos hc10, if_pos hc22]), N0, e0⟩, ⟨_, rfl⟩, hW, hsame.mono (by decide) (by decide)⟩
      · refine own_go (B := (s₁.setTop (mkF m 25 #[.val (.int p0)] []))) (fun t k => XS.icmpNo X0.here hx rfl (hb hby d1_22) rfl (flt hc22).1 k) ?_
        refine own_go (B := (s₁.setTop (mkF m 26 #[.val (.int p0)] [(.int p0)]))) (fun t k => XS.iloadN X0.here hx rfl (hb hby d1_25) rfl k) ?_
        refine own_go (B := (s₁.setTop (mkF m 28 #[.val (.int p0)] [(.int (90 : Int32)), (.int p0)]))) (fun t k => XS.bipush X0.here hx rfl (hb hby d1_26) k) ?_
        by_cases hc28 : (90 : Int32) < p0
        · refine own_go (B := (s₁.setTop (mkF m 31 #[.val (.int p0)] []))) (fun t k => XS.icmpNo X0.here hx rfl (hb hby d1_28) rfl (tlt hc28).2.2.2 k) ?_
          refine own_go (B := (s₁.setTop (mkF m 32 #[.val (.int p0)] [(.int p0)]))) (fun t k => XS.iloadN X0.here hx rfl (hb hby d1_31) rfl k) ?_
          refine own_go (B := (s₁.setTop (mkF m 34 #[.val (.int p0)] [(.int (95 : Int32)), (.int p0)]))) (fun t k => XS.bipush X0.here hx rfl (hb hby d1_32) k) ?_
          by_cases hc34 : p0 = (95 : Int32)
          · refine own_go (B := (s₁.setTop (mkF m 37 #[.val (.int p0)] []))) (fun t k => XS.icmpNo X0.here hx rfl (hb hby d1_34) rfl (teq hc34).2 k) ?_
            refine own_go (B := (s₁.setTop (mkF m 38 #[.val (.int p0)] [(.int (1 : Int32))]))) (fun t k => XS.iconst X0.here hx rfl (hb hby d1_37) k) ?_
            refine own_go (B := (s₁.setTop (mkF m 42 #[.val (.int p0)] [(.int (1 : Int32))]))) (fun t k => XS.goto X0.here hx rfl (pc0 := 38) (pc' := 42) rfl (hb hby d1_38) (by decide) (by decide) k) ?_
            obtain ⟨fs, hr, hrun, hended, hW, hsame⟩ := X0.leave (v := some (.int (1 : Int32))) (fun h => by rw [Bd.returns] at h; cases h)
            exact ⟨_, _, retN X0 hx (t := .boolean) Bd.returns (by simp) (hb hby d1_42) hr, hrun, hended, _, _, rfl, ⟨congrArg (fun z => some (Value.int z)) (by simp only [F1, if_pos hc4, if_pos hc10, if_neg hc22, if_pos hc28, if_pos hc34]), N0, e0⟩, ⟨_, rfl⟩, hW, hsame.mono (by decide) (by decide)⟩
          · refine own_go (B := (s₁.setTop (mkF m 41 #[.val (.int p0)] []))) (fun t k => XS.icmpYes X0.here hx rfl (pc0 := 34) (pc' := 41) rfl (hb hby d1_34) rfl (feq hc34).2 (by decide) (by decide) k) ?_
            refine own_go (B := (s₁.setTop (mkF m 42 #[.val (.int p0)] [(.int (0 : Int32))]))) (fun t k => XS.iconst X0.here hx rfl (hb hby d1_41) k) ?_
            obtain ⟨fs, hr, hrun, hended, hW, hsame⟩ := X0.leave (v := some (.int (0 : Int32))) (fun h => by rw [Bd.returns] at h; cases h)
            exact ⟨_, _, retN X0 hx (t := .boolean) Bd.returns (by simp) (hb hby d1_42) hr, hrun, hended, _, _, rfl, ⟨congrArg (fun z => some (Value.int z)) (by simp only [F1, if_pos hc4, if_pos hc10, if_neg hc22, if_pos hc28, if_neg hc34]), N0, e0⟩, ⟨_, rfl⟩, hW, hsame.mono (by decide) (by decide)⟩
        · refine own_go (B := (s₁.setTop (mkF m 37 #[.val (.int p0)] []))) (fun t k => XS.icmpYes X0.here hx rfl (pc0 := 28) (pc' := 37) rfl (hb hby d1_28) rfl (flt hc28).2.2.2 (by decide) (by decide) k) ?_
          refine own_go (B := (s₁.setTop (mkF m 38 #[.val (.int p0)] [(.int (1 : Int32))]))) (fun t k => XS.iconst X0.here hx rfl (hb hby d1_37) k) ?_
          refine own_go (B := (s₁.setTop (mkF m 42 #[.val (.int p0)] [(.int (1 : Int32))]))) (fun t k => XS.goto X0.here hx rfl (pc0 := 38) (pc' := 42) rfl (hb hby d1_38) (by decide) (by decide) k) ?_
          obtain ⟨fs, hr, hrun, hended, hW, hsame⟩ := X0.leave (v := some (.int (1 : Int32))) (fun h => by rw [Bd.returns] at h; cases h)
          exact ⟨_, _, retN X0 hx (t := .boolean) Bd.returns (by simp) (hb hby d1_42) hr, hrun, hended, _, _, rfl, ⟨congrArg (fun z => some (Value.int z)) (by simp only [F1, if_pos hc4, if_pos hc10, if_neg hc22, if_neg hc28]), N0, e0⟩, ⟨_, rfl⟩, hW, hsame.mono (by decide) (by decide)⟩
    · refine own_go (B := (s₁.setTop (mkF m 13 #[.val (.int p0)] []))) (fun t k => XS.icmpNo X0.here hx rfl (hb hby d1_10) rfl (flt hc10).1 k) ?_
      refine own_go (B := (s₁.setTop (mkF m 14 #[.val (.int p0)] [(.int p0)]))) (fun t k => XS.iloadN X0.here hx rfl (hb hby d1_13) rfl k) ?_
      refine own_go (B := (s₁.setTop (mkF m 16 #[.val (.int p0)] [(.int (122 : Int32)), (.int p0)]))) (fun t k => XS.bipush X0.here hx rfl (hb hby d1_14) k) ?_
      by_cases hc16 : (122 : Int32) < p0
      · refine own_go (B := (s₁.setTop (mkF m 19 #[.val (.int p0)] []))) (fun t k => XS.icmpNo X0.here hx rfl (hb hby d1_16) rfl (tlt hc16).2.2.2 k) ?_
        refine own_go (B := (s₁.setTop (mkF m 20 #[.val (.int p0)] [(.int p0)]))) (fun t k => XS.iloadN X0.here hx rfl (hb hby d1_19) rfl k) ?_
        refine own_go (B := (s₁.setTop (mkF m 22 #[.val (.int p0)] [(.int (65 : Int32)), (.int p0)]))) (fun t k => XS.bipush X0.here hx rfl (hb hby d1_20) k) ?_
        refine own_go (B := (s₁.setTop (mkF m 25 #[.val (.int p0)] []))) (fun t k => XS.icmpNo X0.here hx rfl (hb hby d1_22) rfl (flt (by revert hc16 hc4; simp only [Int32.lt_iff_toInt_lt, ← Int32.toInt_inj, Int32.reduceToInt]; intros; omega)).1 k) ?_
        refine own_go (B := (s₁.setTop (mkF m 26 #[.val (.int p0)] [(.int p0)]))) (fun t k => XS.iloadN X0.here hx rfl (hb hby d1_25) rfl k) ?_
        refine own_go (B := (s₁.setTop (mkF m 28 #[.val (.int p0)] [(.int (90 : Int32)), (.int p0)]))) (fun t k => XS.bipush X0.here hx rfl (hb hby d1_26) k) ?_
        refine own_go (B := (s₁.setTop (mkF m 31 #[.val (.int p0)] []))) (fun t k => XS.icmpNo X0.here hx rfl (hb hby d1_28) rfl (tlt (by revert hc16 hc4; simp only [Int32.lt_iff_toInt_lt, ← Int32.toInt_inj, Int32.reduceToInt]; intros; omega)).2.2.2 k) ?_
        refine own_go (B := (s₁.setTop (mkF m 32 #[.val (.int p0)] [(.int p0)]))) (fun t k => XS.iloadN X0.here hx rfl (hb hby d1_31) rfl k) ?_
        refine own_go (B := (s₁.setTop (mkF m 34 #[.val (.int p0)] [(.int (95 : Int32)), (.int p0)]))) (fun t k => XS.bipush X0.here hx rfl (hb hby d1_32) k) ?_
        refine own_go (B := (s₁.setTop (mkF m 41 #[.val (.int p0)] []))) (fun t k => XS.icmpYes X0.here hx rfl (pc0 := 34) (pc' := 41) rfl (hb hby d1_34) rfl (feq (by revert hc16 hc4; simp only [Int32.lt_iff_toInt_lt, ← Int32.toInt_inj, Int32.reduceToInt]; intros; omega)).2 (by decide) (by decide) k) ?_
        refine own_go (B := (s₁.setTop (mkF m 42 #[.val (.int p0)] [(.int (0 : Int32))]))) (fun t k => XS.iconst X0.here hx rfl (hb hby d1_41) k) ?_
        obtain ⟨fs, hr, hrun, hended, hW, hsame⟩ := X0.leave (v := some (.int (0 : Int32))) (fun h => by rw [Bd.returns] at h; cases h)
        exact ⟨_, _, retN X0 hx (t := .boolean) Bd.returns (by simp) (hb hby d1_42) hr, hrun, hended, _, _, rfl, ⟨congrArg (fun z => some (Value.int z)) (by simp only [F1, if_pos hc4, if_neg hc10, if_pos hc16]), N0, e0⟩, ⟨_, rfl⟩, hW, hsame.mono (by decide) (by decide)⟩
      · refine own_go (B := (s₁.setTop (mkF m 37 #[.val (.int p0)] []))) (fun t k => XS.icmpYes X0.here hx rfl (pc0 := 16) (pc' := 37) rfl (hb hby d1_16) rfl (flt hc16).2.2.2 (by decide) (by decide) k) ?_
        refine own_go (B := (s₁.setTop (mkF m 38 #[.val (.int p0)] [(.int (1 : Int32))]))) (fun t k => XS.iconst X0.here hx rfl (hb hby d1_37) k) ?_
        refine own_go (B := (s₁.setTop (mkF m 42 #[.val (.int p0)] [(.int (1 : Int32))]))) (fun t k => XS.goto X0.here hx rfl (pc0 := 38) (pc' := 42) rfl (hb hby d1_38) (by decide) (by decide) k) ?_
        obtain ⟨fs, hr, hrun, hended, hW, hsame⟩ := X0.leave (v := some (.int (1 : Int32))) (fun h => by rw [Bd.returns] at h; cases h)
        exact ⟨_, _, retN X0 hx (t := .boolean) Bd.returns (by simp) (hb hby d1_42) hr, hrun, hended, _, _, rfl, ⟨congrArg (fun z => some (Value.int z)) (by simp only [F1, if_pos hc4, if_neg hc10, if_neg hc16]), N0, e0⟩, ⟨_, rfl⟩, hW, hsame.mono (by decide) (by decide)⟩
  · refine own_go (B := (s₁.setTop (mkF m 43 #[.val (.int p0)] []))) (fun t k => XS.icmpYes X0.here hx rfl (pc0 := 4) (pc' := 43) rfl (hb hby d1_4) rfl (flt hc4).2.1 (by decide) (by decide) k) ?_
    refine own_go (B := (s₁.setTop (mkF m 44 #[.val (.int p0)] [(.int p0)]))) (fun t k => XS.iloadN X0.here hx rfl (hb hby d1_43) rfl k) ?_
    refine own_go (B := (s₁.setTop (mkF m 47 #[.val (.int p0)] [(.int (192 : Int32)), (.int p0)]))) (fun t k => XS.sipush X0.here hx rfl (hb hby d1_44) k) ?_
    by_cases hc47 : p0 < (192 : Int32)
    · refine own_go (B := (s₁.setTop (mkF m 57 #[.val (.int p0)] []))) (fun t k => XS.icmpYes X0.here hx rfl (pc0 := 47) (pc' := 57) rfl (hb hby d1_47) rfl (tlt hc47).1 (by decide) (by decide) k) ?_
      refine own_go (B := (s₁.setTop (mkF m 58 #[.val (.int p0)] [(.int p0)]))) (fun t k => XS.iloadN X0.here hx rfl (hb hby d1_57) rfl k) ?_
      refine own_go (B := (s₁.setTop (mkF m 61 #[.val (.int p0)] [(.int (216 : Int32)), (.int p0)]))) (fun t k => XS.sipush X0.here hx rfl (hb hby d1_58) k) ?_
      refine own_go (B := (s₁.setTop (mkF m 71 #[.val (.int p0)] []))) (fun t k => XS.icmpYes X0.here hx rfl (pc0 := 61) (pc' := 71) rfl (hb hby d1_61) rfl (tlt (by revert hc4 hc47; simp only [Int32.lt_iff_toInt_lt, ← Int32.toInt_inj, Int32.reduceToInt]; intros; omega)).1 (by decide) (by decide) k) ?_
      refine own_go (B := (s₁.setTop (mkF m 72 #[.val (.int p0)] [(.int p0)]))) (fun t k => XS.iloadN X0.here hx rfl (hb hby d1_71) rfl k) ?_
      refine own_go (B := (s₁.setTop (mkF m 75 #[.val (.int p0)] [(.int (248 : Int32)), (.int p0)]))) (fun t k => XS.sipush X0.here hx rfl (hb hby d1_72) k) ?_
      refine own_go (B := (s₁.setTop (mkF m 85 #[.val (.int p0)] []))) (fun t k => XS.icmpYes X0.here hx rfl (pc0 := 75) (pc' := 85) rfl (hb hby d1_75) rfl (tlt (by revert hc4 hc47; simp only [Int32.lt_iff_toInt_lt, ← Int32.toInt_inj, Int32.reduceToInt]; intros; omega)).1 (by decide) (by decide) k) ?_
      refine own_go (B := (s₁.setTop (mkF m 86 #[.val (.int p0)] [(.int p0)]))) (fun t k => XS.iloadN X0.here hx rfl (hb hby d1_85) rfl k) ?_
      refine own_go (B := (s₁.setTop (mkF m 89 #[.val (.int p0)] [(.int (880 : Int32)), (.int p0)]))) (fun t k => XS.sipush X0.here hx rfl (hb hby d1_86) k) ?_
      refine own_go (B := (s₁.setTop (mkF m 99 #[.val (.int p0)] []))) (fun t k => XS.icmpYes X0.here hx rfl (pc0 := 89) (pc' := 99) rfl (hb hby d1_89) rfl (tlt (by revert hc4 hc47; simp only [Int32.lt_iff_toInt_lt, ← Int32.toInt_inj, Int32.reduceToInt]; intros; omega)).1 (by decide) (by decide) k) ?_
      refine own_go (B := (s₁.setTop (mkF m 100 #[.val (.int p0)] [(.int p0)]))) (fun t k => XS.iloadN X0.here hx rfl (hb hby d1_99) rfl k) ?_
      refine own_go (B := (s₁.setTop (mkF m 103 #[.val (.int p0)] [(.int (895 : Int32)), (.int p0)]))) (fun t k => XS.sipush X0.here hx rfl (hb hby d1_100) k) ?_
      refine own_go (B := (s₁.setTop (mkF m 113 #[.val (.int p0)] []))) (fun t k => XS.icmpYes X0.here hx rfl (pc0 := 103) (pc' := 113) rfl (hb hby d1_103) rfl (tlt (by revert hc4 hc47; simp only [Int32.lt_iff_toInt_lt, ← Int32.toInt_inj, Int32.reduceToInt]; intros; omega)).1 (by decide) (by decide) k) ?_
      refine own_go (B := (s₁.setTop (mkF m 114 #[.val (.int p0)] [(.int p0)]))) (fun t k => XS.iloadN X0.here hx rfl (hb hby d1_113) rfl k) ?_
      refine own_go (B := (s₁.setTop (mkF m 117 #[.val (.int p0)] [(.int (8204 : Int32)), (.int p0)]))) (fun t k => XS.sipush X0.here hx rfl (hb hby d1_114) k) ?_
      refine own_go (B := (s₁.setTop (mkF m 127 #[.val (.int p0)] []))) (fun t k => XS.icmpYes X0.here hx rfl (pc0 := 117) (pc' := 127) rfl (hb hby d1_117) rfl (tlt (by revert hc4 hc47; simp only [Int32.lt_iff_toInt_lt, ← Int32.toInt_inj, Int32.reduceToInt]; intros; omega)).1 (by decide) (by decide) k) ?_
      refine own_go (B := (s₁.setTop (mkF m 128 #[.val (.int p0)] [(.int p0)]))) (fun t k => XS.iloadN X0.here hx rfl (hb hby d1_127) rfl k) ?_
      refine own_go (B := (s₁.setTop (mkF m 131 #[.val (.int p0)] [(.int (8304 : Int32)), (.int p0)]))) (fun t k => XS.sipush X0.here hx rfl (hb hby d1_128) k) ?_
      refine own_go (B := (s₁.setTop (mkF m 141 #[.val (.int p0)] []))) (fun t k => XS.icmpYes X0.here hx rfl (pc0 := 131) (pc' := 141) rfl (hb hby d1_131) rfl (tlt (by revert hc4 hc47; simp only [Int32.lt_iff_toInt_lt, ← Int32.toInt_inj, Int32.reduceToInt]; intros; omega)).1 (by decide) (by decide) k) ?_
      refine own_go (B := (s₁.setTop (mkF m 142 #[.val (.int p0)] [(.int p0)]))) (fun t k => XS.iloadN X0.here hx rfl (hb hby d1_141) rfl k) ?_
      refine own_go (B := (s₁.setTop (mkF m 145 #[.val (.int p0)] [(.int (11264 : Int32)), (.int p0)]))) (fun t k => XS.sipush X0.here hx rfl (hb hby d1_142) k) ?_
      refine own_go (B := (s₁.setTop (mkF m 155 #[.val (.int p0)] []))) (fun t k => XS.icmpYes X0.here hx rfl (pc0 := 145) (pc' := 155) rfl (hb hby d1_145) rfl (tlt (by revert hc4 hc47; simp only [Int32.lt_iff_toInt_lt, ← Int32.toInt_inj, Int32.reduceToInt]; intros; omega)).1 (by decide) (by decide) k) ?_
      refine own_go (B := (s₁.setTop (mkF m 156 #[.val (.int p0)] [(.int p0)]))) (fun t k => XS.iloadN X0.here hx rfl (hb hby d1_155) rfl k) ?_
      refine own_go (B := (s₁.setTop (mkF m 159 #[.val (.int p0)] [(.int (12289 : Int32)), (.int p0)]))) (fun t k => XS.sipush X0.here hx rfl (hb hby d1_156) k) ?_
      refine own_go (B := (s₁.setTop (mkF m 168 #[.val (.int p0)] []))) (fun t k => XS.icmpYes X0.here hx rfl (pc0 := 159) (pc' := 168) rfl (hb hby d1_159) rfl (tlt (by revert hc4 hc47; simp only [Int32.lt_iff_toInt_lt, ← Int32.toInt_inj, Int32.reduceToInt]; intros; omega)).1 (by decide) (by decide) k) ?_
      refine own_go (B := (s₁.setTop (mkF m 169 #[.val (.int p0)] [(.int p0)]))) (fun t k => XS.iloadN X0.here hx rfl (hb hby d1_168) rfl k) ?_
      refine own_go (B := (s₁.setTop (mkF m 171 #[.val (.int p0)] [(.int (63744 : Int32)), (.int p0)]))) (fun t k => X0.ldcInt hx hown (mvT hZ (hw _ (List.mem_of_getElem? (i := 22) rfl))) (g := (mkF m 169 #[.val (.int p0)] [(.int p0)])) rfl (hb hby d1_169) _ k) ?_
      refine own_go (B := (s₁.setTop (mkF m 180 #[.val (.int p0)] []))) (fun t k => XS.icmpYes X0.here hx rfl (pc0 := 171) (pc' := 180) rfl (hb hby d1_171) rfl (tlt (by revert hc4 hc47; simp only [Int32.lt_iff_toInt_lt, ← Int32.toInt_inj, Int32.reduceToInt]; intros; omega)).1 (by decide) (by decide) k) ?_
      refine own_go (B := (s₁.setTop (mkF m 181 #[.val (.int p0)] [(.int p0)]))) (fun t k => XS.iloadN X0.here hx rfl (hb hby d1_180) rfl k) ?_
      refine own_go (B := (s₁.setTop (mkF m 183 #[.val (.int p0)] [(.int (65008 : Int32)), (.int p0)]))) (fun t k => X0.ldcInt hx hown (mvT hZ (hw _ (List.mem_of_getElem? (i := 23) rfl))) (g := (mkF m 181 #[.val (.int p0)] [(.int p0)])) rfl (hb hby d1_181) _ k) ?_
      refine own_go (B := (s₁.setTop (mkF m 192 #[.val (.int p0)] []))) (fun t k => XS.icmpYes X0.here hx rfl (pc0 := 183) (pc' := 192) rfl (hb hby d1_183) rfl (tlt (by revert hc4 hc47; simp only [Int32.lt_iff_toInt_lt, ← Int32.toInt_inj, Int32.reduceToInt]; intros; omega)).1 (by decide) (by decide) k) ?_
      refine own_go (B := (s₁.setTop (mkF m 193 #[.val (.int p0)] [(.int p0)]))) (fun t k => XS.iloadN X0.here hx rfl (hb hby d1_192) rfl k) ?_
      refine own_go (B := (s₁.setTop (mkF m 195 #[.val (.int p0)] [(.int (65536 : Int32)), (.int p0)]))) (fun t k => X0.ldcInt hx hown (mvT hZ (hw _ (List.mem_of_getElem? (i := 24) rfl))) (g := (mkF m 193 #[.val (.int p0)] [(.int p0)])) rfl (hb hby d1_193) _ k) ?_
      refine own_go (B := (s₁.setTop (mkF m 208 #[.val (.int p0)] []))) (fun t k => XS.icmpYes X0.here hx rfl (pc0 := 195) (pc' := 208) rfl (hb hby d1_195) rfl (tlt (by revert hc4 hc47; simp only [Int32.lt_iff_toInt_lt, ← Int32.toInt_inj, Int32.reduceToInt]; intros; omega)).1 (by decide) (by decide) k) ?_
      refine own_go (B := (s₁.setTop (mkF m 209 #[.val (.int p0)] [(.int (0 : Int32))]))) (fun t k => XS.iconst X0.here hx rfl (hb hby d1_208) k) ?_
      obtain ⟨fs, hr, hrun, hended, hW, hsame⟩ := X0.leave (v := some (.int (0 : Int32))) (fun h => by rw [Bd.returns] at h; cases h)
      exact ⟨_, _, retN X0 hx (t := .boolean) Bd.returns (by simp) (hb hby d1_209) hr, hrun, hended, _, _, rfl, ⟨congrArg (fun z => some (Value.int z)) (by simp only [F1, if_neg hc4, if_pos hc47]), N0, e0⟩, ⟨_, rfl⟩, hW, hsame.mono (by decide) (by decide)⟩
    · refine own_go (B := (s₁.setTop (mkF m 50 #[.val (.int p0)] []))) (fun t k => XS.icmpNo X0.here hx rfl (hb hby d1_47) rfl (flt hc47).1 k) ?_
      refine own_go (B := (s₁.setTop (mkF m 51 #[.val (.int p0)] [(.int p0)]))) (fun t k => XS.iloadN X0.here hx rfl (hb hby d1_50) rfl k) ?_
      refine own_go (B := (s₁.setTop (mkF m 54 #[.val (.int p0)] [(.int (214 : Int32)), (.int p0)]))) (fun t k => XS.sipush X0.here hx rfl (hb hby d1_51) k) ?_
      by_cases hc54 : (214 : Int32) < p0
      · refine own_go (B := (s₁.setTop (mkF m 57 #[.val (.int p0)] []))) (fun t k => XS.icmpNo X0.here hx rfl (hb hby d1_54) rfl (tlt hc54).2.2.2 k) ?_
        refine own_go (B := (s₁.setTop (mkF m 58 #[.val (.int p0)] [(.int p0)]))) (fun t k => XS.iloadN X0.here hx rfl (hb hby d1_57) rfl k) ?_
        refine own_go (B := (s₁.setTop (mkF m 61 #[.val (.int p0)] [(.int (216 : Int32)), (.int p0)]))) (fun t k => XS.sipush X0.here hx rfl (hb hby d1_58) k) ?_
        by_cases hc61 : p0 < (216 : Int32)
        · refine own_go (B := (s₁.setTop (mkF m 71 #[.val (.int p0)] []))) (fun t k => XS.icmpYes X0.here hx rfl (pc0 := 61) (pc' := 71) rfl (hb hby d1_61) rfl (tlt hc61).1 (by decide) (by decide) k) ?_
          refine own_go (B := (s₁.setTop (mkF m 72 #[.val (.int p0)] [(.int p0)]))) (fun t k => XS.iloadN X0.here hx rfl (hb hby d1_71) rfl k) ?_
          refine own_go (B := (s₁.setTop (mkF m 75 #[.val (.int p0)] [(.int (248 : Int32)), (.int p0)]))) (fun t k => XS.sipush X0.here hx rfl (hb hby d1_72) k) ?_
          refine own_go (B := (s₁.setTop (mkF m 85 #[.val (.int p0)] []))) (fun t k => XS.icmpYes X0.here hx rfl (pc0 := 75) (pc' := 85) rfl (hb hby d1_75) rfl (tlt (by revert hc54 hc61; simp only [Int32.lt_iff_toInt_lt, ← Int32.toInt_inj, Int32.reduceToInt]; intros; omega)).1 (by decide) (by decide) k) ?_
          refine own_go (B := (s₁.setTop (mkF m 86 #[.val (.int p0)] [(.int p0)]))) (fun t k => XS.iloadN X0.here hx rfl (hb hby d1_85) rfl k) ?_
          refine own_go (B := (s₁.setTop (mkF m 89 #[.val (.int p0)] [(.int (880 : Int32)), (.int p0)]))) (fun t k => XS.sipush X0.here hx rfl (hb hby d1_86) k) ?_
          refine own_go (B := (s₁.setTop (mkF m 99 #[.val (.int p0)] []))) (fun t k => XS.icmpYes X0.here hx rfl (pc0 := 89) (pc' := 99) rfl (hb hby d1_89) rfl (tlt (by revert hc54 hc61; simp only [Int32.lt_iff_toInt_lt, ← Int32.toInt_inj, Int32.reduceToInt]; intros; omega)).1 (by decide) (by decide) k) ?_
          refine own_go (B := (s₁.setTop (mkF m 100 #[.val (.int p0)] [(.int p0)]))) (fun t k => XS.iloadN X0.here hx rfl (hb hby d1_99) rfl k) ?_
          refine own_go (B := (s₁.setTop (mkF m 103 #[.val (.int p0)] [(.int (895 : Int32)), (.int p0)]))) (fun t k => XS.sipush X0.here hx rfl (hb hby d1_100) k) ?_
          refine own_go (B := (s₁.setTop (mkF m 113 #[.val (.int p0)] []))) (fun t k => XS.icmpYes X0.here hx rfl (pc0 := 103) (pc' := 113) rfl (hb hby d1_103) rfl (tlt (by revert hc54 hc61; simp only [Int32.lt_iff_toInt_lt, ← Int32.toInt_inj, Int32.reduceToInt]; intros; omega)).1 (by decide) (by decide) k) ?_
          refine own_go (B := (s₁.setTop (mkF m 114 #[.val (.int p0)] [(.int p0)]))) (fun t k => XS.iloadN X0.here hx rfl (hb hby d1_113) rfl k) ?_
          refine own_go (B := (s₁.setTop (mkF m 117 #[.val (.int p0)] [(.int (8204 : Int32)), (.int p0)]))) (fun t k => XS.sipush X0.here hx rfl (hb hby d1_114) k) ?_
          refine own_go (B := (s₁.setTop (mkF m 127 #[.val (.int p0)] []))) (fun t k => XS.icmpYes X0.here hx rfl (pc0 := 117) (pc' := 127) rfl (hb hby d1_117) rfl (tlt (by revert hc54 hc61; simp only [Int32.lt_iff_toInt_lt, ← Int32.toInt_inj, Int32.reduceToInt]; intros; omega)).1 (by decide) (by decide) k) ?_
          refine own_go (B := (s₁.setTop (mkF m 128 #[.val (.int p0)] [(.int p0)]))) (fun t k => XS.iloadN X0.here hx rfl (hb hby d1_127) rfl k) ?_
          refine own_go (B := (s₁.setTop (mkF m 131 #[.val (.int p0)] [(.int (8304 : Int32)), (.int p0)]))) (fun t k => XS.sipush X0.here hx rfl (hb hby d1_128) k) ?_
          refine own_go (B := (s₁.setTop (mkF m 141 #[.val (.int p0)] []))) (fun t k => XS.icmpYes X0.here hx rfl (pc0 := 131) (pc' := 141) rfl (hb hby d1_131) rfl (tlt (by revert hc54 hc61; simp only [Int32.lt_iff_toInt_lt, ← Int32.toInt_inj, Int32.reduceToInt]; intros; omega)).1 (by decide) (by decide) k) ?_
          refine own_go (B := (s₁.setTop (mkF m 142 #[.val (.int p0)] [(.int p0)]))) (fun t k => XS.iloadN X0.here hx rfl (hb hby d1_141) rfl k) ?_
          refine own_go (B := (s₁.setTop (mkF m 145 #[.val (.int p0)] [(.int (11264 : Int32)), (.int p0)]))) (fun t k => XS.sipush X0.here hx rfl (hb hby d1_142) k) ?_
          refine own_go (B := (s₁.setTop (mkF m 155 #[.val (.int p0)] []))) (fun t k => XS.icmpYes X0.here hx rfl (pc0 := 145) (pc' := 155) rfl (hb hby d1_145) rfl (tlt (by revert hc54 hc61; simp only [Int32.lt_iff_toInt_lt, ← Int32.toInt_inj, Int32.reduceToInt]; intros; omega)).1 (by decide) (by decide) k) ?_
          refine own_go (B := (s₁.setTop (mkF m 156 #[.val (.int p0)] [(.int p0)]))) (fun t k => XS.iloadN X0.here hx rfl (hb hby d1_155) rfl k) ?_
          refine own_go (B := (s₁.setTop (mkF m 159 #[.val (.int p0)] [(.int (12289 : Int32)), (.int p0)]))) (fun t k => XS.sipush X0.here hx rfl (hb hby d1_156) k) ?_
          refine own_go (B := (s₁.setTop (mkF m 168 #[.val (.int p0)] []))) (fun t k => XS.icmpYes X0.here hx rfl (pc0 := 159) (pc' := 168) rfl (hb hby d1_159) rfl (tlt (by revert hc54 hc61; simp only [Int32.lt_iff_toInt_lt, ← Int32.toInt_inj, Int32.reduceToInt]; intros; omega)).1 (by decide) (by decide) k) ?_
          refine own_go (B := (s₁.setTop (mkF m 169 #[.val (.int p0)] [(.int p0)]))) (fun t k => XS.iloadN X0.here hx rfl (hb hby d1_168) rfl k) ?_
          refine own_go (B := (s₁.setTop (mkF m 171 #[.val (.int p0)] [(.int (63744 : Int32)), (.int p0)]))) (fun t k => X0.ldcInt hx hown (mvT hZ (hw _ (List.mem_of_getElem? (i := 22) rfl))) (g := (mkF m 169 #[.val (.int p0)] [(.int p0)])) rfl (hb hby d1_169) _ k) ?_
          refine own_go (B := (s₁.setTop (mkF m 180 #[.val (.int p0)] []))) (fun t k => XS.icmpYes X0.here hx rfl (pc0 := 171) (pc' := 180) rfl (hb hby d1_171) rfl (tlt (by revert hc54 hc61; simp only [Int32.lt_iff_toInt_lt, ← Int32.toInt_inj, Int32.reduceToInt]; intros; omega)).1 (by decide) (by decide) k) ?_
          refine own_go (B := (s₁.setTop (mkF m 181 #[.val (.int p0)] [(.int p0)]))) (fun t k => XS.iloadN X0.here hx rfl (hb hby d1_180) rfl k) ?_
          refine own_go (B := (s₁.setTop (mkF m 183 #[.val (.int p0)] [(.int (65008 : Int32)), (.int p0)]))) (fun t k => X0.ldcInt hx hown (mvT hZ (hw _ (List.mem_of_getElem? (i := 23) rfl))) (g := (mkF m 181 #[.val (.int p0)] [(.int p0)])) rfl (hb hby d1_181) _ k) ?_
          refine own_go (B := (s₁.setTop (mkF m 192 #[.val (.int p0)] []))) (fun t k => XS.icmpYes X0.here hx rfl (pc0 := 183) (pc' := 192) rfl (hb hby d1_183) rfl (tlt (by revert hc54 hc61; simp only [Int32.lt_iff_toInt_lt, ← Int32.toInt_inj, Int32.reduceToInt]; intros; omega)).1 (by decide) (by decide) k) ?_
          refine own_go (B := (s₁.setTop (mkF m 193 #[.val (.int p0)] [(.int p0)]))) (fun t k => XS.iloadN X0.here hx rfl (hb hby d1_192) rfl k) ?_
          refine own_go (B := (s₁.setTop (mkF m 195 #[.val (.int p0)] [(.int (65536 : Int32)), (.int p0)]))) (fun t k => X0.ldcInt hx hown (mvT hZ (hw _ (List.mem_of_getElem? (i := 24) rfl))) (g := (mkF m 193 #[.val (.int p0)] [(.int p0)])) rfl (hb hby d1_193) _ k) ?_
          refine own_go (B := (s₁.setTop (mkF m 208 #[.val (.int p0)] []))) (fun t k => XS.icmpYes X0.here hx rfl (pc0 := 195) (pc' := 208) rfl (hb hby d1_195) rfl (tlt (by revert hc54 hc61; simp only [Int32.lt_iff_toInt_lt, ← Int32.toInt_inj, Int32.reduceToInt]; intros; omega)).1 (by decide) (by decide) k) ?_
          refine own_go (B := (s₁.setTop (mkF m 209 #[.val (.int p0)] [(.int (0 : Int32))]))) (fun t k => XS.iconst X0.here hx rfl (hb hby d1_208) k) ?_
          obtain ⟨fs, hr, hrun, hended, hW, hsame⟩ := X0.leave (v := some (.int (0 : Int32))) (fun h => by rw [Bd.returns] at h; cases h)
          exact ⟨_, _, retN X0 hx (t := .boolean) Bd.returns (by simp) (hb hby d1_209) hr, hrun, hended, _, _, rfl, ⟨congrArg (fun z => some (Value.int z)) (by simp only [F1, if_neg hc4, if_neg hc47, if_pos hc54, if_pos hc61]), N0, e0⟩, ⟨_, rfl⟩, hW, hsame.mono (by decide) (by decide)⟩
        · refine own_go (B := (s₁.setTop (mkF m 64 #[.val (.int p0)] []))) (fun t k => XS.icmpNo X0.here hx rfl (hb hby d1_61) rfl (flt hc61).1 k) ?_
          refine own_go (B := (s₁.setTop (mkF m 65 #[.val (.int p0)] [(.int p0)]))) (fun t k => XS.iloadN X0.here hx rfl (hb hby d1_64) rfl k) ?_
          refine own_go (B := (s₁.setTop (mkF m 68 #[.val (.int p0)] [(.int (246 : Int32)), (.int p0)]))) (fun t k => XS.sipush X0.here hx rfl (hb hby d1_65) k) ?_
          by_cases hc68 : (246 : Int32) < p0
          · refine own_go (B := (s₁.setTop (mkF m 71 #[.val (.int p0)] []))) (fun t k => XS.icmpNo X0.here hx rfl (hb hby d1_68) rfl (tlt hc68).2.2.2 k) ?_
            refine own_go (B := (s₁.setTop (mkF m 72 #[.val (.int p0)] [(.int p0)]))) (fun t k => XS.iloadN X0.here hx rfl (hb hby d1_71) rfl k) ?_
            refine own_go (B := (s₁.setTop (mkF m 75 #[.val (.int p0)] [(.int (248 : Int32)), (.int p0)]))) (fun t k => XS.sipush X0.here hx rfl (hb hby d1_72) k) ?_
            by_cases hc75 : p0 < (248 : Int32)
            · refine own_go (B := (s₁.setTop (mkF m 85 #[.val (.int p0)] []))) (fun t k => XS.icmpYes X0.here hx rfl (pc0 := 75) (pc' := 85) rfl (hb hby d1_75) rfl (tlt hc75).1 (by decide) (by decide) k) ?_
              refine own_go (B := (s₁.setTop (mkF m 86 #[.val (.int p0)] [(.int p0)]))) (fun t k => XS.iloadN X0.here hx rfl (hb hby d1_85) rfl k) ?_
              refine own_go (B := (s₁.setTop (mkF m 89 #[.val (.int p0)] [(.int (880 : Int32)), (.int p0)]))) (fun t k => XS.sipush X0.here hx rfl (hb hby d1_86) k) ?_
              refine own_go (B := (s₁.setTop (mkF m 99 #[.val (.int p0)] []))) (fun t k => XS.icmpYes X0.here hx rfl (pc0 := 89) (pc' := 99) rfl (hb hby d1_89) rfl (tlt (by revert hc68 hc75; simp only [Int32.lt_iff_toInt_lt, ← Int32.toInt_inj, Int32.reduceToInt]; intros; omega)).1 (by decide) (by decide) k) ?_
              refine own_go (B := (s₁.setTop (mkF m 100 #[.val (.int p0)] [(.int p0)]))) (fun t k => XS.iloadN X0.here hx rfl (hb hby d1_99) rfl k) ?_
              refine own_go (B := (s₁.setTop (mkF m 103 #[.val (.int p0)] [(.int (895 : Int32)), (.int p0)]))) (fun t k => XS.sipush X0.here hx rfl (hb hby d1_100) k) ?_
              refine own_go (B := (s₁.setTop (mkF m 113 #[.val (.int p0)] []))) (fun t k => XS.icmpYes X0.here hx rfl (pc0 := 103) (pc' := 113) rfl (hb hby d1_103) rfl (tlt (by revert hc68 hc75; simp only [Int32.lt_iff_toInt_lt, ← Int32.toInt_inj, Int32.reduceToInt]; intros; omega)).1 (by decide) (by decide) k) ?_
              refine own_go (B := (s₁.setTop (mkF m 114 #[.val (.int p0)] [(.int p0)]))) (fun t k => XS.iloadN X0.here hx rfl (hb hby d1_113) rfl k) ?_
              refine own_go (B := (s₁.setTop (mkF m 117 #[.val (.int p0)] [(.int (8204 : Int32)), (.int p0)]))) (fun t k => XS.sipush X0.here hx rfl (hb hby d1_114) k) ?_
              refine own_go (B := (s₁.setTop (mkF m 127 #[.val (.int p0)] []))) (fun t k => XS.icmpYes X0.here hx rfl (pc0 := 117) (pc' := 127) rfl (hb hby d1_117) rfl (tlt (by revert hc68 hc75; simp only [Int32.lt_iff_toInt_lt, ← Int32.toInt_inj, Int32.reduceToInt]; intros; omega)).1 (by decide) (by decide) k) ?_
              refine own_go (B := (s₁.setTop (mkF m 128 #[.val (.int p0)] [(.int p0)]))) (fun t k => XS.iloadN X0.here hx rfl (hb hby d1_127) rfl k) ?_
              refine own_go (B := (s₁.setTop (mkF m 131 #[.val (.int p0)] [(.int (8304 : Int32)), (.int p0)]))) (fun t k => XS.sipush X0.here hx rfl (hb hby d1_128) k) ?_
              refine own_go (B := (s₁.setTop (mkF m 141 #[.val (.int p0)] []))) (fun t k => XS.icmpYes X0.here hx rfl (pc0 := 131) (pc' := 141) rfl (hb hby d1_131) rfl (tlt (by revert hc68 hc75; simp only [Int32.lt_iff_toInt_lt, ← Int32.toInt_inj, Int32.reduceToInt]; intros; omega)).1 (by decide) (by decide) k) ?_
              refine own_go (B := (s₁.setTop (mkF m 142 #[.val (.int p0)] [(.int p0)]))) (fun t k => XS.iloadN X0.here hx rfl (hb hby d1_141) rfl k) ?_
              refine own_go (B := (s₁.setTop (mkF m 145 #[.val (.int p0)] [(.int (11264 : Int32)), (.int p0)]))) (fun t k => XS.sipush X0.here hx rfl (hb hby d1_142) k) ?_
              refine own_go (B := (s₁.setTop (mkF m 155 #[.val (.int p0)] []))) (fun t k => XS.icmpYes X0.here hx rfl (pc0 := 145) (pc' := 155) rfl (hb hby d1_145) rfl (tlt (by revert hc68 hc75; simp only [Int32.lt_iff_toInt_lt, ← Int32.toInt_inj, Int32.reduceToInt]; intros; omega)).1 (by decide) (by decide) k) ?_
              refine own_go (B := (s₁.setTop (mkF m 156 #[.val (.int p0)] [(.int p0)]))) (fun t k => XS.iloadN X0.here hx rfl (hb hby d1_155) rfl k) ?_
              refine own_go (B := (s₁.setTop (mkF m 159 #[.val (.int p0)] [(.int (12289 : Int32)), (.int p0)]))) (fun t k => XS.sipush X0.here hx rfl (hb hby d1_156) k) ?_
              refine own_go (B := (s₁.setTop (mkF m 168 #[.val (.int p0)] []))) (fun t k => XS.icmpYes X0.here hx rfl (pc0 := 159) (pc' := 168) rfl (hb hby d1_159) rfl (tlt (by revert hc68 hc75; simp only [Int32.lt_iff_toInt_lt, ← Int32.toInt_inj, Int32.reduceToInt]; intros; omega)).1 (by decide) (by decide) k) ?_
              refine own_go (B := (s₁.setTop (mkF m 169 #[.val (.int p0)] [(.int p0)]))) (fun t k => XS.iloadN X0.here hx rfl (hb hby d1_168) rfl k) ?_
              refine own_go (B := (s₁.setTop (mkF m 171 #[.val (.int p0)] [(.int (63744 : Int32)), (.int p0)]))) (fun t k => X0.ldcInt hx hown (mvT hZ (hw _ (List.mem_of_getElem? (i := 22) rfl))) (g := (mkF m 169 #[.val (.int p0)] [(.int p0)])) rfl (hb hby d1_169) _ k) ?_
              refine own_go (B := (s₁.setTop (mkF m 180 #[.val (.int p0)] []))) (fun t k => XS.icmpYes X0.here hx rfl (pc0 := 171) (pc' := 180) rfl (hb hby d1_171) rfl (tlt (by revert hc68 hc75; simp only [Int32.lt_iff_toInt_lt, ← Int32.toInt_inj, Int32.reduceToInt]; intros; omega)).1 (by decide) (by decide) k) ?_
              refine own_go (B := (s₁.setTop (mkF m 181 #[.val (.int p0)] [(.int p0)]))) (fun t k => XS.iloadN X0.here hx rfl (hb hby d1_180) rfl k) ?_
              refine own_go (B := (s₁.setTop (mkF m 183 #[.val (.int p0)] [(.int (65008 : Int32)), (.int p0)]))) (fun t k => X0.ldcInt hx hown (mvT hZ (hw _ (List.mem_of_getElem? (i := 23) rfl))) (g := (mkF m 181 #[.val (.int p0)] [(.int p0)])) rfl (hb hby d1_181) _ k) ?_
              refine own_go (B := (s₁.setTop (mkF m 192 #[.val (.int p0)] []))) (fun t k => XS.icmpYes X0.here hx rfl (pc0 := 183) (pc' := 192) rfl (hb hby d1_183) rfl (tlt (by revert hc68 hc75; simp only [Int32.lt_iff_toInt_lt, ← Int32.toInt_inj, Int32.reduceToInt]; intros; omega)).1 (by decide) (by decide) k) ?_
              refine own_go (B := (s₁.setTop (mkF m 193 #[.val (.int p0)] [(.int p0)]))) (fun t k => XS.iloadN X0.here hx rfl (hb hby d1_192) rfl k) ?_
              refine own_go (B := (s₁.setTop (mkF m 195 #[.val (.int p0)] [(.int (65536 : Int32)), (.int p0)]))) (fun t k => X0.ldcInt hx hown (mvT hZ (hw _ (List.mem_of_getElem? (i := 24) rfl))) (g := (mkF m 193 #[.val (.int p0)] [(.int p0)])) rfl (hb hby d1_193) _ k) ?_
              refine own_go (B := (s₁.setTop (mkF m 208 #[.val (.int p0)] []))) (fun t k => XS.icmpYes X0.here hx rfl (pc0 := 195) (pc' := 208) rfl (hb hby d1_195) rfl (tlt (by revert hc68 hc75; simp only [Int32.lt_iff_toInt_lt, ← Int32.toInt_inj, Int32.reduceToInt]; intros; omega)).1 (by decide) (by decide) k) ?_
              refine own_go (B := (s₁.setTop (mkF m 209 #[.val (.int p0)] [(.int (0 : Int32))]))) (fun t k => XS.iconst X0.here hx rfl (hb hby d1_208) k) ?_
              obtain ⟨fs, hr, hrun, hended, hW, hsame⟩ := X0.leave (v := some (.int (0 : Int32))) (fun h => by rw [Bd.returns] at h; cases h)
              exact ⟨_, _, retN X0 hx (t := .boolean) Bd.returns (by simp) (hb hby d1_209) hr, hrun, hended, _, _, rfl, ⟨congrArg (fun z => some (Value.int z)) (by simp only [F1, if_neg hc4, if_neg hc47, if_pos hc54, if_neg hc61, if_pos hc68, if_pos hc75]), N0, e0⟩, ⟨_, rfl⟩, hW, hsame.mono (by decide) (by decide)⟩
            · refine own_go (B := (s₁.setTop (mkF m 78 #[.val (.int p0)] []))) (fun t k => XS.icmpNo X0.here hx rfl (hb hby d1_75) rfl (flt hc75).1 k) ?_
              refine own_go (B := (s₁.setTop (mkF m 79 #[.val (.int p0)] [(.int p0)]))) (fun t k => XS.iloadN X0.here hx rfl (hb hby d1_78) rfl k) ?_
              refine own_go (B := (s₁.setTop (mkF m 82 #[.val (.int p0)] [(.int (767 : Int32)), (.int p0)]))) (fun t k => XS.sipush X0.here hx rfl (hb hby d1_79) k) ?_
              by_cases hc82 : (767 : Int32) < p0
              · refine own_go (B := (s₁.setTop (mkF m 85 #[.val (.int p0)] []))) (fun t k => XS.icmpNo X0.here hx rfl (hb hby d1_82) rfl (tlt hc82).2.2.2 k) ?_
                refine own_go (B := (s₁.setTop (mkF m 86 #[.val (.int p0)] [(.int p0)]))) (fun t k => XS.iloadN X0.here hx rfl (hb hby d1_85) rfl k) ?_
                refine own_go (B := (s₁.setTop (mkF m 89 #[.val (.int p0)] [(.int (880 : Int32)), (.int p0)]))) (fun t k => XS.sipush X0.here hx rfl (hb hby d1_86) k) ?_
                by_cases hc89 : p0 < (880 : Int32)
                · refine own_go (B := (s₁.setTop (mkF m 99 #[.val (.int p0)] []))) (fun t k => XS.icmpYes X0.here hx rfl (pc0 := 89) (pc' := 99) rfl (hb hby d1_89) rfl (tlt hc89).1 (by decide) (by decide) k) ?_
                  refine own_go (B := (s₁.setTop (mkF m 100 #[.val (.int p0)] [(.int p0)]))) (fun t k => XS.iloadN X0.here hx rfl (hb hby d1_99) rfl k) ?_
                  refine own_go (B := (s₁.setTop (mkF m 103 #[.val (.int p0)] [(.int (895 : Int32)), (.int p0)]))) (fun t k => XS.sipush X0.here hx rfl (hb hby d1_100) k) ?_
                  refine own_go (B := (s₁.setTop (mkF m 113 #[.val (.int p0)] []))) (fun t k => XS.icmpYes X0.here hx rfl (pc0 := 103) (pc' := 113) rfl (hb hby d1_103) rfl (tlt (by revert hc82 hc89; simp only [Int32.lt_iff_toInt_lt, ← Int32.toInt_inj, Int32.reduceToInt]; intros; omega)).1 (by decide) (by decide) k) ?_
                  refine own_go (B := (s₁.setTop (mkF m 114 #[.val (.int p0)] [(.int p0)]))) (fun t k => XS.iloadN X0.here hx rfl (hb hby d1_113) rfl k) ?_
                  refine own_go (B := (s₁.setTop (mkF m 117 #[.val (.int p0)] [(.int (8204 : Int32)), (.int p0)]))) (fun t k => XS.sipush X0.here hx rfl (hb hby d1_114) k) ?_
                  refine own_go (B := (s₁.setTop (mkF m 127 #[.val (.int p0)] []))) (fun t k => XS.icmpYes X0.here hx rfl (pc0 := 117) (pc' := 127) rfl (hb hby d1_117) rfl (tlt (by revert hc82 hc89; simp only [Int32.lt_iff_toInt_lt, ← Int32.toInt_inj, Int32.reduceToInt]; intros; omega)).1 (by decide) (by decide) k) ?_
                  refine own_go (B := (s₁.setTop (mkF m 128 #[.val (.int p0)] [(.int p0)]))) (fun t k => XS.iloadN X0.here hx rfl (hb hby d1_127) rfl k) ?_
                  refine own_go (B := (s₁.setTop (mkF m 131 #[.val (.int p0)] [(.int (8304 : Int32)), (.int p0)]))) (fun t k => XS.sipush X0.here hx rfl (hb hby d1_128) k) ?_
                  refine own_go (B := (s₁.setTop (mkF m 141 #[.val (.int p0)] []))) (fun t k => XS.icmpYes X0.here hx rfl (pc0 := 131) (pc' := 141) rfl (hb hby d1_131) rfl (tlt (by revert hc82 hc89; simp only [Int32.lt_iff_toInt_lt, ← Int32.toInt_inj, Int32.reduceToInt]; intros; omega)).1 (by decide) (by decide) k) ?_
                  refine own_go (B := (s₁.setTop (mkF m 142 #[.val (.int p0)] [(.int p0)]))) (fun t k => XS.iloadN X0.here hx rfl (hb hby d1_141) rfl k) ?_
                  refine own_go (B := (s₁.setTop (mkF m 145 #[.val (.int p0)] [(.int (11264 : Int32)), (.int p0)]))) (fun t k => XS.sipush X0.here hx rfl (hb hby d1_142) k) ?_
                  refine own_go (B := (s₁.setTop (mkF m 155 #[.val (.int p0)] []))) (fun t k => XS.icmpYes X0.here hx rfl (pc0 := 145) (pc' := 155) rfl (hb hby d1_145) rfl (tlt (by revert hc82 hc89; simp only [Int32.lt_iff_toInt_lt, ← Int32.toInt_inj, Int32.reduceToInt]; intros; omega)).1 (by decide) (by decide) k) ?_
                  refine own_go (B := (s₁.setTop (mkF m 156 #[.val (.int p0)] [(.int p0)]))) (fun t k => XS.iloadN X0.here hx rfl (hb hby d1_155) rfl k) ?_
                  refine own_go (B := (s₁.setTop (mkF m 159 #[.val (.int p0)] [(.int (12289 : Int32)), (.int p0)]))) (fun t k => XS.sipush X0.here hx rfl (hb hby d1_156) k) ?_
                  refine own_go (B := (s₁.setTop (mkF m 168 #[.val (.int p0)] []))) (fun t k => XS.icmpYes X0.here hx rfl (pc0 := 159) (pc' := 168) rfl (hb hby d1_159) rfl (tlt (by revert hc82 hc89; simp only [Int32.lt_iff_toInt_lt, ← Int32.toInt_inj, Int32.reduceToInt]; intros; omega)).1 (by decide) (by decide) k) ?_
                  refine own_go (B := (s₁.setTop (mkF m 169 #[.val (.int p0)] [(.int p0)]))) (fun t k => XS.iloadN X0.here hx rfl (hb hby d1_168) rfl k) ?_
                  refine own_go (B := (s₁.setTop (mkF m 171 #[.val (.int p0)] [(.int (63744 : Int32)), (.int p0)]))) (fun t k => X0.ldcInt hx hown (mvT hZ (hw _ (List.mem_of_getElem? (i := 22) rfl))) (g := (mkF m 169 #[.val (.int p0)] [(.int p0)])) rfl (hb hby d1_169) _ k) ?_
                  refine own_go (B := (s₁.setTop (mkF m 180 #[.val (.int p0)] []))) (fun t k => XS.icmpYes X0.here hx rfl (pc0 := 171) (pc' := 180) rfl (hb hby d1_171) rfl (tlt (by revert hc82 hc89; simp only [Int32.lt_iff_toInt_lt, ← Int32.toInt_inj, Int32.reduceToInt]; intros; omega)).1 (by decide) (by decide) k) ?_
                  refine own_go (B := (s₁.setTop (mkF m 181 #[.val (.int p0)] [(.int p0)]))) (fun t k => XS.iloadN X0.here hx rfl (hb hby d1_180) rfl k) ?_
                  refine own_go (B := (s₁.setTop (mkF m 183 #[.val (.int p0)] [(.int (65008 : Int32)), (.int p0)]))) (fun t k => X0.ldcInt hx hown (mvT hZ (hw _ (List.mem_of_getElem? (i := 23) rfl))) (g := (mkF m 181 #[.val (.int p0)] [(.int p0)])) rfl (hb hby d1_181) _ k) ?_
                  refine own_go (B := (s₁.setTop (mkF m 192 #[.val (.int p0)] []))) (fun t k => XS.icmpYes X0.here hx rfl (pc0 := 183) (pc' := 192) rfl (hb hby d1_183) rfl (tlt (by revert hc82 hc89; simp only [Int32.lt_iff_toInt_lt, ← Int32.toInt_inj, Int32.reduceToInt]; intros; omega)).1 (by decide) (by decide) k) ?_
                  refine own_go (B := (s₁.setTop (mkF m 193 #[.val (.int p0)] [(.int p0)]))) (fun t k => XS.iloadN X0.here hx rfl (hb hby d1_192) rfl k) ?_
                  refine own_go (B := (s₁.setTop (mkF m 195 #[.val (.int p0)] [(.int (65536 : Int32)), (.int p0)]))) (fun t k => X0.ldcInt hx hown (mvT hZ (hw _ (List.mem_of_getElem? (i := 24) rfl))) (g := (mkF m 193 #[.val (.int p0)] [(.int p0)])) rfl (hb hby d1_193) _ k) ?_
                  refine own_go (B := (s₁.setTop (mkF m 208 #[.val (.int p0)] []))) (fun t k => XS.icmpYes X0.here hx rfl (pc0 := 195) (pc' := 208) rfl (hb hby d1_195) rfl (tlt (by revert hc82 hc89; simp only [Int32.lt_iff_toInt_lt, ← Int32.toInt_inj, Int32.reduceToInt]; intros; omega)).1 (by decide) (by decide) k) ?_
                  refine own_go (B := (s₁.setTop (mkF m 209 #[.val (.int p0)] [(.int (0 : Int32))]))) (fun t k => XS.iconst X0.here hx rfl (hb hby d1_208) k) ?_
                  obtain ⟨fs, hr, hrun, hended, hW, hsame⟩ := X0.leave (v := some (.int (0 : Int32))) (fun h => by rw [Bd.returns] at h; cases h)
                  exact ⟨_, _, retN X0 hx (t := .boolean) Bd.returns (by simp) (hb hby d1_209) hr, hrun, hended, _, _, rfl, ⟨congrArg (fun z => some (Value.int z)) (by simp only [F1, if_neg hc4, if_neg hc47, if_pos hc54, if_neg hc61, if_pos hc68, if_neg hc75, if_pos hc82, if_pos hc89]), N0, e0⟩, ⟨_, rfl⟩, hW, hsame.mono (by decide) (by decide)⟩
                · refine own_go (B := (s₁.setTop (mkF m 92 #[.val (.int p0)] []))) (fun t k => XS.icmpNo X0.here hx rfl (hb hby d1_89) rfl (flt hc89).1 k) ?_
                  refine own_go (B := (s₁.setTop (mkF m 93 #[.val (.int p0)] [(.int p0)]))) (fun t k => XS.iloadN X0.here hx rfl (hb hby d1_92) rfl k) ?_
                  refine own_go (B := (s₁.setTop (mkF m 96 #[.val (.int p0)] [(.int (893 : Int32)), (.int p0)]))) (fun t k => XS.sipush X0.here hx rfl (hb hby d1_93) k) ?_
                  by_cases hc96 : (893 : Int32) < p0
                  · refine own_go (B := (s₁.setTop (mkF m 99 #[.val (.int p0)] []))) (fun t k => XS.icmpNo X0.here hx rfl (hb hby d1_96) rfl (tlt hc96).2.2.2 k) ?_
                    refine own_go (B := (s₁.setTop (mkF m 100 #[.val (.int p0)] [(.int p0)]))) (fun t k => XS.iloadN X0.here hx rfl (hb hby d1_99) rfl k) ?_
                    refine own_go (B := (s₁.setTop (mkF m 103 #[.val (.int p0)] [(.int (895 : Int32)), (.int p0)]))) (fun t k => XS.sipush X0.here hx rfl (hb hby d1_100) k) ?_
                    by_cases hc103 : p0 < (895 : Int32)
                    · refine own_go (B := (s₁.setTop (mkF m 113 #[.val (.int p0)] []))) (fun t k => XS.icmpYes X0.here hx rfl (pc0 := 103) (pc' := 113) rfl (hb hby d1_103) rfl (tlt hc103).1 (by decide) (by decide) k) ?_
                      refine own_go (B := (s₁.setTop (mkF m 114 #[.val (.int p0)] [(.int p0)]))) (fun t k => XS.iloadN X0.here hx rfl (hb hby d1_113) rfl k) ?_
                      refine own_go (B := (s₁.setTop (mkF m 117 #[.val (.int p0)] [(.int (8204 : Int32)), (.int p0)]))) (fun t k => XS.sipush X0.here hx rfl (hb hby d1_114) k) ?_
                      refine own_go (B := (s₁.setTop (mkF m 127 #[.val (.int p0)] []))) (fun t k => XS.icmpYes X0.here hx rfl (pc0 := 117) (pc' := 127) rfl (hb hby d1_117) rfl (tlt (by revert hc96 hc103; simp only [Int32.lt_iff_toInt_lt, ← Int32.toInt_inj, Int32.reduceToInt]; intros; omega)).1 (by decide) (by decide) k) ?_
                      refine own_go (B := (s₁.setTop (mkF m 128 #[.val (.int p0)] [(.int p0)]))) (fun t k => XS.iloadN X0.here hx rfl (hb hby d1_127) rfl k) ?_
                      refine own_go (B := (s₁.setTop (mkF m 131 #[.val (.int p0)] [(.int (8304 : Int32)), (.int p0)]))) (fun t k => XS.sipush X0.here hx rfl (hb hby d1_128) k) ?_
                      refine own_go (B := (s₁.setTop (mkF m 141 #[.val (.int p0)] []))) (fun t k => XS.icmpYes X0.here hx rfl (pc0 := 131) (pc' := 141) rfl (hb hby d1_131) rfl (tlt (by revert hc96 hc103; simp only [Int32.lt_iff_toInt_lt, ← Int32.toInt_inj, Int32.reduceToInt]; intros; omega)).1 (by decide) (by decide) k) ?_
                      refine own_go (B := (s₁.setTop (mkF m 142 #[.val (.int p0)] [(.int p0)]))) (fun t k => XS.iloadN X0.here hx rfl (hb hby d1_141) rfl k) ?_
                      refine own_go (B := (s₁.setTop (mkF m 145 #[.val (.int p0)] [(.int (11264 : Int32)), (.int p0)]))) (fun t k => XS.sipush X0.here hx rfl (hb hby d1_142) k) ?_
                      refine own_go (B := (s₁.setTop (mkF m 155 #[.val (.int p0)] []))) (fun t k => XS.icmpYes X0.here hx rfl (pc0 := 145) (pc' := 155) rfl (hb hby d1_145) rfl (tlt (by revert hc96 hc103; simp only [Int32.lt_iff_toInt_lt, ← Int32.toInt_inj, Int32.reduceToInt]; intros; omega)).1 (by decide) (by decide) k) ?_
                      refine own_go (B := (s₁.setTop (mkF m 156 #[.val (.int p0)] [(.int p0)]))) (fun t k => XS.iloadN X0.here hx rfl (hb hby d1_155) rfl k) ?_
                      refine own_go (B := (s₁.setTop (mkF m 159 #[.val (.int p0)] [(.int (12289 : Int32)), (.int p0)]))) (fun t k => XS.sipush X0.here hx rfl (hb hby d1_156) k) ?_
                      refine own_go (B := (s₁.setTop (mkF m 168 #[.val (.int p0)] []))) (fun t k => XS.icmpYes X0.here hx rfl (pc0 := 159) (pc' := 168) rfl (hb hby d1_159) rfl (tlt (by revert hc96 hc103; simp only [Int32.lt_iff_toInt_lt, ← Int32.toInt_inj, Int32.reduceToInt]; intros; omega)).1 (by decide) (by decide) k) ?_
                      refine own_go (B := (s₁.setTop (mkF m 169 #[.val (.int p0)] [(.int p0)]))) (fun t k => XS.iloadN X0.here hx rfl (hb hby d1_168) rfl k) ?_
                      refine own_go (B := (s₁.setTop (mkF m 171 #[.val (.int p0)] [(.int (63744 : Int32)), (.int p0)]))) (fun t k => X0.ldcInt hx hown (mvT hZ (hw _ (List.mem_of_getElem? (i := 22) rfl))) (g := (mkF m 169 #[.val (.int p0)] [(.int p0)])) rfl (hb hby d1_169) _ k) ?_
                      refine own_go (B := (s₁.setTop (mkF m 180 #[.val (.int p0)] []))) (fun t k => XS.icmpYes X0.here hx rfl (pc0 := 171) (pc' := 180) rfl (hb hby d1_171) rfl (tlt (by revert hc96 hc103; simp only [Int32.lt_iff_toInt_lt, ← Int32.toInt_inj, Int32.reduceToInt]; intros; omega)).1 (by decide) (by decide) k) ?_
                      refine own_go (B := (s₁.setTop (mkF m 181 #[.val (.int p0)] [(.int p0)]))) (fun t k => XS.iloadN X0.here hx rfl (hb hby d1_180) rfl k) ?_
                      refine own_go (B := (s₁.setTop (mkF m 183 #[.val (.int p0)] [(.int (65008 : Int32)), (.int p0)]))) (fun t k => X0.ldcInt hx hown (mvT hZ (hw _ (List.mem_of_getElem? (i := 23) rfl))) (g := (mkF m 181 #[.val (.int p0)] [(.int p0)])) rfl (hb hby d1_181) _ k) ?_
                      refine own_go (B := (s₁.setTop (mkF m 192 #[.val (.int p0)] []))) (fun t k => XS.icmpYes X0.here hx rfl (pc0 := 183) (pc' := 192) rfl (hb hby d1_183) rfl (tlt (by revert hc96 hc103; simp only [Int32.lt_iff_toInt_lt, ← Int32.toInt_inj, Int32.reduceToInt]; intros; omega)).1 (by decide) (by decide) k) ?_
                      refine own_go (B := (s₁.setTop (mkF m 193 #[.val (.int p0)] [(.int p0)]))) (fun t k => XS.iloadN X0.here hx rfl (hb hby d1_192) rfl k) ?_
                      refine own_go (B := (s₁.setTop (mkF m 195 #[.val (.int p0)] [(.int (65536 : Int32)), (.int p0)]))) (fun t k => X0.ldcInt hx hown (mvT hZ (hw _ (List.mem_of_getElem? (i := 24) rfl))) (g := (mkF m 193 #[.val (.int p0)] [(.int p0)])) rfl (hb hby d1_193) _ k) ?_
                      refine own_go (B := (s₁.setTop (mkF m 208 #[.val (.int p0)] []))) (fun t k => XS.icmpYes X0.here hx rfl (pc0 := 195) (pc' := 208) rfl (hb hby d1_195) rfl (tlt (by revert hc96 hc103; simp only [Int32.lt_iff_toInt_lt, ← Int32.toInt_inj, Int32.reduceToInt]; intros; omega)).1 (by decide) (by decide) k) ?_
                      refine own_go (B := (s₁.setTop (mkF m 209 #[.val (.int p0)] [(.int (0 : Int32))]))) (fun t k => XS.iconst X0.here hx rfl (hb hby d1_208) k) ?_
                      obtain ⟨fs, hr, hrun, hended, hW, hsame⟩ := X0.leave (v := some (.int (0 : Int32))) (fun h => by rw [Bd.returns] at h; cases h)
                      exact ⟨_, _, retN X0 hx (t := .boolean) Bd.returns (by simp) (hb hby d1_209) hr, hrun, hended, _, _, rfl, ⟨congrArg (fun z => some (Value.int z)) (by simp only [F1, if_neg hc4, if_neg hc47, if_pos hc54, if_neg hc61, if_pos hc68, if_neg hc75, if_pos hc82, if_neg hc89, if_pos hc96, if_pos hc103]), N0, e0⟩, ⟨_, rfl⟩, hW, hsame.mono (by decide) (by decide)⟩
                    · refine own_go (B := (s₁.setTop (mkF m 106 #[.val (.int p0)] []))) (fun t k => XS.icmpNo X0.here hx rfl (hb hby d1_103) rfl (flt hc103).1 k) ?_
                      refine own_go (B := (s₁.setTop (mkF m 107 #[.val (.int p0)] [(.int p0)]))) (fun t k => XS.iloadN X0.here hx rfl (hb hby d1_106) rfl k) ?_
                      refine own_go (B := (s₁.setTop (mkF m 110 #[.val (.int p0)] [(.int (8191 : Int32)), (.int p0)]))) (fun t k => XS.sipush X0.here hx rfl (hb hby d1_107) k) ?_
                      by_cases hc110 : (8191 : Int32) < p0
                      · refine own_go (B := (s₁.setTop (mkF m 113 #[.val (.int p0)] []))) (fun t k => XS.icmpNo X0.here hx rfl (hb hby d1_110) rfl (tlt hc110).2.2.2 k) ?_
                        refine own_go (B := (s₁.setTop (mkF m 114 #[.val (.int p0)] [(.int p0)]))) (fun t k => XS.iloadN X0.here hx rfl (hb hby d1_113) rfl k) ?_
                        refine own_go (B := (s₁.setTop (mkF m 117 #[.val (.int p0)] [(.int (8204 : Int32)), (.int p0)]))) (fun t k => XS.sipush X0.here hx rfl (hb hby d1_114) k) ?_
                        by_cases hc117 : p0 < (8204 : Int32)
                        · refine own_go (B := (s₁.setTop (mkF m 127 #[.val (.int p0)] []))) (fun t k => XS.icmpYes X0.here hx rfl (pc0 := 117) (pc' := 127) rfl (hb hby d1_117) rfl (tlt hc117).1 (by decide) (by decide) k) ?_
                          refine own_go (B := (s₁.setTop (mkF m 128 #[.val (.int p0)] [(.int p0)]))) (fun t k => XS.iloadN X0.here hx rfl (hb hby d1_127) rfl k) ?_
                          refine own_go (B := (s₁.setTop (mkF m 131 #[.val (.int p0)] [(.int (8304 : Int32)), (.int p0)]))) (fun t k => XS.sipush X0.here hx rfl (hb hby d1_128) k) ?_
                          refine own_go (B := (s₁.setTop (mkF m 141 #[.val (.int p0)] []))) (fun t k => XS.icmpYes X0.here hx rfl (pc0 := 131) (pc' := 141) rfl (hb hby d1_131) rfl (tlt (by revert hc110 hc117; simp only [Int32.lt_iff_toInt_lt, ← Int32.toInt_inj, Int32.reduceToInt]; intros; omega)).1 (by decide) (by decide) k) ?_
                          refine own_go (B := (s₁.setTop (mkF m 142 #[.val (.int p0)] [(.int p0)]))) (fun t k => XS.iloadN X0.here hx rfl (hb hby d1_141) rfl k) ?_
                          refine own_go (B := (s₁.setTop (mkF m 145 #[.val (.int p0)] [(.int (11264 : Int32)), (.int p0)]))) (fun t k => XS.sipush X0.here hx rfl (hb hby d1_142) k) ?_
                          refine own_go (B := (s₁.setTop (mkF m 155 #[.val (.int p0)] []))) (fun t k => XS.icmpYes X0.here hx rfl (pc0 := 145) (pc' := 155) rfl (hb hby d1_145) rfl (tlt (by revert hc110 hc117; simp only [Int32.lt_iff_toInt_lt, ← Int32.toInt_inj, Int32.reduceToInt]; intros; omega)).1 (by decide) (by decide) k) ?_
                          refine own_go (B := (s₁.setTop (mkF m 156 #[.val (.int p0)] [(.int p0)]))) (fun t k => XS.iloadN X0.here hx rfl (hb hby d1_155) rfl k) ?_
                          refine own_go (B := (s₁.setTop (mkF m 159 #[.val (.int p0)] [(.int (12289 : Int32)), (.int p0)]))) (fun t k => XS.sipush X0.here hx rfl (hb hby d1_156) k) ?_
                          refine own_go (B := (s₁.setTop (mkF m 168 #[.val (.int p0)] []))) (fun t k => XS.icmpYes X0.here hx rfl (pc0 := 159) (pc' := 168) rfl (hb hby d1_159) rfl (tlt (by revert hc110 hc117; simp only [Int32.lt_iff_toInt_lt, ← Int32.toInt_inj, Int32.reduceToInt]; intros; omega)).1 (by decide) (by decide) k) ?_
                          refine own_go (B := (s₁.setTop (mkF m 169 #[.val (.int p0)] [(.int p0)]))) (fun t k => XS.iloadN X0.here hx rfl (hb hby d1_168) rfl k) ?_
                          refine own_go (B := (s₁.setTop (mkF m 171 #[.val (.int p0)] [(.int (63744 : Int32)), (.int p0)]))) (fun t k => X0.ldcInt hx hown (mvT hZ (hw _ (List.mem_of_getElem? (i := 22) rfl))) (g := (mkF m 169 #[.val (.int p0)] [(.int p0)])) rfl (hb hby d1_169) _ k) ?_
                          refine own_go (B := (s₁.setTop (mkF m 180 #[.val (.int p0)] []))) (fun t k => XS.icmpYes X0.here hx rfl (pc0 := 171) (pc' := 180) rfl (hb hby d1_171) rfl (tlt (by revert hc110 hc117; simp only [Int32.lt_iff_toInt_lt, ← Int32.toInt_inj, Int32.reduceToInt]; intros; omega)).1 (by decide) (by decide) k) ?_
                          refine own_go (B := (s₁.setTop (mkF m 181 #[.val (.int p0)] [(.int p0)]))) (fun t k => XS.iloadN X0.here hx rfl (hb hby d1_180) rfl k) ?_
                          refine own_go (B := (s₁.setTop (mkF m 183 #[.val (.int p0)] [(.int (65008 : Int32)), (.int p0)]))) (fun t k => X0.ldcInt hx hown (mvT hZ (hw _ (List.mem_of_getElem? (i := 23) rfl))) (g := (mkF m 181 #[.val (.int p0)] [(.int p0)])) rfl (hb hby d1_181) _ k) ?_
                          refine own_go (B := (s₁.setTop (mkF m 192 #[.val (.int p0)] []))) (fun t k => XS.icmpYes X0.here hx rfl (pc0 := 183) (pc' := 192) rfl (hb hby d1_183) rfl (tlt (by revert hc110 hc117; simp only [Int32.lt_iff_toInt_lt, ← Int32.toInt_inj, Int32.reduceToInt]; intros; omega)).1 (by decide) (by decide) k) ?_
                          refine own_go (B := (s₁.setTop (mkF m 193 #[.val (.int p0)] [(.int p0)]))) (fun t k => XS.iloadN X0.here hx rfl (hb hby d1_192) rfl k) ?_
                          refine own_go (B := (s₁.setTop (mkF m 195 #[.val (.int p0)] [(.int (65536 : Int32)), (.int p0)]))) (fun t k => X0.ldcInt hx hown (mvT hZ (hw _ (List.mem_of_getElem? (i := 24) rfl))) (g := (mkF m 193 #[.val (.int p0)] [(.int p0)])) rfl (hb hby d1_193) _ k) ?_
                          refine own_go (B := (s₁.setTop (mkF m 208 #[.val (.int p0)] []))) (fun t k => XS.icmpYes X0.here hx rfl (pc0 := 195) (pc' := 208) rfl (hb hby d1_195) rfl (tlt (by revert hc110 hc117; simp only [Int32.lt_iff_toInt_lt, ← Int32.toInt_inj, Int32.reduceToInt]; intros; omega)).1 (by decide) (by decide) k) ?_
                          refine own_go (B := (s₁.setTop (mkF m 209 #[.val (.int p0)] [(.int (0 : Int32))]))) (fun t k => XS.iconst X0.here hx rfl (hb hby d1_208) k) ?_
                          obtain ⟨fs, hr, hrun, hended, hW, hsame⟩ := X0.leave (v := some (.int (0 : Int32))) (fun h => by rw [Bd.returns] at h; cases h)
                          exact ⟨_, _, retN X0 hx (t := .boolean) Bd.returns (by simp) (hb hby d1_209) hr, hrun, hended, _, _, rfl, ⟨congrArg (fun z => some (Value.int z)) (by simp only [F1, if_neg hc4, if_neg hc47, if_pos hc54, if_neg hc61, if_pos hc68, if_neg hc75, if_pos hc82, if_neg hc89, if_pos hc96, if_neg hc103, if_pos hc110, if_pos hc117]), N0, e0⟩, ⟨_, rfl⟩, hW, hsame.mono (by decide) (by decide)⟩
                        · refine own_go (B := (s₁.setTop (mkF m 120 #[.val (.int p0)] []))) (fun t k => XS.icmpNo X0.here hx rfl (hb hby d1_117) rfl (flt hc117).1 k) ?_
                          refine own_go (B := (s₁.setTop (mkF m 121 #[.val (.int p0)] [(.int p0)]))) (fun t k => XS.iloadN X0.here hx rfl (hb hby d1_120) rfl k) ?_
                          refine own_go (B := (s₁.setTop (mkF m 124 #[.val (.int p0)] [(.int (8205 : Int32)), (.int p0)]))) (fun t k => XS.sipush X0.here hx rfl (hb hby d1_121) k) ?_
                          by_cases hc124 : (8205 : Int32) < p0
                          · refine own_go (B := (s₁.setTop (mkF m 127 #[.val (.int p0)] []))) (fun t k => XS.icmpNo X0.here hx rfl (hb hby d1_124) rfl (tlt hc124).2.2.2 k) ?_
                            refine own_go (B := (s₁.setTop (mkF m 128 #[.val (.int p0)] [(.int p0)]))) (fun t k => XS.iloadN X0.here hx rfl (hb hby d1_127) rfl k) ?_
                            refine own_go (B := (s₁.setTop (mkF m 131 #[.val (.int p0)] [(.int (8304 : Int32)), (.int p0)]))) (fun t k => XS.sipush X0.here hx rfl (hb hby d1_128) k) ?_
                            by_cases hc131 : p0 < (8304 : Int32)
                            · refine own_go (B := (s₁.setTop (mkF m 141 #[.val (.int p0)] []))) (fun t k => XS.icmpYes X0.here hx rfl (pc0 := 131) (pc' := 141) rfl (hb hby d1_131) rfl (tlt hc131).1 (by decide) (by decide) k) ?_
                              refine own_go (B := (s₁.setTop (mkF m 142 #[.val (.int p0)] [(.int p0)]))) (fun t k => XS.iloadN X0.here hx rfl (hb hby d1_141) rfl k) ?_
                              refine own_go (B := (s₁.setTop (mkF m 145 #[.val (.int p0)] [(.int (11264 : Int32)), (.int p0)]))) (fun t k => XS.sipush X0.here hx rfl (hb hby d1_142) k) ?_
                              refine own_go (B := (s₁.setTop (mkF m 155 #[.val (.int p0)] []))) (fun t k => XS.icmpYes X0.here hx rfl (pc0 := 145) (pc' := 155) rfl (hb hby d1_145) rfl (tlt (by revert hc124 hc131; simp only [Int32.lt_iff_toInt_lt, ← Int32.toInt_inj, Int32.reduceToInt]; intros; omega)).1 (by decide) (by decide) k) ?_
                              refine own_go (B := (s₁.setTop (mkF m 156 #[.val (.int p0)] [(.int p0)]))) (fun t k => XS.iloadN X0.here hx rfl (hb hby d1_155) rfl k) ?_
                              refine own_go (B := (s₁.setTop (mkF m 159 #[.val (.int p0)] [(.int (12289 : Int32)), (.int p0)]))) (fun t k => XS.sipush X0.here hx rfl (hb hby d1_156) k) ?_
                              refine own_go (B := (s₁.setTop (mkF m 168 #[.val (.int p0)] []))) (fun t k => XS.icmpYes X0.here hx rfl (pc0 := 159) (pc' := 168) rfl (hb hby d1_159) rfl (tlt (by revert hc124 hc131; simp only [Int32.lt_iff_toInt_lt, ← Int32.toInt_inj, Int32.reduceToInt]; intros; omega)).1 (by decide) (by decide) k) ?_
                              refine own_go (B := (s₁.setTop (mkF m 169 #[.val (.int p0)] [(.int p0)]))) (fun t k => XS.iloadN X0.here hx rfl (hb hby d1_168) rfl k) ?_
                              refine own_go (B := (s₁.setTop (mkF m 171 #[.val (.int p0)] [(.int (63744 : Int32)), (.int p0)]))) (fun t k => X0.ldcInt hx hown (mvT hZ (hw _ (List.mem_of_getElem? (i := 22) rfl))) (g := (mkF m 169 #[.val (.int p0)] [(.int p0)])) rfl (hb hby d1_169) _ k) ?_
                              refine own_go (B := (s₁.setTop (mkF m 180 #[.val (.int p0)] []))) (fun t k => XS.icmpYes X0.here hx rfl (pc0 := 171) (pc' := 180) rfl (hb hby d1_171) rfl (tlt (by revert hc124 hc131; simp only [Int32.lt_iff_toInt_lt, ← Int32.toInt_inj, Int32.reduceToInt]; intros; omega)).1 (by decide) (by decide) k) ?_
                              refine own_go (B := (s₁.setTop (mkF m 181 #[.val (.int p0)] [(.int p0)]))) (fun t k => XS.iloadN X0.here hx rfl (hb hby d1_180) rfl k) ?_
                              refine own_go (B := (s₁.setTop (mkF m 183 #[.val (.int p0)] [(.int (65008 : Int32)), (.int p0)]))) (fun t k => X0.ldcInt hx hown (mvT hZ (hw _ (List.mem_of_getElem? (i := 23) rfl))) (g := (mkF m 181 #[.val (.int p0)] [(.int p0)])) rfl (hb hby d1_181) _ k) ?_
                              refine own_go (B := (s₁.setTop (mkF m 192 #[.val (.int p0)] []))) (fun t k => XS.icmpYes X0.here hx rfl (pc0 := 183) (pc' := 192) rfl (hb hby d1_183) rfl (tlt (by revert hc124 hc131; simp only [Int32.lt_iff_toInt_lt, ← Int32.toInt_inj, Int32.reduceToInt]; intros; omega)).1 (by decide) (by decide) k) ?_
                              refine own_go (B := (s₁.setTop (mkF m 193 #[.val (.int p0)] [(.int p0)]))) (fun t k => XS.iloadN X0.here hx rfl (hb hby d1_192) rfl k) ?_
                              refine own_go (B := (s₁.setTop (mkF m 195 #[.val (.int p0)] [(.int (65536 : Int32)), (.int p0)]))) (fun t k => X0.ldcInt hx hown (mvT hZ (hw _ (List.mem_of_getElem? (i := 24) rfl))) (g := (mkF m 193 #[.val (.int p0)] [(.int p0)])) rfl (hb hby d1_193) _ k) ?_
                              refine own_go (B := (s₁.setTop (mkF m 208 #[.val (.int p0)] []))) (fun t k => XS.icmpYes X0.here hx rfl (pc0 := 195) (pc' := 208) rfl (hb hby d1_195) rfl (tlt (by revert hc124 hc131; simp only [Int32.lt_iff_toInt_lt, ← Int32.toInt_inj, Int32.reduceToInt]; intros; omega)).1 (by decide) (by decide) k) ?_
                              refine own_go (B := (s₁.setTop (mkF m 209 #[.val (.int p0)] [(.int (0 : Int32))]))) (fun t k => XS.iconst X0.here hx rfl (hb hby d1_208) k) ?_
                              obtain ⟨fs, hr, hrun, hended, hW, hsame⟩ := X0.leave (v := some (.int (0 : Int32))) (fun h => by rw [Bd.returns] at h; cases h)
                              exact ⟨_, _, retN X0 hx (t := .boolean) Bd.returns (by simp) (hb hby d1_209) hr, hrun, hended, _, _, rfl, ⟨congrArg (fun z => some (Value.int z)) (by simp only [F1, if_neg hc4, if_neg hc47, if_pos hc54, if_neg hc61, if_pos hc68, if_neg hc75, if_pos hc82, if_neg hc89, if_pos hc96, if_neg hc103, if_pos hc110, if_neg hc117, if_pos hc124, if_pos hc131]), N0, e0⟩, ⟨_, rfl⟩, hW, hsame.mono (by decide) (by decide)⟩
                            · refine own_go (B := (s₁.setTop (mkF m 134 #[.val (.int p0)] []))) (fun t k => XS.icmpNo X0.here hx rfl (hb hby d1_131) rfl (flt hc131).1 k) ?_
                              refine own_go (B := (s₁.setTop (mkF m 135 #[.val (.int p0)] [(.int p0)]))) (fun t k => XS.iloadN X0.here hx rfl (hb hby d1_134) rfl k) ?_
                              refine own_go (B := (s₁.setTop (mkF m 138 #[.val (.int p0)] [(.int (8591 : Int32)), (.int p0)]))) (fun t k => XS.sipush X0.here hx rfl (hb hby d1_135) k) ?_
                              by_cases hc138 : (8591 : Int32) < p0
                              · refine own_go (B := (s₁.setTop (mkF m 141 #[.val (.int p0)] []))) (fun t k => XS.icmpNo X0.here hx rfl (hb hby d1_138) rfl (tlt hc138).2.2.2 k) ?_
                                refine own_go (B := (s₁.setTop (mkF m 142 #[.val (.int p0)] [(.int p0)]))) (fun t k => XS.iloadN X0.here hx rfl (hb hby d1_141) rfl k) ?_
                                refine own_go (B := (s₁.setTop (mkF m 145 #[.val (.int p0)] [(.int (11264 : Int32)), (.int p0)]))) (fun t k => XS.sipush X0.here hx rfl (hb hby d1_142) k) ?_
                                by_cases hc145 : p0 < (11264 : Int32)
                                · refine own_go (B := (s₁.setTop (mkF m 155 #[.val (.int p0)] []))) (fun t k => XS.icmpYes X0.here hx rfl (pc0 := 145) (pc' := 155) rfl (hb hby d1_145) rfl (tlt hc145).1 (by decide) (by decide) k) ?_
                                  refine own_go (B := (s₁.setTop (mkF m 156 #[.val (.int p0)] [(.int p0)]))) (fun t k => XS.iloadN X0.here hx rfl (hb hby d1_155) rfl k) ?_
                                  refine own_go (B := (s₁.setTop (mkF m 159 #[.val (.int p0)] [(.int (12289 : Int32)), (.int p0)]))) (fun t k => XS.sipush X0.here hx rfl (hb hby d1_156) k) ?_
                                  refine own_go (B := (s₁.setTop (mkF m 168 #[.val (.int p0)] []))) (fun t k => XS.icmpYes X0.here hx rfl (pc0 := 159) (pc' := 168) rfl (hb hby d1_159) rfl (tlt (by revert hc138 hc145; simp only [Int32.lt_iff_toInt_lt, ← Int32.toInt_inj, Int32.reduceToInt]; intros; omega)).1 (by decide) (by decide) k) ?_
                                  refine own_go (B := (s₁.setTop (mkF m 169 #[.val (.int p0)] [(.int p0)]))) (fun t k => XS.iloadN X0.here hx rfl (hb hby d1_168) rfl k) ?_
                                  refine own_go (B := (s₁.setTop (mkF m 171 #[.val (.int p0)] [(.int (63744 : Int32)), (.int p0)]))) (fun t k => X0.ldcInt hx hown (mvT hZ (hw _ (List.mem_of_getElem? (i := 22) rfl))) (g := (mkF m 169 #[.val (.int p0)] [(.int p0)])) rfl (hb hby d1_169) _ k) ?_
                                  refine own_go (B := (s₁.setTop (mkF m 180 #[.val (.int p0)] []))) (fun t k => XS.icmpYes X0.here hx rfl (pc0 := 171) (pc' := 180) rfl (hb hby d1_171) rfl (tlt (by revert hc138 hc145; simp only [Int32.lt_iff_toInt_lt, ← Int32.toInt_inj, Int32.reduceToInt]; intros; omega)).1 (by decide) (by decide) k) ?_
                                  refine own_go (B := (s₁.setTop (mkF m 181 #[.val (.int p0)] [(.int p0)]))) (fun t k => XS.iloadN X0.here hx rfl (hb hby d1_180) rfl k) ?_
                                  refine own_go (B := (s₁.setTop (mkF m 183 #[.val (.int p0)] [(.int (65008 : Int32)), (.int p0)]))) (fun t k => X0.ldcInt hx hown (mvT hZ (hw _ (List.mem_of_getElem? (i := 23) rfl))) (g := (mkF m 181 #[.val (.int p0)] [(.int p0)])) rfl (hb hby d1_181) _ k) ?_
                                  refine own_go (B := (s₁.setTop (mkF m 192 #[.val (.int p0)] []))) (fun t k => XS.icmpYes X0.here hx rfl (pc0 := 183) (pc' := 192) rfl (hb hby d1_183) rfl (tlt (by revert hc138 hc145; simp only [Int32.lt_iff_toInt_lt, ← Int32.toInt_inj, Int32.reduceToInt]; intros; omega)).1 (by decide) (by decide) k) ?_
                                  refine own_go (B := (s₁.setTop (mkF m 193 #[.val (.int p0)] [(.int p0)]))) (fun t k => XS.iloadN X0.here hx rfl (hb hby d1_192) rfl k) ?_
                                  refine own_go (B := (s₁.setTop (mkF m 195 #[.val (.int p0)] [(.int (65536 : Int32)), (.int p0)]))) (fun t k => X0.ldcInt hx hown (mvT hZ (hw _ (List.mem_of_getElem? (i := 24) rfl))) (g := (mkF m 193 #[.val (.int p0)] [(.int p0)])) rfl (hb hby d1_193) _ k) ?_
                                  refine own_go (B := (s₁.setTop (mkF m 208 #[.val (.int p0)] []))) (fun t k => XS.icmpYes X0.here hx rfl (pc0 := 195) (pc' := 208) rfl (hb hby d1_195) rfl (tlt (by revert hc138 hc145; simp only [Int32.lt_iff_toInt_lt, ← Int32.toInt_inj, Int32.reduceToInt]; intros; omega)).1 (by decide) (by decide) k) ?_
                                  refine own_go (B := (s₁.setTop (mkF m 209 #[.val (.int p0)] [(.int (0 : Int32))]))) (fun t k => XS.iconst X0.here hx rfl (hb hby d1_208) k) ?_
                                  obtain ⟨fs, hr, hrun, hended, hW, hsame⟩ := X0.leave (v := some (.int (0 : Int32))) (fun h => by rw [Bd.returns] at h; cases h)
                                  exact ⟨_, _, retN X0 hx (t := .boolean) Bd.returns (by simp) (hb hby d1_209) hr, hrun, hended, _, _, rfl, ⟨congrArg (fun z => some (Value.int z)) (by simp only [F1, if_neg hc4, if_neg hc47, if_pos hc54, if_neg hc61, if_pos hc68, if_neg hc75, if_pos hc82, if_neg hc89, if_pos hc96, if_neg hc103, if_pos hc110, if_neg hc117, if_pos hc124, if_neg hc131, if_pos hc138, if_pos hc145]), N0, e0⟩, ⟨_, rfl⟩, hW, hsame.mono (by decide) (by decide)⟩
                                · refine own_go (B := (s₁.setTop (mkF m 148 #[.val (.int p0)] []))) (fun t k => XS.icmpNo X0.here hx rfl (hb hby d1_145) rfl (flt hc145).1 k) ?_
                                  refine own_go (B := (s₁.setTop (mkF m 149 #[.val (.int p0)] [(.int p0)]))) (fun t k => XS.iloadN X0.here hx rfl (hb hby d1_148) rfl k) ?_
                                  refine own_go (B := (s₁.setTop (mkF m 152 #[.val (.int p0)] [(.int (12271 : Int32)), (.int p0)]))) (fun t k => XS.sipush X0.here hx rfl (hb hby d1_149) k) ?_
                                  by_cases hc152 : (12271 : Int32) < p0
                                  · refine own_go (B := (s₁.setTop (mkF m 155 #[.val (.int p0)] []))) (fun t k => XS.icmpNo X0.here hx rfl (hb hby d1_152) rfl (tlt hc152).2.2.2 k) ?_
                                    refine own_go (B := (s₁.setTop (mkF m 156 #[.val (.int p0)] [(.int p0)]))) (fun t k => XS.iloadN X0.here hx rfl (hb hby d1_155) rfl k) ?_
                                    refine own_go (B := (s₁.setTop (mkF m 159 #[.val (.int p0)] [(.int (12289 : Int32)), (.int p0)]))) (fun t k => XS.sipush X0.here hx rfl (hb hby d1_156) k) ?_
                                    by_cases hc159 : p0 < (12289 : Int32)
                                    · refine own_go (B := (s₁.setTop (mkF m 168 #[.val (.int p0)] []))) (fun t k => XS.icmpYes X0.here hx rfl (pc0 := 159) (pc' := 168) rfl (hb hby d1_159) rfl (tlt hc159).1 (by decide) (by decide) k) ?_
                                      refine own_go (B := (s₁.setTop (mkF m 169 #[.val (.int p0)] [(.int p0)]))) (fun t k => XS.iloadN X0.here hx rfl (hb hby d1_168) rfl k) ?_
                                      refine own_go (B := (s₁.setTop (mkF m 171 #[.val (.int p0)] [(.int (63744 : Int32)), (.int p0)]))) (fun t k => X0.ldcInt hx hown (mvT hZ (hw _ (List.mem_of_getElem? (i := 22) rfl))) (g := (mkF m 169 #[.val (.int p0)] [(.int p0)])) rfl (hb hby d1_169) _ k) ?_
                                      refine own_go (B := (s₁.setTop (mkF m 180 #[.val (.int p0)] []))) (fun t k => XS.icmpYes X0.here hx rfl (pc0 := 171) (pc' := 180) rfl (hb hby d1_171) rfl (tlt (by revert hc152 hc159; simp only [Int32.lt_iff_toInt_lt, ← Int32.toInt_inj, Int32.reduceToInt]; intros; omega)).1 (by decide) (by decide) k) ?_
                                      refine own_go (B := (s₁.setTop (mkF m 181 #[.val (.int p0)] [(.int p0)]))) (fun t k => XS.iloadN X0.here hx rfl (hb hby d1_180) rfl k) ?_
                                      refine own_go (B := (s₁.setTop (mkF m 183 #[.val (.int p0)] [(.int (65008 : Int32)), (.int p0)]))) (fun t k => X0.ldcInt hx hown (mvT hZ (hw _ (List.mem_of_getElem? (i := 23) rfl))) (g := (mkF m 181 #[.val (.int p0)] [(.int p0)])) rfl (hb hby d1_181) _ k) ?_
                                      refine own_go (B := (s₁.setTop (mkF m 192 #[.val (.int p0)] []))) (fun t k => XS.icmpYes X0.here hx rfl (pc0 := 183) (pc' := 192) rfl (hb hby d1_183) rfl (tlt (by revert hc152 hc159; simp only [Int32.lt_iff_toInt_lt, ← Int32.toInt_inj, Int32.reduceToInt]; intros; omega)).1 (by decide) (by decide) k) ?_
                                      refine own_go (B := (s₁.setTop (mkF m 193 #[.val (.int p0)] [(.int p0)]))) (fun t k => XS.iloadN X0.here hx rfl (hb hby d1_192) rfl k) ?_
                                      refine own_go (B := (s₁.setTop (mkF m 195 #[.val (.int p0)] [(.int (65536 : Int32)), (.int p0)]))) (fun t k => X0.ldcInt hx hown (mvT hZ (hw _ (List.mem_of_getElem? (i := 24) rfl))) (g := (mkF m 193 #[.val (.int p0)] [(.int p0)])) rfl (hb hby d1_193) _ k) ?_
                                      refine own_go (B := (s₁.setTop (mkF m 208 #[.val (.int p0)] []))) (fun t k => XS.icmpYes X0.here hx rfl (pc0 := 195) (pc' := 208) rfl (hb hby d1_195) rfl (tlt (by revert hc152 hc159; simp only [Int32.lt_iff_toInt_lt, ← Int32.toInt_inj, Int32.reduceToInt]; intros; omega)).1 (by decide) (by decide) k) ?_
                                      refine own_go (B := (s₁.setTop (mkF m 209 #[.val (.int p0)] [(.int (0 : Int32))]))) (fun t k => XS.iconst X0.here hx rfl (hb hby d1_208) k) ?_
                                      obtain ⟨fs, hr, hrun, hended, hW, hsame⟩ := X0.leave (v := some (.int (0 : Int32))) (fun h => by rw [Bd.returns] at h; cases h)
                                      exact ⟨_, _, retN X0 hx (t := .boolean) Bd.returns (by simp) (hb hby d1_209) hr, hrun, hended, _, _, rfl, ⟨congrArg (fun z => some (Value.int z)) (by simp only [F1, if_neg hc4, if_neg hc47, if_pos hc54, if_neg hc61, if_pos hc68, if_neg hc75, if_pos hc82, if_neg hc89, if_pos hc96, if_neg hc103, if_pos hc110, if_neg hc117, if_pos hc124, if_neg hc131, if_pos hc138, if_neg hc145, if_pos hc152, if_pos hc159]), N0, e0⟩, ⟨_, rfl⟩, hW, hsame.mono (by decide) (by decide)⟩
                                    · refine own_go (B := (s₁.setTop (mkF m 162 #[.val (.int p0)] []))) (fun t k => XS.icmpNo X0.here hx rfl (hb hby d1_159) rfl (flt hc159).1 k) ?_
                                      refine own_go (B := (s₁.setTop (mkF m 163 #[.val (.int p0)] [(.int p0)]))) (fun t k => XS.iloadN X0.here hx rfl (hb hby d1_162) rfl k) ?_
                                      refine own_go (B := (s₁.setTop (mkF m 165 #[.val (.int p0)] [(.int (55295 : Int32)), (.int p0)]))) (fun t k => X0.ldcInt hx hown (mvT hZ (hw _ (List.mem_of_getElem? (i := 25) rfl))) (g := (mkF m 163 #[.val (.int p0)] [(.int p0)])) rfl (hb hby d1_163) _ k) ?_
                                      by_cases hc165 : (55295 : Int32) < p0
                                      · refine own_go (B := (s₁.setTop (mkF m 168 #[.val (.int p0)] []))) (fun t k => XS.icmpNo X0.here hx rfl (hb hby d1_165) rfl (tlt hc165).2.2.2 k) ?_
                                        refine own_go (B := (s₁.setTop (mkF m 169 #[.val (.int p0)] [(.int p0)]))) (fun t k => XS.iloadN X0.here hx rfl (hb hby d1_168) rfl k) ?_
                                        refine own_go (B := (s₁.setTop (mkF m 171 #[.val (.int p0)] [(.int (63744 : Int32)), (.int p0)]))) (fun t k => X0.ldcInt hx hown (mvT hZ (hw _ (List.mem_of_getElem? (i := 22) rfl))) (g := (mkF m 169 #[.val (.int p0)] [(.int p0)])) rfl (hb hby d1_169) _ k) ?_
                                        by_cases hc171 : p0 < (63744 : Int32)
                                        · refine own_go (B := (s₁.setTop (mkF m 180 #[.val (.int p0)] []))) (fun t k => XS.icmpYes X0.here hx rfl (pc0 := 171) (pc' := 180) rfl (hb hby d1_171) rfl (tlt hc171).1 (by decide) (by decide) k) ?_
                                          refine own_go (B := (s₁.setTop (mkF m 181 #[.val (.int p0)] [(.int p0)]))) (fun t k => XS.iloadN X0.here hx rfl (hb hby d1_180) rfl k) ?_
                                          refine own_go (B := (s₁.setTop (mkF m 183 #[.val (.int p0)] [(.int (65008 : Int32)), (.int p0)]))) (fun t k => X0.ldcInt hx hown (mvT hZ (hw _ (List.mem_of_getElem? (i := 23) rfl))) (g := (mkF m 181 #[.val (.int p0)] [(.int p0)])) rfl (hb hby d1_181) _ k) ?_
                                          refine own_go (B := (s₁.setTop (mkF m 192 #[.val (.int p0)] []))) (fun t k => XS.icmpYes X0.here hx rfl (pc0 := 183) (pc' := 192) rfl (hb hby d1_183) rfl (tlt (by revert hc165 hc171; simp only [Int32.lt_iff_toInt_lt, ← Int32.toInt_inj, Int32.reduceToInt]; intros; omega)).1 (by decide) (by decide) k) ?_
                                          refine own_go (B := (s₁.setTop (mkF m 193 #[.val (.int p0)] [(.int p0)]))) (fun t k => XS.iloadN X0.here hx rfl (hb hby d1_192) rfl k) ?_
                                          refine own_go (B := (s₁.setTop (mkF m 195 #[.val (.int p0)] [(.int (65536 : Int32)), (.int p0)]))) (fun t k => X0.ldcInt hx hown (mvT hZ (hw _ (List.mem_of_getElem? (i := 24) rfl))) (g := (mkF m 193 #[.val (.int p0)] [(.int p0)])) rfl (hb hby d1_193) _ k) ?_
                                          refine own_go (B := (s₁.setTop (mkF m 208 #[.val (.int p0)] []))) (fun t k => XS.icmpYes X0.here hx rfl (pc0 := 195) (pc' := 208) rfl (hb hby d1_195) rfl (tlt (by revert hc165 hc171; simp only [Int32.lt_iff_toInt_lt, ← Int32.toInt_inj, Int32.reduceToInt]; intros; omega)).1 (by decide) (by decide) k) ?_
                                          refine own_go (B := (s₁.setTop (mkF m 209 #[.val (.int p0)] [(.int (0 : Int32))]))) (fun t k => XS.iconst X0.here hx rfl (hb hby d1_208) k) ?_
                                          obtain ⟨fs, hr, hrun, hended, hW, hsame⟩ := X0.leave (v := some (.int (0 : Int32))) (fun h => by rw [Bd.returns] at h; cases h)
                                          exact ⟨_, _, retN X0 hx (t := .boolean) Bd.returns (by simp) (hb hby d1_209) hr, hrun, hended, _, _, rfl, ⟨congrArg (fun z => some (Value.int z)) (by simp only [F1, if_neg hc4, if_neg hc47, if_pos hc54, if_neg hc61, if_pos hc68, if_neg hc75, if_pos hc82, if_neg hc89, if_pos hc96, if_neg hc103, if_pos hc110, if_neg hc117, if_pos hc124, if_neg hc131, if_pos hc138, if_neg hc145, if_pos hc152, if_neg hc159, if_pos hc165, if_pos hc171]), N0, e0⟩, ⟨_, rfl⟩, hW, hsame.mono (by decide) (by decide)⟩
                                        · refine own_go (B := (s₁.setTop (mkF m 174 #[.val (.int p0)] []))) (fun t k => XS.icmpNo X0.here hx rfl (hb hby d1_171) rfl (flt hc171).1 k) ?_
                                          refine own_go (B := (s₁.setTop (mkF m 175 #[.val (.int p0)] [(.int p0)]))) (fun t k => XS.iloadN X0.here hx rfl (hb hby d1_174) rfl k) ?_
                                          refine own_go (B := (s₁.setTop (mkF m 177 #[.val (.int p0)] [(.int (64975 : Int32)), (.int p0)]))) (fun t k => X0.ldcInt hx hown (mvT hZ (hw _ (List.mem_of_getElem? (i := 26) rfl))) (g := (mkF m 175 #[.val (.int p0)] [(.int p0)])) rfl (hb hby d1_175) _ k) ?_
                                          by_cases hc177 : (64975 : Int32) < p0
                                          · refine own_go (B := (s₁.setTop (mkF m 180 #[.val (.int p0)] []))) (fun t k => XS.icmpNo X0.here hx rfl (hb hby d1_177) rfl (tlt hc177).2.2.2 k) ?_
                                            refine own_go (B := (s₁.setTop (mkF m 181 #[.val (.int p0)] [(.int p0)]))) (fun t k => XS.iloadN X0.here hx rfl (hb hby d1_180) rfl k) ?_
                                            refine own_go (B := (s₁.setTop (mkF m 183 #[.val (.int p0)] [(.int (65008 : Int32)), (.int p0)]))) (fun t k => X0.ldcInt hx hown (mvT hZ (hw _ (List.mem_of_getElem? (i := 23) rfl))) (g := (mkF m 181 #[.val (.int p0)] [(.int p0)])) rfl (hb hby d1_181) _ k) ?_
                                            by_cases hc183 : p0 < (65008 : Int32)
                                            · refine own_go (B := (s₁.setTop (mkF m 192 #[.val (.int p0)] []))) (fun t k => XS.icmpYes X0.here hx rfl (pc0 := 183) (pc' := 192) rfl (hb hby d1_183) rfl (tlt hc183).1 (by decide) (by decide) k) ?_
                                              refine own_go (B := (s₁.setTop (mkF m 193 #[.val (.int p0)] [(.int p0)]))) (fun t k => XS.iloadN X0.here hx rfl (hb hby d1_192) rfl k) ?_
                                              refine own_go (B := (s₁.setTop (mkF m 195 #[.val (.int p0)] [(.int (65536 : Int32)), (.int p0)]))) (fun t k => X0.ldcInt hx hown (mvT hZ (hw _ (List.mem_of_getElem? (i := 24) rfl))) (g := (mkF m 193 #[.val (.int p0)] [(.int p0)])) rfl (hb hby d1_193) _ k) ?_
                                              refine own_go (B := (s₁.setTop (mkF m 208 #[.val (.int p0)] []))) (fun t k => XS.icmpYes X0.here hx rfl (pc0 := 195) (pc' := 208) rfl (hb hby d1_195) rfl (tlt (by revert hc177 hc183; simp only [Int32.lt_iff_toInt_lt, ← Int32.toInt_inj, Int32.reduceToInt]; intros; omega)).1 (by decide) (by decide) k) ?_
                                              refine own_go (B := (s₁.setTop (mkF m 209 #[.val (.int p0)] [(.int (0 : Int32))]))) (fun t k => XS.iconst X0.here hx rfl (hb hby d1_208) k) ?_
                                              obtain ⟨fs, hr, hrun, hended, hW, hsame⟩ := X0.leave (v := some (.int (0 : Int32))) (fun h => by rw [Bd.returns] at h; cases h)
                                              exact ⟨_, _, retN X0 hx (t := .boolean) Bd.returns (by simp) (hb hby d1_209) hr, hrun, hended, _, _, rfl, ⟨congrArg (fun z => some (Value.int z)) (by simp only [F1, if_neg hc4, if_neg hc47, if_pos hc54, if_neg hc61, if_pos hc68, if_neg hc75, if_pos hc82, if_neg hc89, if_pos hc96, if_neg hc103, if_pos hc110, if_neg hc117, if_pos hc124, if_neg hc131, if_pos hc138, if_neg hc145, if_pos hc152, if_neg hc159, if_pos hc165, if_neg hc171, if_pos hc177, if_pos hc183]), N0, e0⟩, ⟨_, rfl⟩, hW, hsame.mono (by decide) (by decide)⟩
                                            · refine own_go (B := (s₁.setTop (mkF m 186 #[.val (.int p0)] []))) (fun t k => XS.icmpNo X0.here hx rfl (hb hby d1_183) rfl (flt hc183).1 k) ?_
                                              refine own_go (B := (s₁.setTop (mkF m 187 #[.val (.int p0)] [(.int p0)]))) (fun t k => XS.iloadN X0.here hx rfl (hb hby d1_186) rfl k) ?_
                                              refine own_go (B := (s₁.setTop (mkF m 189 #[.val (.int p0)] [(.int (65533 : Int32)), (.int p0)]))) (fun t k => X0.ldcInt hx hown (mvT hZ (hw _ (List.mem_of_getElem? (i := 27) rfl))) (g := (mkF m 187 #[.val (.int p0)] [(.int p0)])) rfl (hb hby d1_187) _ k) ?_
                                              by_cases hc189 : (65533 : Int32) < p0
                                              · refine own_go (B := (s₁.setTop (mkF m 192 #[.val (.int p0)] []))) (fun t k => XS.icmpNo X0.here hx rfl (hb hby d1_189) rfl (tlt hc189).2.2.2 k) ?_
                                                refine own_go (B := (s₁.setTop (mkF m 193 #[.val (.int p0)] [(.int p0)]))) (fun t k => XS.iloadN X0.here hx rfl (hb hby d1_192) rfl k) ?_
                                                refine own_go (B := (s₁.setTop (mkF m 195 #[.val (.int p0)] [(.int (65536 : Int32)), (.int p0)]))) (fun t k => X0.ldcInt hx hown (mvT hZ (hw _ (List.mem_of_getElem? (i := 24) rfl))) (g := (mkF m 193 #[.val (.int p0)] [(.int p0)])) rfl (hb hby d1_193) _ k) ?_
                                                by_cases hc195 : p0 < (65536 : Int32)
                                                · refine own_go (B := (s₁.setTop (mkF m 208 #[.val (.int p0)] []))) (fun t k => XS.icmpYes X0.here hx rfl (pc0 := 195) (pc' := 208) rfl (hb hby d1_195) rfl (tlt hc195).1 (by decide) (by decide) k) ?_
                                                  refine own_go (B := (s₁.setTop (mkF m 209 #[.val (.int p0)] [(.int (0 : Int32))]))) (fun t k => XS.iconst X0.here hx rfl (hb hby d1_208) k) ?_
                                                  obtain ⟨fs, hr, hrun, hended, hW, hsame⟩ := X0.leave (v := some (.int (0 : Int32))) (fun h => by rw [Bd.returns] at h; cases h)
                                                  exact ⟨_, _, retN X0 hx (t := .boolean) Bd.returns (by simp) (hb hby d1_209) hr, hrun, hended, _, _, rfl, ⟨congrArg (fun z => some (Value.int z)) (by simp only [F1, if_neg hc4, if_neg hc47, if_pos hc54, if_neg hc61, if_pos hc68, if_neg hc75, if_pos hc82, if_neg hc89, if_pos hc96, if_neg hc103, if_pos hc110, if_neg hc117, if_pos hc124, if_neg hc131, if_pos hc138, if_neg hc145, if_pos hc152, if_neg hc159, if_pos hc165, if_neg hc171, if_pos hc177, if_neg hc183, if_pos hc189, if_pos hc195]), N0, e0⟩, ⟨_, rfl⟩, hW, hsame.mono (by decide) (by decide)⟩
                                                · refine own_go (B := (s₁.setTop (mkF m 198 #[.val (.int p0)] []))) (fun t k => XS.icmpNo X0.here hx rfl (hb hby d1_195) rfl (flt hc195).1 k) ?_
                                                  refine own_go (B := (s₁.setTop (mkF m 199 #[.val (.int p0)] [(.int p0)]))) (fun t k => XS.iloadN X0.here hx rfl (hb hby d1_198) rfl k) ?_
                                                  refine own_go (B := (s₁.setTop (mkF m 201 #[.val (.int p0)] [(.int (983039 : Int32)), (.int p0)]))) (fun t k => X0.ldcInt hx hown (mvT hZ (hw _ (List.mem_of_getElem? (i := 28) rfl))) (g := (mkF m 199 #[.val (.int p0)] [(.int p0)])) rfl (hb hby d1_199) _ k) ?_
                                                  by_cases hc201 : (983039 : Int32) < p0
                                                  · refine own_go (B := (s₁.setTop (mkF m 208 #[.val (.int p0)] []))) (fun t k => XS.icmpYes X0.here hx rfl (pc0 := 201) (pc' := 208) rfl (hb hby d1_201) rfl (tlt hc201).2.2.1 (by decide) (by decide) k) ?_
                                                    refine own_go (B := (s₁.setTop (mkF m 209 #[.val (.int p0)] [(.int (0 : Int32))]))) (fun t k => XS.iconst X0.here hx rfl (hb hby d1_208) k) ?_
                                                    obtain ⟨fs, hr, hrun, hended, hW, hsame⟩ := X0.leave (v := some (.int (0 : Int32))) (fun h => by rw [Bd.returns] at h; cases h)
                                                    exact ⟨_, _, retN X0 hx (t := .boolean) Bd.returns (by simp) (hb hby d1_209) hr, hrun, hended, _, _, rfl, ⟨congrArg (fun z => some (Value.int z)) (by simp only [F1, if_neg hc4, if_neg hc47, if_pos hc54, if_neg hc61, if_pos hc68, if_neg hc75, if_pos hc82, if_neg hc89, if_pos hc96, if_neg hc103, if_pos hc110, if_neg hc117, if_pos hc124, if_neg hc131, if_pos hc138, if_neg hc145, if_pos hc152, if_neg hc159, if_pos hc165, if_neg hc171, if_pos hc177, if_neg hc183, if_pos hc189, if_neg hc195, if_pos hc201]), N0, e0⟩, ⟨_, rfl⟩, hW, hsame.mono (by decide) (by decide)⟩
                                                  · refine own_go (B := (s₁.setTop (mkF m 204 #[.val (.int p0)] []))) (fun t k => XS.icmpNo X0.here hx rfl (hb hby d1_201) rfl (flt hc201).2.2.1 k) ?_
                                                    refine own_go (B := (s₁.setTop (mkF m 205 #[.val (.int p0)] [(.int (1 : Int32))]))) (fun t k => XS.iconst X0.here hx rfl (hb hby d1_204) k) ?_
                                                    refine own_go (B := (s₁.setTop (mkF m 209 #[.val (.int p0)] [(.int (1 : Int32))]))) (fun t k => XS.goto X0.here hx rfl (pc0 := 205) (pc' := 209) rfl (hb hby d1_205) (by decide) (by decide) k) ?_
                                                    obtain ⟨fs, hr, hrun, hended, hW, hsame⟩ := X0.leave (v := some (.int (1 : Int32))) (fun h => by rw [Bd.returns] at h; cases h)
                                                    exact ⟨_, _, retN X0 hx (t := .boolean) Bd.returns (by simp) (hb hby d1_209) hr, hrun, hended, _, _, rfl, ⟨congrArg (fun z => some (Value.int z)) (by simp only [F1, if_neg hc4, if_neg hc47, if_pos hc54, if_neg hc61, if_pos hc68, if_neg hc75, if_pos hc82, if_neg hc89, if_pos hc96, if_neg hc103, if_pos hc110, if_neg hc117, if_pos hc124, if_neg hc131, if_pos hc138, if_neg hc145, if_pos hc152, if_neg hc159, if_pos hc165, if_neg hc171, if_pos hc177, if_neg hc183, if_pos hc189, if_neg hc195, if_neg hc201]), N0, e0⟩, ⟨_, rfl⟩, hW, hsame.mono (by decide) (by decide)⟩
                                              · refine own_go (B := (s₁.setTop (mkF m 204 #[.val (.int p0)] []))) (fun t k => XS.icmpYes X0.here hx rfl (pc0 := 189) (pc' := 204) rfl (hb hby d1_189) rfl (flt hc189).2.2.2 (by decide) (by decide) k) ?_
                                                refine own_go (B := (s₁.setTop (mkF m 205 #[.val (.int p0)] [(.int (1 : Int32))]))) (fun t k => XS.iconst X0.here hx rfl (hb hby d1_204) k) ?_
                                                refine own_go (B := (s₁.setTop (mkF m 209 #[.val (.int p0)] [(.int (1 : Int32))]))) (fun t k => XS.goto X0.here hx rfl (pc0 := 205) (pc' := 209) rfl (hb hby d1_205) (by decide) (by decide) k) ?_
                                                obtain ⟨fs, hr, hrun, hended, hW, hsame⟩ := X0.leave (v := some (.int (1 : Int32))) (fun h => by rw [Bd.returns] at h; cases h)
                                                exact ⟨_, _, retN X0 hx (t := .boolean) Bd.returns (by simp) (hb hby d1_209) hr, hrun, hended, _, _, rfl, ⟨congrArg (fun z => some (Value.int z)) (by simp only [F1, if_neg hc4, if_neg hc47, if_pos hc54, if_neg hc61, if_pos hc68, if_neg hc75, if_pos hc82, if_neg hc89, if_pos hc96, if_neg hc103, if_pos hc110, if_neg hc117, if_pos hc124, if_neg hc131, if_pos hc138, if_neg hc145, if_pos hc152, if_neg hc159, if_pos hc165, if_neg hc171, if_pos hc177, if_neg hc183, if_neg hc189]), N0, e0⟩, ⟨_, rfl⟩, hW, hsame.mono (by decide) (by decide)⟩
                                          · refine own_go (B := (s₁.setTop (mkF m 204 #[.val (.int p0)] []))) (fun t k => XS.icmpYes X0.here hx rfl (pc0 := 177) (pc' := 204) rfl (hb hby d1_177) rfl (flt hc177).2.2.2 (by decide) (by decide) k) ?_
                                            refine own_go (B := (s₁.setTop (mkF m 205 #[.val (.int p0)] [(.int (1 : Int32))]))) (fun t k => XS.iconst X0.here hx rfl (hb hby d1_204) k) ?_
                                            refine own_go (B := (s₁.setTop (mkF m 209 #[.val (.int p0)] [(.int (1 : Int32))]))) (fun t k => XS.goto X0.here hx rfl (pc0 := 205) (pc' := 209) rfl (hb hby d1_205) (by decide) (by decide) k) ?_
                                            obtain ⟨fs, hr, hrun, hended, hW, hsame⟩ := X0.leave (v := some (.int (1 : Int32))) (fun h => by rw [Bd.returns] at h; cases h)
                                            exact ⟨_, _, retN X0 hx (t := .boolean) Bd.returns (by simp) (hb hby d1_209) hr, hrun, hended, _, _, rfl, ⟨congrArg (fun z => some (Value.int z)) (by simp only [F1, if_neg hc4, if_neg hc47, if_pos hc54, if_neg hc61, if_pos hc68, if_neg hc75, if_pos hc82, if_neg hc89, if_pos hc96, if_neg hc103, if_pos hc110, if_neg hc117, if_pos hc124, if_neg hc131, if_pos hc138, if_neg hc145, if_pos hc152, if_neg hc159, if_pos hc165, if_neg hc171, if_neg hc177]), N0, e0⟩, ⟨_, rfl⟩, hW, hsame.mono (by decide) (by decide)⟩
                                      · refine own_go (B := (s₁.setTop (mkF m 204 #[.val (.int p0)] []))) (fun t k => XS.icmpYes X0.here hx rfl (pc0 := 165) (pc' := 204) rfl (hb hby d1_165) rfl (flt hc165).2.2.2 (by decide) (by decide) k) ?_
                                        refine own_go (B := (s₁.setTop (mkF m 205 #[.val (.int p0)] [(.int (1 : Int32))]))) (fun t k => XS.iconst X0.here hx rfl (hb hby d1_204) k) ?_
                                        refine own_go (B := (s₁.setTop (mkF m 209 #[.val (.int p0)] [(.int (1 : Int32))]))) (fun t k => XS.goto X0.here hx rfl (pc0 := 205) (pc' := 209) rfl (hb hby d1_205) (by decide) (by decide) k) ?_
                                        obtain ⟨fs, hr, hrun, hended, hW, hsame⟩ := X0.leave (v := some (.int (1 : Int32))) (fun h => by rw [Bd.returns] at h; cases h)
                                        exact ⟨_, _, retN X0 hx (t := .boolean) Bd.returns (by simp) (hb hby d1_209) hr, hrun, hended, _, _, rfl, ⟨congrArg (fun z => some (Value.int z)) (by simp only [F1, if_neg hc4, if_neg hc47, if_pos hc54, if_neg hc61, if_pos hc68, if_neg hc75, if_pos hc82, if_neg hc89, if_pos hc96, if_neg hc103, if_pos hc110, if_neg hc117, if_pos hc124, if_neg hc131, if_pos hc138, if_neg hc145, if_pos hc152, if_neg hc159, if_neg hc165]), N0, e0⟩, ⟨_, rfl⟩, hW, hsame.mono (by decide) (by decide)⟩
                                  · refine own_go (B := (s₁.setTop (mkF m 204 #[.val (.int p0)] []))) (fun t k => XS.icmpYes X0.here hx rfl (pc0 := 152) (pc' := 204) rfl (hb hby d1_152) rfl (flt hc152).2.2.2 (by decide) (by decide) k) ?_
                                    refine own_go (B := (s₁.setTop (mkF m 205 #[.val (.int p0)] [(.int (1 : Int32))]))) (fun t k => XS.iconst X0.here hx rfl (hb hby d1_204) k) ?_
                                    refine own_go (B := (s₁.setTop (mkF m 209 #[.val (.int p0)] [(.int (1 : Int32))]))) (fun t k => XS.goto X0.here hx rfl (pc0 := 205) (pc' := 209) rfl (hb hby d1_205) (by decide) (by decide) k) ?_
                                    obtain ⟨fs, hr, hrun, hended, hW, hsame⟩ := X0.leave (v := some (.int (1 : Int32))) (fun h => by rw [Bd.returns] at h; cases h)
                                    exact ⟨_, _, retN X0 hx (t := .boolean) Bd.returns (by simp) (hb hby d1_209) hr, hrun, hended, _, _, rfl, ⟨congrArg (fun z => some (Value.int z)) (by simp only [F1, if_neg hc4, if_neg hc47, if_pos hc54, if_neg hc61, if_pos hc68, if_neg hc75, if_pos hc82, if_neg hc89, if_pos hc96, if_neg hc103, if_pos hc110, if_neg hc117, if_pos hc124, if_neg hc131, if_pos hc138, if_neg hc145, if_neg hc152]), N0, e0⟩, ⟨_, rfl⟩, hW, hsame.mono (by decide) (by decide)⟩
                              · refine own_go (B := (s₁.setTop (mkF m 204 #[.val (.int p0)] []))) (fun t k => XS.icmpYes X0.here hx rfl (pc0 := 138) (pc' := 204) rfl (hb hby d1_138) rfl (flt hc138).2.2.2 (by decide) (by decide) k) ?_
                                refine own_go (B := (s₁.setTop (mkF m 205 #[.val (.int p0)] [(.int (1 : Int32))]))) (fun t k => XS.iconst X0.here hx rfl (hb hby d1_204) k) ?_
                                refine own_go (B := (s₁.setTop (mkF m 209 #[.val (.int p0)] [(.int (1 : Int32))]))) (fun t k => XS.goto X0.here hx rfl (pc0 := 205) (pc' := 209) rfl (hb hby d1_205) (by decide) (by decide) k) ?_
                                obtain ⟨fs, hr, hrun, hended, hW, hsame⟩ := X0.leave (v := some (.int (1 : Int32))) (fun h => by rw [Bd.returns] at h; cases h)
                                exact ⟨_, _, retN X0 hx (t := .boolean) Bd.returns (by simp) (hb hby d1_209) hr, hrun, hended, _, _, rfl, ⟨congrArg (fun z => some (Value.int z)) (by simp only [F1, if_neg hc4, if_neg hc47, if_pos hc54, if_neg hc61, if_pos hc68, if_neg hc75, if_pos hc82, if_neg hc89, if_pos hc96, if_neg hc103, if_pos hc110, if_neg hc117, if_pos hc124, if_neg hc131, if_neg hc138]), N0, e0⟩, ⟨_, rfl⟩, hW, hsame.mono (by decide) (by decide)⟩
                          · refine own_go (B := (s₁.setTop (mkF m 204 #[.val (.int p0)] []))) (fun t k => XS.icmpYes X0.here hx rfl (pc0 := 124) (pc' := 204) rfl (hb hby d1_124) rfl (flt hc124).2.2.2 (by decide) (by decide) k) ?_
                            refine own_go (B := (s₁.setTop (mkF m 205 #[.val (.int p0)] [(.int (1 : Int32))]))) (fun t k => XS.iconst X0.here hx rfl (hb hby d1_204) k) ?_
                            refine own_go (B := (s₁.setTop (mkF m 209 #[.val (.int p0)] [(.int (1 : Int32))]))) (fun t k => XS.goto X0.here hx rfl (pc0 := 205) (pc' := 209) rfl (hb hby d1_205) (by decide) (by decide) k) ?_
                            obtain ⟨fs, hr, hrun, hended, hW, hsame⟩ := X0.leave (v := some (.int (1 : Int32))) (fun h => by rw [Bd.returns] at h; cases h)
                            exact ⟨_, _, retN X0 hx (t := .boolean) Bd.returns (by simp) (hb hby d1_209) hr, hrun, hended, _, _, rfl, ⟨congrArg (fun z => some (Value.int z)) (by simp only [F1, if_neg hc4, if_neg hc47, if_pos hc54, if_neg hc61, if_pos hc68, if_neg hc75, if_pos hc82, if_neg hc89, if_pos hc96, if_neg hc103, if_pos hc110, if_neg hc117, if_neg hc124]), N0, e0⟩, ⟨_, rfl⟩, hW, hsame.mono (by decide) (by decide)⟩
                      · refine own_go (B := (s₁.setTop (mkF m 204 #[.val (.int p0)] []))) (fun t k => XS.icmpYes X0.here hx rfl (pc0 := 110) (pc' := 204) rfl (hb hby d1_110) rfl (flt hc110).2.2.2 (by decide) (by decide) k) ?_
                        refine own_go (B := (s₁.setTop (mkF m 205 #[.val (.int p0)] [(.int (1 : Int32))]))) (fun t k => XS.iconst X0.here hx rfl (hb hby d1_204) k) ?_
                        refine own_go (B := (s₁.setTop (mkF m 209 #[.val (.int p0)] [(.int (1 : Int32))]))) (fun t k => XS.goto X0.here hx rfl (pc0 := 205) (pc' := 209) rfl (hb hby d1_205) (by decide) (by decide) k) ?_
                        obtain ⟨fs, hr, hrun, hended, hW, hsame⟩ := X0.leave (v := some (.int (1 : Int32))) (fun h => by rw [Bd.returns] at h; cases h)
                        exact ⟨_, _, retN X0 hx (t := .boolean) Bd.returns (by simp) (hb hby d1_209) hr, hrun, hended, _, _, rfl, ⟨congrArg (fun z => some (Value.int z)) (by simp only [F1, if_neg hc4, if_neg hc47, if_pos hc54, if_neg hc61, if_pos hc68, if_neg hc75, if_pos hc82, if_neg hc89, if_pos hc96, if_neg hc103, if_neg hc110]), N0, e0⟩, ⟨_, rfl⟩, hW, hsame.mono (by decide) (by decide)⟩
                  · refine own_go (B := (s₁.setTop (mkF m 204 #[.val (.int p0)] []))) (fun t k => XS.icmpYes X0.here hx rfl (pc0 := 96) (pc' := 204) rfl (hb hby d1_96) rfl (flt hc96).2.2.2 (by decide) (by decide) k) ?_
                    refine own_go (B := (s₁.setTop (mkF m 205 #[.val (.int p0)] [(.int (1 : Int32))]))) (fun t k => XS.iconst X0.here hx rfl (hb hby d1_204) k) ?_
                    refine own_go (B := (s₁.setTop (mkF m 209 #[.val (.int p0)] [(.int (1 : Int32))]))) (fun t k => XS.goto X0.here hx rfl (pc0 := 205) (pc' := 209) rfl (hb hby d1_205) (by decide) (by decide) k) ?_
                    obtain ⟨fs, hr, hrun, hended, hW, hsame⟩ := X0.leave (v := some (.int (1 : Int32))) (fun h => by rw [Bd.returns] at h; cases h)
                    exact ⟨_, _, retN X0 hx (t := .boolean) Bd.returns (by simp) (hb hby d1_209) hr, hrun, hended, _, _, rfl, ⟨congrArg (fun z => some (Value.int z)) (by simp only [F1, if_neg hc4, if_neg hc47, if_pos hc54, if_neg hc61, if_pos hc68, if_neg hc75, if_pos hc82, if_neg hc89, if_neg hc96]), N0, e0⟩, ⟨_, rfl⟩, hW, hsame.mono (by decide) (by decide)⟩
              · refine own_go (B := (s₁.setTop (mkF m 204 #[.val (.int p0)] []))) (fun t k => XS.icmpYes X0.here hx rfl (pc0 := 82) (pc' := 204) rfl (hb hby d1_82) rfl (flt hc82).2.2.2 (by decide) (by decide) k) ?_
                refine own_go (B := (s₁.setTop (mkF m 205 #[.val (.int p0)] [(.int (1 : Int32))]))) (fun t k => XS.iconst X0.here hx rfl (hb hby d1_204) k) ?_
                refine own_go (B := (s₁.setTop (mkF m 209 #[.val (.int p0)] [(.int (1 : Int32))]))) (fun t k => XS.goto X0.here hx rfl (pc0 := 205) (pc' := 209) rfl (hb hby d1_205) (by decide) (by decide) k) ?_
                obtain ⟨fs, hr, hrun, hended, hW, hsame⟩ := X0.leave (v := some (.int (1 : Int32))) (fun h => by rw [Bd.returns] at h; cases h)
                exact ⟨_, _, retN X0 hx (t := .boolean) Bd.returns (by simp) (hb hby d1_209) hr, hrun, hended, _, _, rfl, ⟨congrArg (fun z => some (Value.int z)) (by simp only [F1, if_neg hc4, if_neg hc47, if_pos hc54, if_neg hc61, if_pos hc68, if_neg hc75, if_neg hc82]), N0, e0⟩, ⟨_, rfl⟩, hW, hsame.mono (by decide) (by decide)⟩
          · refine own_go (B := (s₁.setTop (mkF m 204 #[.val (.int p0)] []))) (fun t k => XS.icmpYes X0.here hx rfl (pc0 := 68) (pc' := 204) rfl (hb hby d1_68) rfl (flt hc68).2.2.2 (by decide) (by decide) k) ?_
            refine own_go (B := (s₁.setTop (mkF m 205 #[.val (.int p0)] [(.int (1 : Int32))]))) (fun t k => XS.iconst X0.here hx rfl (hb hby d1_204) k) ?_
            refine own_go (B := (s₁.setTop (mkF m 209 #[.val (.int p0)] [(.int (1 : Int32))]))) (fun t k => XS.goto X0.here hx rfl (pc0 := 205) (pc' := 209) rfl (hb hby d1_205) (by decide) (by decide) k) ?_
            obtain ⟨fs, hr, hrun, hended, hW, hsame⟩ := X0.leave (v := some (.int (1 : Int32))) (fun h => by rw [Bd.returns] at h; cases h)
            exact ⟨_, _, retN X0 hx (t := .boolean) Bd.returns (by simp) (hb hby d1_209) hr, hrun, hended, _, _, rfl, ⟨congrArg (fun z => some (Value.int z)) (by simp only [F1, if_neg hc4, if_neg hc47, if_pos hc54, if_neg hc61, if_neg hc68]), N0, e0⟩, ⟨_, rfl⟩, hW, hsame.mono (by decide) (by decide)⟩
      · refine own_go (B := (s₁.setTop (mkF m 204 #[.val (.int p0)] []))) (fun t k => XS.icmpYes X0.here hx rfl (pc0 := 54) (pc' := 204) rfl (hb hby d1_54) rfl (flt hc54).2.2.2 (by decide) (by decide) k) ?_
        refine own_go (B := (s₁.setTop (mkF m 205 #[.val (.int p0)] [(.int (1 : Int32))]))) (fun t k => XS.iconst X0.here hx rfl (hb hby d1_204) k) ?_
        refine own_go (B := (s₁.setTop (mkF m 209 #[.val (.int p0)] [(.int (1 : Int32))]))) (fun t k => XS.goto X0.here hx rfl (pc0 := 205) (pc' := 209) rfl (hb hby d1_205) (by decide) (by decide) k) ?_
        obtain ⟨fs, hr, hrun, hended, hW, hsame⟩ := X0.leave (v := some (.int (1 : Int32))) (fun h => by rw [Bd.returns] at h; cases h)
        exact ⟨_, _, retN X0 hx (t := .boolean) Bd.returns (by simp) (hb hby d1_209) hr, hrun, hended, _, _, rfl, ⟨congrArg (fun z => some (Value.int z)) (by simp only [F1, if_neg hc4, if_neg hc47, if_neg hc54]), N0, e0⟩, ⟨_, rfl⟩, hW, hsame.mono (by decide) (by decide)⟩
theorem d4_0 : decode method_2_code 0 = .ok (.iload_n 0, 1) := by decide +kernel
theorem d4_1 : decode method_2_code 1 = .ok (.iload_n 1, 1) := by decide +kernel
theorem d4_2 : decode method_2_code 2 = .ok (.if_icmp .lt 12, 3) := by decide +kernel
theorem d4_5 : decode method_2_code 5 = .ok (.iload_n 0, 1) := by decide +kernel
theorem d4_6 : decode method_2_code 6 = .ok (.iload_n 2, 1) := by decide +kernel
theorem d4_7 : decode method_2_code 7 = .ok (.if_icmp .gt 7, 3) := by decide +kernel
theorem d4_10 : decode method_2_code 10 = .ok (.iconst 1, 1) := by decide +kernel
theorem d4_11 : decode method_2_code 11 = .ok (.goto 4, 3) := by decide +kernel
theorem d4_14 : decode method_2_code 14 = .ok (.iconst 0, 1) := by decide +kernel
theorem d4_15 : decode method_2_code 15 = .ok (.ireturn, 1) := by decide +kernel
theorem pn_4 : plainName "com/example/homing_pigeon/homingpigeon/NCNameIsNameStartCharPinLaw" = true := by first | (simp [plainName, overriddenIn]; done) | decide +kernel
theorem ef_4 (m : MethodId) (x0 : Int32) (x1 : Int32) (x2 : Int32) : entryFrame m #[(.int x0), (.int x1), (.int x2)] 3 = mkF m 0 #[.val (.int x0), .val (.int x1), .val (.int x2)] [] := by first | (simp [entryFrame, mkF, argsToLocals, Value.category]; done) | rfl
def F4 (p0 : Int32) (p1 : Int32) (p2 : Int32)  : Int32 := if p0 < p1 then (0 : Int32) else if p2 < p0 then (0 : Int32) else (1 : Int32)
def Q4 (Z : State) (p0 : Int32) (p1 : Int32) (p2 : Int32)  (h0 : Heap) (n0 : Nat) (v : Option Value) (h : Heap) (L : List Loc) : Prop := v = some (.int (F4 p0 p1 p2)) ∧ Fr n0 L ∧ h = h0
set_option maxRecDepth 65536 in
set_option maxHeartbeats 40000000 in
theorem rm4 (l : Launch) (Z : State) (a0 : Array Value) (hw : ∀ d ∈ tables_1, d.before a0 Z = true) (ws : List Jvm.Cond) (p0 : Int32) (p1 : Int32) (p2 : Int32)  (h0 : Heap) (n0 : Nat)  :
    MetFree l (⟨"com/example/homing_pigeon/homingpigeon/NCNameIsNameStartCharPinLaw", "in", "(III)Z"⟩ : MethodName) (head1 (Jvm.Cond.code (⟨"com/example/homing_pigeon/homingpigeon/NCNameIsNameStartCharPinLaw", "in", "(III)Z"⟩ : MethodName) method_2_code 3 (some .boolean) :: ws) ({ frames := 0, cells := 0, slots := 0, locals := 0 } : Room)) (fun a U => a = #[(.int p0), (.int p1), (.int p2)] ∧ Z.Warmed39 U.vm ∧ U.heap = h0) (fun _ _ _ _ _ => True) (fun _ U o U' => ∃ v L, o = .returned v ∧ Q4 Z p0 p1 p2  h0 n0 v U'.heap L ∧ FrameEnd U o U' L ({ frames := 0, cells := 0, slots := 0, locals := 0 } : Room).cells ({ frames := 0, cells := 0, slots := 0, locals := 0 } : Room).slots) := by
  refine MetFree.of_bodySF (plainFor_of_name pn_4) hisR ?_
  intro p e s m args below meth c s₁ Bd hml0 hP hK
  obtain ⟨rfl, hZ, hh⟩ := hP
  have hx := Bd.exec
  have hby := Bd.bytes
  have hml : c.maxLocals = 3 := hml0
  have hown : s.vm.findClass "com/example/homing_pigeon/homingpigeon/NCNameIsNameStartCharPinLaw" = some m.cls := findClass_of_methodNamed Bd.named
  have hnm := (name_of_methodNamed Bd.named Bd.method).1
  have X0 : Stand p l e ({ frames := 0, cells := 0, slots := 0, locals := 0 } : Room) s m #[(.int p0), (.int p1), (.int p2)] below meth c s₁ [] 0 0 := Stand.of_body Bd
  have e0 : s₁.heap = h0 := by rw [← hh, Bd.state]; rfl
  have N0 := Fr.nil n0
  refine own_go (B := (s₁.setTop (mkF m 0 #[.val (.int p0), .val (.int p1), .val (.int p2)] []))) (fun t k => castTop (ef_4 m p0 p1 p2) k) ?_
  refine own_go (B := (s₁.setTop (mkF m 1 #[.val (.int p0), .val (.int p1), .val (.int p2)] [(.int p0)]))) (fun t k => XS.iloadN X0.here hx rfl (hb hby d4_0) rfl k) ?_
  refine own_go (B := (s₁.setTop (mkF m 2 #[.val (.int p0), .val (.int p1), .val (.int p2)] [(.int p1), (.int p0)]))) (fun t k => XS.iloadN X0.here hx rfl (hb hby d4_1) rfl k) ?_
  by_cases hc2 : p0 < p1
  · refine own_go (B := (s₁.setTop (mkF m 14 #[.val (.int p0), .val (.int p1), .val (.int p2)] []))) (fun t k => XS.icmpYes X0.here hx rfl (pc0 := 2) (pc' := 14) rfl (hb hby d4_2) rfl (tlt hc2).1 (by decide) (by decide) k) ?_
    refine own_go (B := (s₁.setTop (mkF m 15 #[.val (.int p0), .val (.int p1), .val (.int p2)] [(.int (0 : Int32))]))) (fun t k => XS.iconst X0.here hx rfl (hb hby d4_14) k) ?_
    obtain ⟨fs, hr, hrun, hended, hW, hsame⟩ := X0.leave (v := some (.int (0 : Int32))) (fun h => by rw [Bd.returns] at h; cases h)
    exact ⟨_, _, retN X0 hx (t := .boolean) Bd.returns (by simp) (hb hby d4_15) hr, hrun, hended, _, _, rfl, ⟨congrArg (fun z => some (Value.int z)) (by simp only [F4, if_pos hc2]), N0, e0⟩, ⟨_, rfl⟩, hW, hsame.mono (by decide) (by decide)⟩
  · refine own_go (B := (s₁.setTop (mkF m 5 #[.val (.int p0), .val (.int p1), .val (.int p2)] []))) (fun t k => XS.icmpNo X0.here hx rfl (hb hby d4_2) rfl (flt hc2).1 k) ?_
    refine own_go (B := (s₁.setTop (mkF m 6 #[.val (.int p0), .val (.int p1), .val (.int p2)] [(.int p0)]))) (fun t k => XS.iloadN X0.here hx rfl (hb hby d4_5) rfl k) ?_
    refine own_go (B := (s₁.setTop (mkF m 7 #[.val (.int p0), .val (.int p1), .val (.int p2)] [(.int p2), (.int p0)]))) (fun t k => XS.iloadN X0.here hx rfl (hb hby d4_6) rfl k) ?_
    by_cases hc7 : p2 < p0
    · refine own_go (B := (s₁.setTop (mkF m 14 #[.val (.int p0), .val (.int p1), .val (.int p2)] []))) (fun t k => XS.icmpYes X0.here hx rfl (pc0 := 7) (pc' := 14) rfl (hb hby d4_7) rfl (tlt hc7).2.2.1 (by decide) (by decide) k) ?_
      refine own_go (B := (s₁.setTop (mkF m 15 #[.val (.int p0), .val (.int p1), .val (.int p2)] [(.int (0 : Int32))]))) (fun t k => XS.iconst X0.here hx rfl (hb hby d4_14) k) ?_
      obtain ⟨fs, hr, hrun, hended, hW, hsame⟩ := X0.leave (v := some (.int (0 : Int32))) (fun h => by rw [Bd.returns] at h; cases h)
      exact ⟨_, _, retN X0 hx (t := .boolean) Bd.returns (by simp) (hb hby d4_15) hr, hrun, hended, _, _, rfl, ⟨congrArg (fun z => some (Value.int z)) (by simp only [F4, if_neg hc2, if_pos hc7]), N0, e0⟩, ⟨_, rfl⟩, hW, hsame.mono (by decide) (by decide)⟩
    · refine own_go (B := (s₁.setTop (mkF m 10 #[.val (.int p0), .val (.int p1), .val (.int p2)] []))) (fun t k => XS.icmpNo X0.here hx rfl (hb hby d4_7) rfl (flt hc7).2.2.1 k) ?_
      refine own_go (B := (s₁.setTop (mkF m 11 #[.val (.int p0), .val (.int p1), .val (.int p2)] [(.int (1 : Int32))]))) (fun t k => XS.iconst X0.here hx rfl (hb hby d4_10) k) ?_
      refine own_go (B := (s₁.setTop (mkF m 15 #[.val (.int p0), .val (.int p1), .val (.int p2)] [(.int (1 : Int32))]))) (fun t k => XS.goto X0.here hx rfl (pc0 := 11) (pc' := 15) rfl (hb hby d4_11) (by decide) (by decide) k) ?_
      obtain ⟨fs, hr, hrun, hended, hW, hsame⟩ := X0.leave (v := some (.int (1 : Int32))) (fun h => by rw [Bd.returns] at h; cases h)
      exact ⟨_, _, retN X0 hx (t := .boolean) Bd.returns (by simp) (hb hby d4_15) hr, hrun, hended, _, _, rfl, ⟨congrArg (fun z => some (Value.int z)) (by simp only [F4, if_neg hc2, if_neg hc7]), N0, e0⟩, ⟨_, rfl⟩, hW, hsame.mono (by decide) (by decide)⟩
theorem d3_0 : decode method_3_code 0 = .ok (.iload_n 0, 1) := by decide +kernel
theorem d3_1 : decode method_3_code 1 = .ok (.bipush 91, 2) := by decide +kernel
theorem d3_3 : decode method_3_code 3 = .ok (.bipush 94, 2) := by decide +kernel
theorem d3_5 : decode method_3_code 5 = .ok (.invokestatic 7, 3) := by decide +kernel
theorem d3_8 : decode method_3_code 8 = .ok (.ifCond .ne 140, 3) := by decide +kernel
theorem d3_11 : decode method_3_code 11 = .ok (.iload_n 0, 1) := by decide +kernel
theorem d3_12 : decode method_3_code 12 = .ok (.bipush 96, 2) := by decide +kernel
theorem d3_14 : decode method_3_code 14 = .ok (.if_icmp .eq 134, 3) := by decide +kernel
theorem d3_17 : decode method_3_code 17 = .ok (.iload_n 0, 1) := by decide +kernel
theorem d3_18 : decode method_3_code 18 = .ok (.bipush 123, 2) := by decide +kernel
theorem d3_20 : decode method_3_code 20 = .ok (.sipush 191, 3) := by decide +kernel
theorem d3_23 : decode method_3_code 23 = .ok (.invokestatic 7, 3) := by decide +kernel
theorem d3_26 : decode method_3_code 26 = .ok (.ifCond .ne 122, 3) := by decide +kernel
theorem d3_29 : decode method_3_code 29 = .ok (.iload_n 0, 1) := by decide +kernel
theorem d3_30 : decode method_3_code 30 = .ok (.sipush 215, 3) := by decide +kernel
theorem d3_33 : decode method_3_code 33 = .ok (.if_icmp .eq 115, 3) := by decide +kernel
theorem d3_36 : decode method_3_code 36 = .ok (.iload_n 0, 1) := by decide +kernel
theorem d3_37 : decode method_3_code 37 = .ok (.sipush 247, 3) := by decide +kernel
theorem d3_40 : decode method_3_code 40 = .ok (.if_icmp .eq 108, 3) := by decide +kernel
theorem d3_43 : decode method_3_code 43 = .ok (.iload_n 0, 1) := by decide +kernel
theorem d3_44 : decode method_3_code 44 = .ok (.sipush 768, 3) := by decide +kernel
theorem d3_47 : decode method_3_code 47 = .ok (.sipush 879, 3) := by decide +kernel
theorem d3_50 : decode method_3_code 50 = .ok (.invokestatic 7, 3) := by decide +kernel
theorem d3_53 : decode method_3_code 53 = .ok (.ifCond .ne 95, 3) := by decide +kernel
theorem d3_56 : decode method_3_code 56 = .ok (.iload_n 0, 1) := by decide +kernel
theorem d3_57 : decode method_3_code 57 = .ok (.sipush 894, 3) := by decide +kernel
theorem d3_60 : decode method_3_code 60 = .ok (.if_icmp .eq 88, 3) := by decide +kernel
theorem d3_63 : decode method_3_code 63 = .ok (.iload_n 0, 1) := by decide +kernel
theorem d3_64 : decode method_3_code 64 = .ok (.sipush 8192, 3) := by decide +kernel
theorem d3_67 : decode method_3_code 67 = .ok (.sipush 8203, 3) := by decide +kernel
theorem d3_70 : decode method_3_code 70 = .ok (.invokestatic 7, 3) := by decide +kernel
theorem d3_73 : decode method_3_code 73 = .ok (.ifCond .ne 75, 3) := by decide +kernel
theorem d3_76 : decode method_3_code 76 = .ok (.iload_n 0, 1) := by decide +kernel
theorem d3_77 : decode method_3_code 77 = .ok (.sipush 8206, 3) := by decide +kernel
theorem d3_80 : decode method_3_code 80 = .ok (.sipush 8303, 3) := by decide +kernel
theorem d3_83 : decode method_3_code 83 = .ok (.invokestatic 7, 3) := by decide +kernel
theorem d3_86 : decode method_3_code 86 = .ok (.ifCond .ne 62, 3) := by decide +kernel
theorem d3_89 : decode method_3_code 89 = .ok (.iload_n 0, 1) := by decide +kernel
theorem d3_90 : decode method_3_code 90 = .ok (.sipush 8592, 3) := by decide +kernel
theorem d3_93 : decode method_3_code 93 = .ok (.sipush 11263, 3) := by decide +kernel
theorem d3_96 : decode method_3_code 96 = .ok (.invokestatic 7, 3) := by decide +kernel
theorem d3_99 : decode method_3_code 99 = .ok (.ifCond .ne 49, 3) := by decide +kernel
theorem d3_102 : decode method_3_code 102 = .ok (.iload_n 0, 1) := by decide +kernel
theorem d3_103 : decode method_3_code 103 = .ok (.sipush 12272, 3) := by decide +kernel
theorem d3_106 : decode method_3_code 106 = .ok (.sipush 12288, 3) := by decide +kernel
theorem d3_109 : decode method_3_code 109 = .ok (.invokestatic 7, 3) := by decide +kernel
theorem d3_112 : decode method_3_code 112 = .ok (.ifCond .ne 36, 3) := by decide +kernel
theorem d3_115 : decode method_3_code 115 = .ok (.iload_n 0, 1) := by decide +kernel
theorem d3_116 : decode method_3_code 116 = .ok (.ldc 13, 2) := by decide +kernel
theorem d3_118 : decode method_3_code 118 = .ok (.ldc 14, 2) := by decide +kernel
theorem d3_120 : decode method_3_code 120 = .ok (.invokestatic 7, 3) := by decide +kernel
theorem d3_123 : decode method_3_code 123 = .ok (.ifCond .ne 25, 3) := by decide +kernel
theorem d3_126 : decode method_3_code 126 = .ok (.iload_n 0, 1) := by decide +kernel
theorem d3_127 : decode method_3_code 127 = .ok (.ldc 15, 2) := by decide +kernel
theorem d3_129 : decode method_3_code 129 = .ok (.ldc 16, 2) := by decide +kernel
theorem d3_131 : decode method_3_code 131 = .ok (.invokestatic 7, 3) := by decide +kernel
theorem d3_134 : decode method_3_code 134 = .ok (.ifCond .ne 14, 3) := by decide +kernel
theorem d3_137 : decode method_3_code 137 = .ok (.iload_n 0, 1) := by decide +kernel
theorem d3_138 : decode method_3_code 138 = .ok (.ldc 17, 2) := by decide +kernel
theorem d3_140 : decode method_3_code 140 = .ok (.ldc 18, 2) := by decide +kernel
theorem d3_142 : decode method_3_code 142 = .ok (.invokestatic 7, 3) := by decide +kernel
theorem d3_145 : decode method_3_code 145 = .ok (.ifCond .eq 7, 3) := by decide +kernel
theorem d3_148 : decode method_3_code 148 = .ok (.iconst 1, 1) := by decide +kernel
theorem d3_149 : decode method_3_code 149 = .ok (.goto 4, 3) := by decide +kernel
theorem d3_152 : decode method_3_code 152 = .ok (.iconst 0, 1) := by decide +kernel
theorem d3_153 : decode method_3_code 153 = .ok (.ireturn, 1) := by decide +kernel
theorem pn_3 : plainName "com/example/homing_pigeon/homingpigeon/NCNameIsNameStartCharPinLaw" = true := by first | (simp [plainName, overriddenIn]; done) | decide +kernel
theorem pd_3_0 : parseMethodDescriptor "(III)Z" = some ⟨[.int, .int, .int], some .boolean⟩ := by decide +kernel
theorem ef_3 (m : MethodId) (x0 : Int32) : entryFrame m #[(.int x0)] 1 = mkF m 0 #[.val (.int x0)] [] := by first | (simp [entryFrame, mkF, argsToLocals, Value.category]; done) | rfl
def F3 (p0 : Int32)  : Int32 := if (F4 p0 (91 : Int32) (94 : Int32)) = (0 : Int32) then (if p0 = (96 : Int32) then (1 : Int32) else if (F4 p0 (123 : Int32) (191 : Int32)) = (0 : Int32) then (if p0 = (215 : Int32) then (1 : Int32) else if p0 = (247 : Int32) then (1 : Int32) else if (F4 p0 (768 : Int32) (879 : Int32)) = (0 : Int32) then (if p0 = (894 : Int32) then (1 : Int32) else if (F4 p0 (8192 : Int32) (8203 : Int32)) = (0 : Int32) then (if (F4 p0 (8206 : Int32) (8303 : Int32)) = (0 : Int32) then (if (F4 p0 (8592 : Int32) (11263 : Int32)) = (0 : Int32) then (if (F4 p0 (12272 : Int32) (12288 : Int32)) = (0 : Int32) then (if (F4 p0 (55296 : Int32) (63743 : Int32)) = (0 : Int32) then (if (F4 p0 (64976 : Int32) (65007 : Int32)) = (0 : Int32) then (if (F4 p0 (65534 : Int32) (65535 : Int32)) = (0 : Int32) then (0 : Int32) else (1 : Int32)) else (1 : Int32)) else (1 : Int32)) else (1 : Int32)) else (1 : Int32)) else (1 : Int32)) else (1 : Int32)) else (1 : Int32)) else (1 : Int32)) else (1 : Int32)
def Q3 (Z : State) (p0 : Int32)  (h0 : Heap) (n0 : Nat) (v : Option Value) (h : Heap) (L : List Loc) : Prop := v = some (.int (F3 p0)) ∧ Fr n0 L ∧ h = h0
set_option maxRecDepth 65536 in
set_option maxHeartbeats 40000000 in
theorem rm3 (l : Launch) (Z : State) (a0 : Array Value) (hw : ∀ d ∈ tables_1, d.before a0 Z = true) (ws : List Jvm.Cond) (p0 : Int32)  (h0 : Heap) (n0 : Nat)  :
    MetFree l (⟨"com/example/homing_pigeon/homingpigeon/NCNameIsNameStartCharPinLaw", "inGap", "(I)Z"⟩ : MethodName) (head1 (Jvm.Cond.code (⟨"com/example/homing_pigeon/homingpigeon/NCNameIsNameStartCharPinLaw", "inGap", "(I)Z"⟩ : MethodName) method_3_code 1 (some .boolean) :: ws) ({ frames := 1, cells := 0, slots := 0, locals := 14 } : Room)) (fun a U => a = #[(.int p0)] ∧ Z.Warmed39 U.vm ∧ U.heap = h0) (fun _ _ _ _ _ => True) (fun _ U o U' => ∃ v L, o = .returned v ∧ Q3 Z p0  h0 n0 v U'.heap L ∧ FrameEnd U o U' L ({ frames := 1, cells := 0, slots := 0, locals := 14 } : Room).cells ({ frames := 1, cells := 0, slots := 0, locals := 14 } : Room).slots) := by
  refine MetFree.of_bodySF (plainFor_of_name pn_3) hisR ?_
  intro p e s m args below meth c s₁ Bd hml0 hP hK
  obtain ⟨rfl, hZ, hh⟩ := hP
  have hx := Bd.exec
  have hby := Bd.bytes
  have hml : c.maxLocals = 1 := hml0
  have hown : s.vm.findClass "com/example/homing_pigeon/homingpigeon/NCNameIsNameStartCharPinLaw" = some m.cls := findClass_of_methodNamed Bd.named
  have hnm := (name_of_methodNamed Bd.named Bd.method).1
  have X0 : Stand p l e ({ frames := 1, cells := 0, slots := 0, locals := 14 } : Room) s m #[(.int p0)] below meth c s₁ [] 0 0 := Stand.of_body Bd
  have e0 : s₁.heap = h0 := by rw [← hh, Bd.state]; rfl
  have N0 := Fr.nil n0
  refine own_go (B := (s₁.setTop (mkF m 0 #[.val (.int p0)] []))) (fun t k => castTop (ef_3 m p0) k) ?_
  refine own_go (B := (s₁.setTop (mkF m 1 #[.val (.int p0)] [(.int p0)]))) (fun t k => XS.iloadN X0.here hx rfl (hb hby d3_0) rfl k) ?_
  refine own_go (B := (s₁.setTop (mkF m 3 #[.val (.int p0)] [(.int (91 : Int32)), (.int p0)]))) (fun t k => XS.bipush X0.here hx rfl (hb hby d3_1) k) ?_
  refine own_go (B := (s₁.setTop (mkF m 5 #[.val (.int p0)] [(.int (94 : Int32)), (.int (91 : Int32)), (.int p0)]))) (fun t k => XS.bipush X0.here hx rfl (hb hby d3_3) k) ?_
  obtain ⟨_, _, ⟨T1, L1, k1, n1⟩, -, X1, ⟨Lc1, hQ1, l1, y1, z1⟩, st1⟩ := Jvm.LawKit.callS X0 hx (y := (⟨"com/example/homing_pigeon/homingpigeon/NCNameIsNameStartCharPinLaw", "in", "(III)Z"⟩ : MethodName)) hown (mvT hZ (hw _ (List.mem_of_getElem? (i := 13) rfl))) (mvT hZ (hw _ (List.mem_of_getElem? (i := 14) rfl))) (mvT hZ (hw _ (List.mem_of_getElem? (i := 7) rfl))) (mvT hZ (hw _ (List.mem_of_getElem? (i := 15) rfl))) (by decide) (backOf (W := 0) (rm4 l Z a0 hw [] p0 (91 : Int32) (94 : Int32)  h0 n0 ) hZ (hw _ (List.mem_of_getElem? (i := 15) rfl)) (hw _ (List.mem_of_getElem? (i := 7) rfl)) (by decide) (by decide)) (g := (mkF m 5 #[.val (.int p0)] [(.int (94 : Int32)), (.int (91 : Int32)), (.int p0)])) rfl (by rw [hml]; rfl) (argsL := [(.int p0), (.int (91 : Int32)), (.int (94 : Int32))]) (rest := []) (lenOf pd_3_0 rfl) rfl (by show 2 * 0 + _ ≤ _; exact Nat.le_of_eq rfl) (hb hby d3_5) (fun _ _ => ⟨rfl, e0, (by decide : 0 + 0 ≤ _), (by decide : 0 + 0 ≤ _)⟩)
  dsimp only [Pt.U, Pt.locs, Pt.cells, Pt.slots] at X1 l1 y1 z1 st1 hQ1
  subst l1 y1 z1
  obtain ⟨rfl, N1q, e1⟩ := hQ1
  replace e1 := e1
  have N1 := Fr.app N0 N1q
  refine own_go (B := (T1.setTop (mkF m 8 #[.val (.int p0)] [(.int (F4 p0 (91 : Int32) (94 : Int32)))]))) (fun t k => st1 _ k) ?_
  by_cases hc8 : (F4 p0 (91 : Int32) (94 : Int32)) = (0 : Int32)
  · refine own_go (B := (T1.setTop (mkF m 11 #[.val (.int p0)] []))) (fun t k => XS.ifNo X1.here hx rfl (hb hby d3_8) rfl ((if0 _ _).trans (teq hc8).2) k) ?_
    refine own_go (B := (T1.setTop (mkF m 12 #[.val (.int p0)] [(.int p0)]))) (fun t k => XS.iloadN X1.here hx rfl (hb hby d3_11) rfl k) ?_
    refine own_go (B := (T1.setTop (mkF m 14 #[.val (.int p0)] [(.int (96 : Int32)), (.int p0)]))) (fun t k => XS.bipush X1.here hx rfl (hb hby d3_12) k) ?_
    by_cases hc14 : p0 = (96 : Int32)
    · refine own_go (B := (T1.setTop (mkF m 148 #[.val (.int p0)] []))) (fun t k => XS.icmpYes X1.here hx rfl (pc0 := 14) (pc' := 148) rfl (hb hby d3_14) rfl (teq hc14).1 (by decide) (by decide) k) ?_
      refine own_go (B := (T1.setTop (mkF m 149 #[.val (.int p0)] [(.int (1 : Int32))]))) (fun t k => XS.iconst X1.here hx rfl (hb hby d3_148) k) ?_
      refine own_go (B := (T1.setTop (mkF m 153 #[.val (.int p0)] [(.int (1 : Int32))]))) (fun t k => XS.goto X1.here hx rfl (pc0 := 149) (pc' := 153) rfl (hb hby d3_149) (by decide) (by decide) k) ?_
      obtain ⟨fs, hr, hrun, hended, hW, hsame⟩ := X1.leave (v := some (.int (1 : Int32))) (fun h => by rw [Bd.returns] at h; cases h)
      exact ⟨_, _, retN X1 hx (t := .boolean) Bd.returns (by simp) (hb hby d3_153) hr, hrun, hended, _, _, rfl, ⟨congrArg (fun z => some (Value.int z)) (by simp only [F3, if_pos hc8, if_pos hc14]), N1, e1⟩, ⟨_, rfl⟩, hW, hsame.mono (by decide) (by decide)⟩
    · refine own_go (B := (T1.setTop (mkF m 17 #[.val (.int p0)] []))) (fun t k => XS.icmpNo X1.here hx rfl (hb hby d3_14) rfl (feq hc14).1 k) ?_
      refine own_go (B := (T1.setTop (mkF m 18 #[.val (.int p0)] [(.int p0)]))) (fun t k => XS.iloadN X1.here hx rfl (hb hby d3_17) rfl k) ?_
      refine own_go (B := (T1.setTop (mkF m 20 #[.val (.int p0)] [(.int (123 : Int32)), (.int p0)]))) (fun t k => XS.bipush X1.here hx rfl (hb hby d3_18) k) ?_
      refine own_go (B := (T1.setTop (mkF m 23 #[.val (.int p0)] [(.int (191 : Int32)), (.int (123 : Int32)), (.int p0)]))) (fun t k => XS.sipush X1.here hx rfl (hb hby d3_20) k) ?_
      obtain ⟨_, _, ⟨T2, L2, k2, n2⟩, -, X2, ⟨Lc2, hQ2, l2, y2, z2⟩, st2⟩ := Jvm.LawKit.callS X1 hx (y := (⟨"com/example/homing_pigeon/homingpigeon/NCNameIsNameStartCharPinLaw", "in", "(III)Z"⟩ : MethodName)) hown (mvT hZ (hw _ (List.mem_of_getElem? (i := 13) rfl))) (mvT hZ (hw _ (List.mem_of_getElem? (i := 14) rfl))) (mvT hZ (hw _ (List.mem_of_getElem? (i := 7) rfl))) (mvT hZ (hw _ (List.mem_of_getElem? (i := 15) rfl))) (by decide) (backOf (W := 0) (rm4 l Z a0 hw [] p0 (123 : Int32) (191 : Int32)  h0 n0 ) hZ (hw _ (List.mem_of_getElem? (i := 15) rfl)) (hw _ (List.mem_of_getElem? (i := 7) rfl)) (by decide) (by decide)) (g := (mkF m 23 #[.val (.int p0)] [(.int (191 : Int32)), (.int (123 : Int32)), (.int p0)])) rfl (by rw [hml]; rfl) (argsL := [(.int p0), (.int (123 : Int32)), (.int (191 : Int32))]) (rest := []) (lenOf pd_3_0 rfl) rfl (by show 2 * 0 + _ ≤ _; exact Nat.le_of_eq rfl) (hb hby d3_23) (fun _ _ => ⟨rfl, e1, (by decide : (0 + 0) + 0 ≤ _), (by decide : (0 + 0) + 0 ≤ _)⟩)
      dsimp only [Pt.U, Pt.locs, Pt.cells, Pt.slots] at X2 l2 y2 z2 st2 hQ2
      subst l2 y2 z2
      obtain ⟨rfl, N2q, e2⟩ := hQ2
      replace e2 := e2
      have N2 := Fr.app N1 N2q
      refine own_go (B := (T2.setTop (mkF m 26 #[.val (.int p0)] [(.int (F4 p0 (123 : Int32) (191 : Int32)))]))) (fun t k => st2 _ k) ?_
      by_cases hc26 : (F4 p0 (123 : Int32) (191 : Int32)) = (0 : Int32)
      · refine own_go (B := (T2.setTop (mkF m 29 #[.val (.int p0)] []))) (fun t k => XS.ifNo X2.here hx rfl (hb hby d3_26) rfl ((if0 _ _).trans (teq hc26).2) k) ?_
        refine own_go (B := (T2.setTop (mkF m 30 #[.val (.int p0)] [(.int p0)]))) (fun t k => XS.iloadN X2.here hx rfl (hb hby d3_29) rfl k) ?_
        refine own_go (B := (T2.setTop (mkF m 33 #[.val (.int p0)] [(.int (215 : Int32)), (.int p0)]))) (fun t k => XS.sipush X2.here hx rfl (hb hby d3_30) k) ?_
        by_cases hc33 : p0 = (215 : Int32)
        · refine own_go (B := (T2.setTop (mkF m 148 #[.val (.int p0)] []))) (fun t k => XS.icmpYes X2.here hx rfl (pc0 := 33) (pc' := 148) rfl (hb hby d3_33) rfl (teq hc33).1 (by decide) (by decide) k) ?_
          refine own_go (B := (T2.setTop (mkF m 149 #[.val (.int p0)] [(.int (1 : Int32))]))) (fun t k => XS.iconst X2.here hx rfl (hb hby d3_148) k) ?_
          refine own_go (B := (T2.setTop (mkF m 153 #[.val (.int p0)] [(.int (1 : Int32))]))) (fun t k => XS.goto X2.here hx rfl (pc0 := 149) (pc' := 153) rfl (hb hby d3_149) (by decide) (by decide) k) ?_
          obtain ⟨fs, hr, hrun, hended, hW, hsame⟩ := X2.leave (v := some (.int (1 : Int32))) (fun h => by rw [Bd.returns] at h; cases h)
          exact ⟨_, _, retN X2 hx (t := .boolean) Bd.returns (by simp) (hb hby d3_153) hr, hrun, hended, _, _, rfl, ⟨congrArg (fun z => some (Value.int z)) (by simp only [F3, if_pos hc8, if_neg hc14, if_pos hc26, if_pos hc33]), N2, e2⟩, ⟨_, rfl⟩, hW, hsame.mono (by decide) (by decide)⟩
        · refine own_go (B := (T2.setTop (mkF m 36 #[.val (.int p0)] []))) (fun t k => XS.icmpNo X2.here hx rfl (hb hby d3_33) rfl (feq hc33).1 k) ?_
          refine own_go (B := (T2.setTop (mkF m 37 #[.val (.int p0)] [(.int p0)]))) (fun t k => XS.iloadN X2.here hx rfl (hb hby d3_36) rfl k) ?_
          refine own_go (B := (T2.setTop (mkF m 40 #[.val (.int p0)] [(.int (247 : Int32)), (.int p0)]))) (fun t k => XS.sipush X2.here hx rfl (hb hby d3_37) k) ?_
          by_cases hc40 : p0 = (247 : Int32)
          · refine own_go (B := (T2.setTop (mkF m 148 #[.val (.int p0)] []))) (fun t k => XS.icmpYes X2.here hx rfl (pc0 := 40) (pc' := 148) rfl (hb hby d3_40) rfl (teq hc40).1 (by decide) (by decide) k) ?_
            refine own_go (B := (T2.setTop (mkF m 149 #[.val (.int p0)] [(.int (1 : Int32))]))) (fun t k => XS.iconst X2.here hx rfl (hb hby d3_148) k) ?_
            refine own_go (B := (T2.setTop (mkF m 153 #[.val (.int p0)] [(.int (1 : Int32))]))) (fun t k => XS.goto X2.here hx rfl (pc0 := 149) (pc' := 153) rfl (hb hby d3_149) (by decide) (by decide) k) ?_
            obtain ⟨fs, hr, hrun, hended, hW, hsame⟩ := X2.leave (v := some (.int (1 : Int32))) (fun h => by rw [Bd.returns] at h; cases h)
            exact ⟨_, _, retN X2 hx (t := .boolean) Bd.returns (by simp) (hb hby d3_153) hr, hrun, hended, _, _, rfl, ⟨congrArg (fun z => some (Value.int z)) (by simp only [F3, if_pos hc8, if_neg hc14, if_pos hc26, if_neg hc33, if_pos hc40]), N2, e2⟩, ⟨_, rfl⟩, hW, hsame.mono (by decide) (by decide)⟩
          · refine own_go (B := (T2.setTop (mkF m 43 #[.val (.int p0)] []))) (fun t k => XS.icmpNo X2.here hx rfl (hb hby d3_40) rfl (feq hc40).1 k) ?_
            refine own_go (B := (T2.setTop (mkF m 44 #[.val (.int p0)] [(.int p0)]))) (fun t k => XS.iloadN X2.here hx rfl (hb hby d3_43) rfl k) ?_
            refine own_go (B := (T2.setTop (mkF m 47 #[.val (.int p0)] [(.int (768 : Int32)), (.int p0)]))) (fun t k => XS.sipush X2.here hx rfl (hb hby d3_44) k) ?_
            refine own_go (B := (T2.setTop (mkF m 50 #[.val (.int p0)] [(.int (879 : Int32)), (.int (768 : Int32)), (.int p0)]))) (fun t k => XS.sipush X2.here hx rfl (hb hby d3_47) k) ?_
            obtain ⟨_, _, ⟨T3, L3, k3, n3⟩, -, X3, ⟨Lc3, hQ3, l3, y3, z3⟩, st3⟩ := Jvm.LawKit.callS X2 hx (y := (⟨"com/example/homing_pigeon/homingpigeon/NCNameIsNameStartCharPinLaw", "in", "(III)Z"⟩ : MethodName)) hown (mvT hZ (hw _ (List.mem_of_getElem? (i := 13) rfl))) (mvT hZ (hw _ (List.mem_of_getElem? (i := 14) rfl))) (mvT hZ (hw _ (List.mem_of_getElem? (i := 7) rfl))) (mvT hZ (hw _ (List.mem_of_getElem? (i := 15) rfl))) (by decide) (backOf (W := 0) (rm4 l Z a0 hw [] p0 (768 : Int32) (879 : Int32)  h0 n0 ) hZ (hw _ (List.mem_of_getElem? (i := 15) rfl)) (hw _ (List.mem_of_getElem? (i := 7) rfl)) (by decide) (by decide)) (g := (mkF m 50 #[.val (.int p0)] [(.int (879 : Int32)), (.int (768 : Int32)), (.int p0)])) rfl (by rw [hml]; rfl) (argsL := [(.int p0), (.int (768 : Int32)), (.int (879 : Int32))]) (rest := []) (lenOf pd_3_0 rfl) rfl (by show 2 * 0 + _ ≤ _; exact Nat.le_of_eq rfl) (hb hby d3_50) (fun _ _ => ⟨rfl, e2, (by decide : ((0 + 0) + 0) + 0 ≤ _), (by decide : ((0 + 0) + 0) + 0 ≤ _)⟩)
            dsimp only [Pt.U, Pt.locs, Pt.cells, Pt.slots] at X3 l3 y3 z3 st3 hQ3
            subst l3 y3 z3
            obtain ⟨rfl, N3q, e3⟩ := hQ3
            replace e3 := e3
            have N3 := Fr.app N2 N3q
            refine own_go (B := (T3.setTop (mkF m 53 #[.val (.int p0)] [(.int (F4 p0 (768 : Int32) (879 : Int32)))]))) (fun t k => st3 _ k) ?_
            by_cases hc53 : (F4 p0 (768 : Int32) (879 : Int32)) = (0 : Int32)
            · refine own_go (B := (T3.setTop (mkF m 56 #[.val (.int p0)] []))) (fun t k => XS.ifNo X3.here hx rfl (hb hby d3_53) rfl ((if0 _ _).trans (teq hc53).2) k) ?_
              refine own_go (B := (T3.setTop (mkF m 57 #[.val (.int p0)] [(.int p0)]))) (fun t k => XS.iloadN X3.here hx rfl (hb hby d3_56) rfl k) ?_
              refine own_go (B := (T3.setTop (mkF m 60 #[.val (.int p0)] [(.int (894 : Int32)), (.int p0)]))) (fun t k => XS.sipush X3.here hx rfl (hb hby d3_57) k) ?_
              by_cases hc60 : p0 = (894 : Int32)
              · refine own_go (B := (T3.setTop (mkF m 148 #[.val (.int p0)] []))) (fun t k => XS.icmpYes X3.here hx rfl (pc0 := 60) (pc' := 148) rfl (hb hby d3_60) rfl (teq hc60).1 (by decide) (by decide) k) ?_
                refine own_go (B := (T3.setTop (mkF m 149 #[.val (.int p0)] [(.int (1 : Int32))]))) (fun t k => XS.iconst X3.here hx rfl (hb hby d3_148) k) ?_
                refine own_go (B := (T3.setTop (mkF m 153 #[.val (.int p0)] [(.int (1 : Int32))]))) (fun t k => XS.goto X3.here hx rfl (pc0 := 149) (pc' := 153) rfl (hb hby d3_149) (by decide) (by decide) k) ?_
                obtain ⟨fs, hr, hrun, hended, hW, hsame⟩ := X3.leave (v := some (.int (1 : Int32))) (fun h => by rw [Bd.returns] at h; cases h)
                exact ⟨_, _, retN X3 hx (t := .boolean) Bd.returns (by simp) (hb hby d3_153) hr, hrun, hended, _, _, rfl, ⟨congrArg (fun z => some (Value.int z)) (by simp only [F3, if_pos hc8, if_neg hc14, if_pos hc26, if_neg hc33, if_neg hc40, if_pos hc53, if_pos hc60]), N3, e3⟩, ⟨_, rfl⟩, hW, hsame.mono (by decide) (by decide)⟩
              · refine own_go (B := (T3.setTop (mkF m 63 #[.val (.int p0)] []))) (fun t k => XS.icmpNo X3.here hx rfl (hb hby d3_60) rfl (feq hc60).1 k) ?_
                refine own_go (B := (T3.setTop (mkF m 64 #[.val (.int p0)] [(.int p0)]))) (fun t k => XS.iloadN X3.here hx rfl (hb hby d3_63) rfl k) ?_
                refine own_go (B := (T3.setTop (mkF m 67 #[.val (.int p0)] [(.int (8192 : Int32)), (.int p0)]))) (fun t k => XS.sipush X3.here hx rfl (hb hby d3_64) k) ?_
                refine own_go (B := (T3.setTop (mkF m 70 #[.val (.int p0)] [(.int (8203 : Int32)), (.int (8192 : Int32)), (.int p0)]))) (fun t k => XS.sipush X3.here hx rfl (hb hby d3_67) k) ?_
                obtain ⟨_, _, ⟨T4, L4, k4, n4⟩, -, X4, ⟨Lc4, hQ4, l4, y4, z4⟩, st4⟩ := Jvm.LawKit.callS X3 hx (y := (⟨"com/example/homing_pigeon/homingpigeon/NCNameIsNameStartCharPinLaw", "in", "(III)Z"⟩ : MethodName)) hown (mvT hZ (hw _ (List.mem_of_getElem? (i := 13) rfl))) (mvT hZ (hw _ (List.mem_of_getElem? (i := 14) rfl))) (mvT hZ (hw _ (List.mem_of_getElem? (i := 7) rfl))) (mvT hZ (hw _ (List.mem_of_getElem? (i := 15) rfl))) (by decide) (backOf (W := 0) (rm4 l Z a0 hw [] p0 (8192 : Int32) (8203 : Int32)  h0 n0 ) hZ (hw _ (List.mem_of_getElem? (i := 15) rfl)) (hw _ (List.mem_of_getElem? (i := 7) rfl)) (by decide) (by decide)) (g := (mkF m 70 #[.val (.int p0)] [(.int (8203 : Int32)), (.int (8192 : Int32)), (.int p0)])) rfl (by rw [hml]; rfl) (argsL := [(.int p0), (.int (8192 : Int32)), (.int (8203 : Int32))]) (rest := []) (lenOf pd_3_0 rfl) rfl (by show 2 * 0 + _ ≤ _; exact Nat.le_of_eq rfl) (hb hby d3_70) (fun _ _ => ⟨rfl, e3, (by decide : (((0 + 0) + 0) + 0) + 0 ≤ _), (by decide : (((0 + 0) + 0) + 0) + 0 ≤ _)⟩)
                dsimp only [Pt.U, Pt.locs, Pt.cells, Pt.slots] at X4 l4 y4 z4 st4 hQ4
                subst l4 y4 z4
                obtain ⟨rfl, N4q, e4⟩ := hQ4
                replace e4 := e4
                have N4 := Fr.app N3 N4q
                refine own_go (B := (T4.setTop (mkF m 73 #[.val (.int p0)] [(.int (F4 p0 (8192 : Int32) (8203 : Int32)))]))) (fun t k => st4 _ k) ?_
                by_cases hc73 : (F4 p0 (8192 : Int32) (8203 : Int32)) = (0 : Int32)
                · refine own_go (B := (T4.setTop (mkF m 76 #[.val (.int p0)] []))) (fun t k => XS.ifNo X4.here hx rfl (hb hby d3_73) rfl ((if0 _ _).trans (teq hc73).2) k) ?_
                  refine own_go (B := (T4.setTop (mkF m 77 #[.val (.int p0)] [(.int p0)]))) (fun t k => XS.iloadN X4.here hx rfl (hb hby d3_76) rfl k) ?_
                  refine own_go (B := (T4.setTop (mkF m 80 #[.val (.int p0)] [(.int (8206 : Int32)), (.int p0)]))) (fun t k => XS.sipush X4.here hx rfl (hb hby d3_77) k) ?_
                  refine own_go (B := (T4.setTop (mkF m 83 #[.val (.int p0)] [(.int (8303 : Int32)), (.int (8206 : Int32)), (.int p0)]))) (fun t k => XS.sipush X4.here hx rfl (hb hby d3_80) k) ?_
                  obtain ⟨_, _, ⟨T5, L5, k5, n5⟩, -, X5, ⟨Lc5, hQ5, l5, y5, z5⟩, st5⟩ := Jvm.LawKit.callS X4 hx (y := (⟨"com/example/homing_pigeon/homingpigeon/NCNameIsNameStartCharPinLaw", "in", "(III)Z"⟩ : MethodName)) hown (mvT hZ (hw _ (List.mem_of_getElem? (i := 13) rfl))) (mvT hZ (hw _ (List.mem_of_getElem? (i := 14) rfl))) (mvT hZ (hw _ (List.mem_of_getElem? (i := 7) rfl))) (mvT hZ (hw _ (List.mem_of_getElem? (i := 15) rfl))) (by decide) (backOf (W := 0) (rm4 l Z a0 hw [] p0 (8206 : Int32) (8303 : Int32)  h0 n0 ) hZ (hw _ (List.mem_of_getElem? (i := 15) rfl)) (hw _ (List.mem_of_getElem? (i := 7) rfl)) (by decide) (by decide)) (g := (mkF m 83 #[.val (.int p0)] [(.int (8303 : Int32)), (.int (8206 : Int32)), (.int p0)])) rfl (by rw [hml]; rfl) (argsL := [(.int p0), (.int (8206 : Int32)), (.int (8303 : Int32))]) (rest := []) (lenOf pd_3_0 rfl) rfl (by show 2 * 0 + _ ≤ _; exact Nat.le_of_eq rfl) (hb hby d3_83) (fun _ _ => ⟨rfl, e4, (by decide : ((((0 + 0) + 0) + 0) + 0) + 0 ≤ _), (by decide : ((((0 + 0) + 0) + 0) + 0) + 0 ≤ _)⟩)
                  dsimp only [Pt.U, Pt.locs, Pt.cells, Pt.slots] at X5 l5 y5 z5 st5 hQ5
                  subst l5 y5 z5
                  obtain ⟨rfl, N5q, e5⟩ := hQ5
                  replace e5 := e5
                  have N5 := Fr.app N4 N5q
                  refine own_go (B := (T5.setTop (mkF m 86 #[.val (.int p0)] [(.int (F4 p0 (8206 : Int32) (8303 : Int32)))]))) (fun t k => st5 _ k) ?_
                  by_cases hc86 : (F4 p0 (8206 : Int32) (8303 : Int32)) = (0 : Int32)
                  · refine own_go (B := (T5.setTop (mkF m 89 #[.val (.int p0)] []))) (fun t k => XS.ifNo X5.here hx rfl (hb hby d3_86) rfl ((if0 _ _).trans (teq hc86).2) k) ?_
                    refine own_go (B := (T5.setTop (mkF m 90 #[.val (.int p0)] [(.int p0)]))) (fun t k => XS.iloadN X5.here hx rfl (hb hby d3_89) rfl k) ?_
                    refine own_go (B := (T5.setTop (mkF m 93 #[.val (.int p0)] [(.int (8592 : Int32)), (.int p0)]))) (fun t k => XS.sipush X5.here hx rfl (hb hby d3_90) k) ?_
                    refine own_go (B := (T5.setTop (mkF m 96 #[.val (.int p0)] [(.int (11263 : Int32)), (.int (8592 : Int32)), (.int p0)]))) (fun t k => XS.sipush X5.here hx rfl (hb hby d3_93) k) ?_
                    obtain ⟨_, _, ⟨T6, L6, k6, n6⟩, -, X6, ⟨Lc6, hQ6, l6, y6, z6⟩, st6⟩ := Jvm.LawKit.callS X5 hx (y := (⟨"com/example/homing_pigeon/homingpigeon/NCNameIsNameStartCharPinLaw", "in", "(III)Z"⟩ : MethodName)) hown (mvT hZ (hw _ (List.mem_of_getElem? (i := 13) rfl))) (mvT hZ (hw _ (List.mem_of_getElem? (i := 14) rfl))) (mvT hZ (hw _ (List.mem_of_getElem? (i := 7) rfl))) (mvT hZ (hw _ (List.mem_of_getElem? (i := 15) rfl))) (by decide) (backOf (W := 0) (rm4 l Z a0 hw [] p0 (8592 : Int32) (11263 : Int32)  h0 n0 ) hZ (hw _ (List.mem_of_getElem? (i := 15) rfl)) (hw _ (List.mem_of_getElem? (i := 7) rfl)) (by decide) (by decide)) (g := (mkF m 96 #[.val (.int p0)] [(.int (11263 : Int32)), (.int (8592 : Int32)), (.int p0)])) rfl (by rw [hml]; rfl) (argsL := [(.int p0), (.int (8592 : Int32)), (.int (11263 : Int32))]) (rest := []) (lenOf pd_3_0 rfl) rfl (by show 2 * 0 + _ ≤ _; exact Nat.le_of_eq rfl) (hb hby d3_96) (fun _ _ => ⟨rfl, e5, (by decide : (((((0 + 0) + 0) + 0) + 0) + 0) + 0 ≤ _), (by decide : (((((0 + 0) + 0) + 0) + 0) + 0) + 0 ≤ _)⟩)
                    dsimp only [Pt.U, Pt.locs, Pt.cells, Pt.slots] at X6 l6 y6 z6 st6 hQ6
                    subst l6 y6 z6
                    obtain ⟨rfl, N6q, e6⟩ := hQ6
                    replace e6 := e6
                    have N6 := Fr.app N5 N6q
                    refine own_go (B := (T6.setTop (mkF m 99 #[.val (.int p0)] [(.int (F4 p0 (8592 : Int32) (11263 : Int32)))]))) (fun t k => st6 _ k) ?_
                    by_cases hc99 : (F4 p0 (8592 : Int32) (11263 : Int32)) = (0 : Int32)
                    · refine own_go (B := (T6.setTop (mkF m 102 #[.val (.int p0)] []))) (fun t k => XS.ifNo X6.here hx rfl (hb hby d3_99) rfl ((if0 _ _).trans (teq hc99).2) k) ?_
                      refine own_go (B := (T6.setTop (mkF m 103 #[.val (.int p0)] [(.int p0)]))) (fun t k => XS.iloadN X6.here hx rfl (hb hby d3_102) rfl k) ?_
                      refine own_go (B := (T6.setTop (mkF m 106 #[.val (.int p0)] [(.int (12272 : Int32)), (.int p0)]))) (fun t k => XS.sipush X6.here hx rfl (hb hby d3_103) k) ?_
                      refine own_go (B := (T6.setTop (mkF m 109 #[.val (.int p0)] [(.int (12288 : Int32)), (.int (12272 : Int32)), (.int p0)]))) (fun t k => XS.sipush X6.here hx rfl (hb hby d3_106) k) ?_
                      obtain ⟨_, _, ⟨T7, L7, k7, n7⟩, -, X7, ⟨Lc7, hQ7, l7, y7, z7⟩, st7⟩ := Jvm.LawKit.callS X6 hx (y := (⟨"com/example/homing_pigeon/homingpigeon/NCNameIsNameStartCharPinLaw", "in", "(III)Z"⟩ : MethodName)) hown (mvT hZ (hw _ (List.mem_of_getElem? (i := 13) rfl))) (mvT hZ (hw _ (List.mem_of_getElem? (i := 14) rfl))) (mvT hZ (hw _ (List.mem_of_getElem? (i := 7) rfl))) (mvT hZ (hw _ (List.mem_of_getElem? (i := 15) rfl))) (by decide) (backOf (W := 0) (rm4 l Z a0 hw [] p0 (12272 : Int32) (12288 : Int32)  h0 n0 ) hZ (hw _ (List.mem_of_getElem? (i := 15) rfl)) (hw _ (List.mem_of_getElem? (i := 7) rfl)) (by decide) (by decide)) (g := (mkF m 109 #[.val (.int p0)] [(.int (12288 : Int32)), (.int (12272 : Int32)), (.int p0)])) rfl (by rw [hml]; rfl) (argsL := [(.int p0), (.int (12272 : Int32)), (.int (12288 : Int32))]) (rest := []) (lenOf pd_3_0 rfl) rfl (by show 2 * 0 + _ ≤ _; exact Nat.le_of_eq rfl) (hb hby d3_109) (fun _ _ => ⟨rfl, e6, (by decide : ((((((0 + 0) + 0) + 0) + 0) + 0) + 0) + 0 ≤ _), (by decide : ((((((0 + 0) + 0) + 0) + 0) + 0) + 0) + 0 ≤ _)⟩)
                      dsimp only [Pt.U, Pt.locs, Pt.cells, Pt.slots] at X7 l7 y7 z7 st7 hQ7
                      subst l7 y7 z7
                      obtain ⟨rfl, N7q, e7⟩ := hQ7
                      replace e7 := e7
                      have N7 := Fr.app N6 N7q
                      refine own_go (B := (T7.setTop (mkF m 112 #[.val (.int p0)] [(.int (F4 p0 (12272 : Int32) (12288 : Int32)))]))) (fun t k => st7 _ k) ?_
                      by_cases hc112 : (F4 p0 (12272 : Int32) (12288 : Int32)) = (0 : Int32)
                      · refine own_go (B := (T7.setTop (mkF m 115 #[.val (.int p0)] []))) (fun t k => XS.ifNo X7.here hx rfl (hb hby d3_112) rfl ((if0 _ _).trans (teq hc112).2) k) ?_
                        refine own_go (B := (T7.setTop (mkF m 116 #[.val (.int p0)] [(.int p0)]))) (fun t k => XS.iloadN X7.here hx rfl (hb hby d3_115) rfl k) ?_
                        refine own_go (B := (T7.setTop (mkF m 118 #[.val (.int p0)] [(.int (55296 : Int32)), (.int p0)]))) (fun t k => X7.ldcInt hx hown (mvT hZ (hw _ (List.mem_of_getElem? (i := 16) rfl))) (g := (mkF m 116 #[.val (.int p0)] [(.int p0)])) rfl (hb hby d3_116) _ k) ?_
                        refine own_go (B := (T7.setTop (mkF m 120 #[.val (.int p0)] [(.int (63743 : Int32)), (.int (55296 : Int32)), (.int p0)]))) (fun t k => X7.ldcInt hx hown (mvT hZ (hw _ (List.mem_of_getElem? (i := 17) rfl))) (g := (mkF m 118 #[.val (.int p0)] [(.int (55296 : Int32)), (.int p0)])) rfl (hb hby d3_118) _ k) ?_
                        obtain ⟨_, _, ⟨T8, L8, k8, n8⟩, -, X8, ⟨Lc8, hQ8, l8, y8, z8⟩, st8⟩ := Jvm.LawKit.callS X7 hx (y := (⟨"com/example/homing_pigeon/homingpigeon/NCNameIsNameStartCharPinLaw", "in", "(III)Z"⟩ : MethodName)) hown (mvT hZ (hw _ (List.mem_of_getElem? (i := 13) rfl))) (mvT hZ (hw _ (List.mem_of_getElem? (i := 14) rfl))) (mvT hZ (hw _ (List.mem_of_getElem? (i := 7) rfl))) (mvT hZ (hw _ (List.mem_of_getElem? (i := 15) rfl))) (by decide) (backOf (W := 0) (rm4 l Z a0 hw [] p0 (55296 : Int32) (63743 : Int32)  h0 n0 ) hZ (hw _ (List.mem_of_getElem? (i := 15) rfl)) (hw _ (List.mem_of_getElem? (i := 7) rfl)) (by decide) (by decide)) (g := (mkF m 120 #[.val (.int p0)] [(.int (63743 : Int32)), (.int (55296 : Int32)), (.int p0)])) rfl (by rw [hml]; rfl) (argsL := [(.int p0), (.int (55296 : Int32)), (.int (63743 : Int32))]) (rest := []) (lenOf pd_3_0 rfl) rfl (by show 2 * 0 + _ ≤ _; exact Nat.le_of_eq rfl) (hb hby d3_120) (fun _ _ => ⟨rfl, e7, (by decide : (((((((0 + 0) + 0) + 0) + 0) + 0) + 0) + 0) + 0 ≤ _), (by decide : (((((((0 + 0) + 0) + 0) + 0) + 0) + 0) + 0) + 0 ≤ _)⟩)
                        dsimp only [Pt.U, Pt.locs, Pt.cells, Pt.slots] at X8 l8 y8 z8 st8 hQ8
                        subst l8 y8 z8
                        obtain ⟨rfl, N8q, e8⟩ := hQ8
                        replace e8 := e8
                        have N8 := Fr.app N7 N8q
                        refine own_go (B := (T8.setTop (mkF m 123 #[.val (.int p0)] [(.int (F4 p0 (55296 : Int32) (63743 : Int32)))]))) (fun t k => st8 _ k) ?_
                        by_cases hc123 : (F4 p0 (55296 : Int32) (63743 : Int32)) = (0 : Int32)
                        · refine own_go (B := (T8.setTop (mkF m 126 #[.val (.int p0)] []))) (fun t k => XS.ifNo X8.here hx rfl (hb hby d3_123) rfl ((if0 _ _).trans (teq hc123).2) k) ?_
                          refine own_go (B := (T8.setTop (mkF m 127 #[.val (.int p0)] [(.int p0)]))) (fun t k => XS.iloadN X8.here hx rfl (hb hby d3_126) rfl k) ?_
                          refine own_go (B := (T8.setTop (mkF m 129 #[.val (.int p0)] [(.int (64976 : Int32)), (.int p0)]))) (fun t k => X8.ldcInt hx hown (mvT hZ (hw _ (List.mem_of_getElem? (i := 18) rfl))) (g := (mkF m 127 #[.val (.int p0)] [(.int p0)])) rfl (hb hby d3_127) _ k) ?_
                          refine own_go (B := (T8.setTop (mkF m 131 #[.val (.int p0)] [(.int (65007 : Int32)), (.int (64976 : Int32)), (.int p0)]))) (fun t k => X8.ldcInt hx hown (mvT hZ (hw _ (List.mem_of_getElem? (i := 19) rfl))) (g := (mkF m 129 #[.val (.int p0)] [(.int (64976 : Int32)), (.int p0)])) rfl (hb hby d3_129) _ k) ?_
                          obtain ⟨_, _, ⟨T9, L9, k9, n9⟩, -, X9, ⟨Lc9, hQ9, l9, y9, z9⟩, st9⟩ := Jvm.LawKit.callS X8 hx (y := (⟨"com/example/homing_pigeon/homingpigeon/NCNameIsNameStartCharPinLaw", "in", "(III)Z"⟩ : MethodName)) hown (mvT hZ (hw _ (List.mem_of_getElem? (i := 13) rfl))) (mvT hZ (hw _ (List.mem_of_getElem? (i := 14) rfl))) (mvT hZ (hw _ (List.mem_of_getElem? (i := 7) rfl))) (mvT hZ (hw _ (List.mem_of_getElem? (i := 15) rfl))) (by decide) (backOf (W := 0) (rm4 l Z a0 hw [] p0 (64976 : Int32) (65007 : Int32)  h0 n0 ) hZ (hw _ (List.mem_of_getElem? (i := 15) rfl)) (hw _ (List.mem_of_getElem? (i := 7) rfl)) (by decide) (by decide)) (g := (mkF m 131 #[.val (.int p0)] [(.int (65007 : Int32)), (.int (64976 : Int32)), (.int p0)])) rfl (by rw [hml]; rfl) (argsL := [(.int p0), (.int (64976 : Int32)), (.int (65007 : Int32))]) (rest := []) (lenOf pd_3_0 rfl) rfl (by show 2 * 0 + _ ≤ _; exact Nat.le_of_eq rfl) (hb hby d3_131) (fun _ _ => ⟨rfl, e8, (by decide : ((((((((0 + 0) + 0) + 0) + 0) + 0) + 0) + 0) + 0) + 0 ≤ _), (by decide : ((((((((0 + 0) + 0) + 0) + 0) + 0) + 0) + 0) + 0) + 0 ≤ _)⟩)
                          dsimp only [Pt.U, Pt.locs, Pt.cells, Pt.slots] at X9 l9 y9 z9 st9 hQ9
                          subst l9 y9 z9
                          obtain ⟨rfl, N9q, e9⟩ := hQ9
                          replace e9 := e9
                          have N9 := Fr.app N8 N9q
                          refine own_go (B := (T9.setTop (mkF m 134 #[.val (.int p0)] [(.int (F4 p0 (64976 : Int32) (65007 : Int32)))]))) (fun t k => st9 _ k) ?_
                          by_cases hc134 : (F4 p0 (64976 : Int32) (65007 : Int32)) = (0 : Int32)
                          · refine own_go (B := (T9.setTop (mkF m 137 #[.val (.int p0)] []))) (fun t k => XS.ifNo X9.here hx rfl (hb hby d3_134) rfl ((if0 _ _).trans (teq hc134).2) k) ?_
                            refine own_go (B := (T9.setTop (mkF m 138 #[.val (.int p0)] [(.int p0)]))) (fun t k => XS.iloadN X9.here hx rfl (hb hby d3_137) rfl k) ?_
                            refine own_go (B := (T9.setTop (mkF m 140 #[.val (.int p0)] [(.int (65534 : Int32)), (.int p0)]))) (fun t k => X9.ldcInt hx hown (mvT hZ (hw _ (List.mem_of_getElem? (i := 20) rfl))) (g := (mkF m 138 #[.val (.int p0)] [(.int p0)])) rfl (hb hby d3_138) _ k) ?_
                            refine own_go (B := (T9.setTop (mkF m 142 #[.val (.int p0)] [(.int (65535 : Int32)), (.int (65534 : Int32)), (.int p0)]))) (fun t k => X9.ldcInt hx hown (mvT hZ (hw _ (List.mem_of_getElem? (i := 21) rfl))) (g := (mkF m 140 #[.val (.int p0)] [(.int (65534 : Int32)), (.int p0)])) rfl (hb hby d3_140) _ k) ?_
                            obtain ⟨_, _, ⟨T10, L10, k10, n10⟩, -, X10, ⟨Lc10, hQ10, l10, y10, z10⟩, st10⟩ := Jvm.LawKit.callS X9 hx (y := (⟨"com/example/homing_pigeon/homingpigeon/NCNameIsNameStartCharPinLaw", "in", "(III)Z"⟩ : MethodName)) hown (mvT hZ (hw _ (List.mem_of_getElem? (i := 13) rfl))) (mvT hZ (hw _ (List.mem_of_getElem? (i := 14) rfl))) (mvT hZ (hw _ (List.mem_of_getElem? (i := 7) rfl))) (mvT hZ (hw _ (List.mem_of_getElem? (i := 15) rfl))) (by decide) (backOf (W := 0) (rm4 l Z a0 hw [] p0 (65534 : Int32) (65535 : Int32)  h0 n0 ) hZ (hw _ (List.mem_of_getElem? (i := 15) rfl)) (hw _ (List.mem_of_getElem? (i := 7) rfl)) (by decide) (by decide)) (g := (mkF m 142 #[.val (.int p0)] [(.int (65535 : Int32)), (.int (65534 : Int32)), (.int p0)])) rfl (by rw [hml]; rfl) (argsL := [(.int p0), (.int (65534 : Int32)), (.int (65535 : Int32))]) (rest := []) (lenOf pd_3_0 rfl) rfl (by show 2 * 0 + _ ≤ _; exact Nat.le_of_eq rfl) (hb hby d3_142) (fun _ _ => ⟨rfl, e9, (by decide : (((((((((0 + 0) + 0) + 0) + 0) + 0) + 0) + 0) + 0) + 0) + 0 ≤ _), (by decide : (((((((((0 + 0) + 0) + 0) + 0) + 0) + 0) + 0) + 0) + 0) + 0 ≤ _)⟩)
                            dsimp only [Pt.U, Pt.locs, Pt.cells, Pt.slots] at X10 l10 y10 z10 st10 hQ10
                            subst l10 y10 z10
                            obtain ⟨rfl, N10q, e10⟩ := hQ10
                            replace e10 := e10
                            have N10 := Fr.app N9 N10q
                            refine own_go (B := (T10.setTop (mkF m 145 #[.val (.int p0)] [(.int (F4 p0 (65534 : Int32) (65535 : Int32)))]))) (fun t k => st10 _ k) ?_
                            by_cases hc145 : (F4 p0 (65534 : Int32) (65535 : Int32)) = (0 : Int32)
                            · refine own_go (B := (T10.setTop (mkF m 152 #[.val (.int p0)] []))) (fun t k => XS.ifYes X10.here hx rfl (pc0 := 145) (pc' := 152) rfl (hb hby d3_145) rfl ((if0 _ _).trans (teq hc145).1) (by decide) (by decide) k) ?_
                              refine own_go (B := (T10.setTop (mkF m 153 #[.val (.int p0)] [(.int (0 : Int32))]))) (fun t k => XS.iconst X10.here hx rfl (hb hby d3_152) k) ?_
                              obtain ⟨fs, hr, hrun, hended, hW, hsame⟩ := X10.leave (v := some (.int (0 : Int32))) (fun h => by rw [Bd.returns] at h; cases h)
                              exact ⟨_, _, retN X10 hx (t := .boolean) Bd.returns (by simp) (hb hby d3_153) hr, hrun, hended, _, _, rfl, ⟨congrArg (fun z => some (Value.int z)) (by simp only [F3, if_pos hc8, if_neg hc14, if_pos hc26, if_neg hc33, if_neg hc40, if_pos hc53, if_neg hc60, if_pos hc73, if_pos hc86, if_pos hc99, if_pos hc112, if_pos hc123, if_pos hc134, if_pos hc145]), N10, e10⟩, ⟨_, rfl⟩, hW, hsame.mono (by decide) (by decide)⟩
                            · refine own_go (B := (T10.setTop (mkF m 148 #[.val (.int p0)] []))) (fun t k => XS.ifNo X10.here hx rfl (hb hby d3_145) rfl ((if0 _ _).trans (feq hc145).1) k) ?_
                              refine own_go (B := (T10.setTop (mkF m 149 #[.val (.int p0)] [(.int (1 : Int32))]))) (fun t k => XS.iconst X10.here hx rfl (hb hby d3_148) k) ?_
                              refine own_go (B := (T10.setTop (mkF m 153 #[.val (.int p0)] [(.int (1 : Int32))]))) (fun t k => XS.goto X10.here hx rfl (pc0 := 149) (pc' := 153) rfl (hb hby d3_149) (by decide) (by decide) k) ?_
                              obtain ⟨fs, hr, hrun, hended, hW, hsame⟩ := X10.leave (v := some (.int (1 : Int32))) (fun h => by rw [Bd.returns] at h; cases h)
                              exact ⟨_, _, retN X10 hx (t := .boolean) Bd.returns (by simp) (hb hby d3_153) hr, hrun, hended, _, _, rfl, ⟨congrArg (fun z => some (Value.int z)) (by simp only [F3, if_pos hc8, if_neg hc14, if_pos hc26, if_neg hc33, if_neg hc40, if_pos hc53, if_neg hc60, if_pos hc73, if_pos hc86, if_pos hc99, if_pos hc112, if_pos hc123, if_pos hc134, if_neg hc145]), N10, e10⟩, ⟨_, rfl⟩, hW, hsame.mono (by decide) (by decide)⟩
                          · refine own_go (B := (T9.setTop (mkF m 148 #[.val (.int p0)] []))) (fun t k => XS.ifYes X9.here hx rfl (pc0 := 134) (pc' := 148) rfl (hb hby d3_134) rfl ((if0 _ _).trans (feq hc134).2) (by decide) (by decide) k) ?_
                            refine own_go (B := (T9.setTop (mkF m 149 #[.val (.int p0)] [(.int (1 : Int32))]))) (fun t k => XS.iconst X9.here hx rfl (hb hby d3_148) k) ?_
                            refine own_go (B := (T9.setTop (mkF m 153 #[.val (.int p0)] [(.int (1 : Int32))]))) (fun t k => XS.goto X9.here hx rfl (pc0 := 149) (pc' := 153) rfl (hb hby d3_149) (by decide) (by decide) k) ?_
                            obtain ⟨fs, hr, hrun, hended, hW, hsame⟩ := X9.leave (v := some (.int (1 : Int32))) (fun h => by rw [Bd.returns] at h; cases h)
                            exact ⟨_, _, retN X9 hx (t := .boolean) Bd.returns (by simp) (hb hby d3_153) hr, hrun, hended, _, _, rfl, ⟨congrArg (fun z => some (Value.int z)) (by simp only [F3, if_pos hc8, if_neg hc14, if_pos hc26, if_neg hc33, if_neg hc40, if_pos hc53, if_neg hc60, if_pos hc73, if_pos hc86, if_pos hc99, if_pos hc112, if_pos hc123, if_neg hc134]), N9, e9⟩, ⟨_, rfl⟩, hW, hsame.mono (by decide) (by decide)⟩
                        · refine own_go (B := (T8.setTop (mkF m 148 #[.val (.int p0)] []))) (fun t k => XS.ifYes X8.here hx rfl (pc0 := 123) (pc' := 148) rfl (hb hby d3_123) rfl ((if0 _ _).trans (feq hc123).2) (by decide) (by decide) k) ?_
                          refine own_go (B := (T8.setTop (mkF m 149 #[.val (.int p0)] [(.int (1 : Int32))]))) (fun t k => XS.iconst X8.here hx rfl (hb hby d3_148) k) ?_
                          refine own_go (B := (T8.setTop (mkF m 153 #[.val (.int p0)] [(.int (1 : Int32))]))) (fun t k => XS.goto X8.here hx rfl (pc0 := 149) (pc' := 153) rfl (hb hby d3_149) (by decide) (by decide) k) ?_
                          obtain ⟨fs, hr, hrun, hended, hW, hsame⟩ := X8.leave (v := some (.int (1 : Int32))) (fun h => by rw [Bd.returns] at h; cases h)
                          exact ⟨_, _, retN X8 hx (t := .boolean) Bd.returns (by simp) (hb hby d3_153) hr, hrun, hended, _, _, rfl, ⟨congrArg (fun z => some (Value.int z)) (by simp only [F3, if_pos hc8, if_neg hc14, if_pos hc26, if_neg hc33, if_neg hc40, if_pos hc53, if_neg hc60, if_pos hc73, if_pos hc86, if_pos hc99, if_pos hc112, if_neg hc123]), N8, e8⟩, ⟨_, rfl⟩, hW, hsame.mono (by decide) (by decide)⟩
                      · refine own_go (B := (T7.setTop (mkF m 148 #[.val (.int p0)] []))) (fun t k => XS.ifYes X7.here hx rfl (pc0 := 112) (pc' := 148) rfl (hb hby d3_112) rfl ((if0 _ _).trans (feq hc112).2) (by decide) (by decide) k) ?_
                        refine own_go (B := (T7.setTop (mkF m 149 #[.val (.int p0)] [(.int (1 : Int32))]))) (fun t k => XS.iconst X7.here hx rfl (hb hby d3_148) k) ?_
                        refine own_go (B := (T7.setTop (mkF m 153 #[.val (.int p0)] [(.int (1 : Int32))]))) (fun t k => XS.goto X7.here hx rfl (pc0 := 149) (pc' := 153) rfl (hb hby d3_149) (by decide) (by decide) k) ?_
                        obtain ⟨fs, hr, hrun, hended, hW, hsame⟩ := X7.leave (v := some (.int (1 : Int32))) (fun h => by rw [Bd.returns] at h; cases h)
                        exact ⟨_, _, retN X7 hx (t := .boolean) Bd.returns (by simp) (hb hby d3_153) hr, hrun, hended, _, _, rfl, ⟨congrArg (fun z => some (Value.int z)) (by simp only [F3, if_pos hc8, if_neg hc14, if_pos hc26, if_neg hc33, if_neg hc40, if_pos hc53, if_neg hc60, if_pos hc73, if_pos hc86, if_pos hc99, if_neg hc112]), N7, e7⟩, ⟨_, rfl⟩, hW, hsame.mono (by decide) (by decide)⟩
                    · refine own_go (B := (T6.setTop (mkF m 148 #[.val (.int p0)] []))) (fun t k => XS.ifYes X6.here hx rfl (pc0 := 99) (pc' := 148) rfl (hb hby d3_99) rfl ((if0 _ _).trans (feq hc99).2) (by decide) (by decide) k) ?_
                      refine own_go (B := (T6.setTop (mkF m 149 #[.val (.int p0)] [(.int (1 : Int32))]))) (fun t k => XS.iconst X6.here hx rfl (hb hby d3_148) k) ?_
                      refine own_go (B := (T6.setTop (mkF m 153 #[.val (.int p0)] [(.int (1 : Int32))]))) (fun t k => XS.goto X6.here hx rfl (pc0 := 149) (pc' := 153) rfl (hb hby d3_149) (by decide) (by decide) k) ?_
                      obtain ⟨fs, hr, hrun, hended, hW, hsame⟩ := X6.leave (v := some (.int (1 : Int32))) (fun h => by rw [Bd.returns] at h; cases h)
                      exact ⟨_, _, retN X6 hx (t := .boolean) Bd.returns (by simp) (hb hby d3_153) hr, hrun, hended, _, _, rfl, ⟨congrArg (fun z => some (Value.int z)) (by simp only [F3, if_pos hc8, if_neg hc14, if_pos hc26, if_neg hc33, if_neg hc40, if_pos hc53, if_neg hc60, if_pos hc73, if_pos hc86, if_neg hc99]), N6, e6⟩, ⟨_, rfl⟩, hW, hsame.mono (by decide) (by decide)⟩
                  · refine own_go (B := (T5.setTop (mkF m 148 #[.val (.int p0)] []))) (fun t k => XS.ifYes X5.here hx rfl (pc0 := 86) (pc' := 148) rfl (hb hby d3_86) rfl ((if0 _ _).trans (feq hc86).2) (by decide) (by decide) k) ?_
                    refine own_go (B := (T5.setTop (mkF m 149 #[.val (.int p0)] [(.int (1 : Int32))]))) (fun t k => XS.iconst X5.here hx rfl (hb hby d3_148) k) ?_
                    refine own_go (B := (T5.setTop (mkF m 153 #[.val (.int p0)] [(.int (1 : Int32))]))) (fun t k => XS.goto X5.here hx rfl (pc0 := 149) (pc' := 153) rfl (hb hby d3_149) (by decide) (by decide) k) ?_
                    obtain ⟨fs, hr, hrun, hended, hW, hsame⟩ := X5.leave (v := some (.int (1 : Int32))) (fun h => by rw [Bd.returns] at h; cases h)
                    exact ⟨_, _, retN X5 hx (t := .boolean) Bd.returns (by simp) (hb hby d3_153) hr, hrun, hended, _, _, rfl, ⟨congrArg (fun z => some (Value.int z)) (by simp only [F3, if_pos hc8, if_neg hc14, if_pos hc26, if_neg hc33, if_neg hc40, if_pos hc53, if_neg hc60, if_pos hc73, if_neg hc86]), N5, e5⟩, ⟨_, rfl⟩, hW, hsame.mono (by decide) (by decide)⟩
                · refine own_go (B := (T4.setTop (mkF m 148 #[.val (.int p0)] []))) (fun t k => XS.ifYes X4.here hx rfl (pc0 := 73) (pc' := 148) rfl (hb hby d3_73) rfl ((if0 _ _).trans (feq hc73).2) (by decide) (by decide) k) ?_
                  refine own_go (B := (T4.setTop (mkF m 149 #[.val (.int p0)] [(.int (1 : Int32))]))) (fun t k => XS.iconst X4.here hx rfl (hb hby d3_148) k) ?_
                  refine own_go (B := (T4.setTop (mkF m 153 #[.val (.int p0)] [(.int (1 : Int32))]))) (fun t k => XS.goto X4.here hx rfl (pc0 := 149) (pc' := 153) rfl (hb hby d3_149) (by decide) (by decide) k) ?_
                  obtain ⟨fs, hr, hrun, hended, hW, hsame⟩ := X4.leave (v := some (.int (1 : Int32))) (fun h => by rw [Bd.returns] at h; cases h)
                  exact ⟨_, _, retN X4 hx (t := .boolean) Bd.returns (by simp) (hb hby d3_153) hr, hrun, hended, _, _, rfl, ⟨congrArg (fun z => some (Value.int z)) (by simp only [F3, if_pos hc8, if_neg hc14, if_pos hc26, if_neg hc33, if_neg hc40, if_pos hc53, if_neg hc60, if_neg hc73]), N4, e4⟩, ⟨_, rfl⟩, hW, hsame.mono (by decide) (by decide)⟩
            · refine own_go (B := (T3.setTop (mkF m 148 #[.val (.int p0)] []))) (fun t k => XS.ifYes X3.here hx rfl (pc0 := 53) (pc' := 148) rfl (hb hby d3_53) rfl ((if0 _ _).trans (feq hc53).2) (by decide) (by decide) k) ?_
              refine own_go (B := (T3.setTop (mkF m 149 #[.val (.int p0)] [(.int (1 : Int32))]))) (fun t k => XS.iconst X3.here hx rfl (hb hby d3_148) k) ?_
              refine own_go (B := (T3.setTop (mkF m 153 #[.val (.int p0)] [(.int (1 : Int32))]))) (fun t k => XS.goto X3.here hx rfl (pc0 := 149) (pc' := 153) rfl (hb hby d3_149) (by decide) (by decide) k) ?_
              obtain ⟨fs, hr, hrun, hended, hW, hsame⟩ := X3.leave (v := some (.int (1 : Int32))) (fun h => by rw [Bd.returns] at h; cases h)
              exact ⟨_, _, retN X3 hx (t := .boolean) Bd.returns (by simp) (hb hby d3_153) hr, hrun, hended, _, _, rfl, ⟨congrArg (fun z => some (Value.int z)) (by simp only [F3, if_pos hc8, if_neg hc14, if_pos hc26, if_neg hc33, if_neg hc40, if_neg hc53]), N3, e3⟩, ⟨_, rfl⟩, hW, hsame.mono (by decide) (by decide)⟩
      · refine own_go (B := (T2.setTop (mkF m 148 #[.val (.int p0)] []))) (fun t k => XS.ifYes X2.here hx rfl (pc0 := 26) (pc' := 148) rfl (hb hby d3_26) rfl ((if0 _ _).trans (feq hc26).2) (by decide) (by decide) k) ?_
        refine own_go (B := (T2.setTop (mkF m 149 #[.val (.int p0)] [(.int (1 : Int32))]))) (fun t k => XS.iconst X2.here hx rfl (hb hby d3_148) k) ?_
        refine own_go (B := (T2.setTop (mkF m 153 #[.val (.int p0)] [(.int (1 : Int32))]))) (fun t k => XS.goto X2.here hx rfl (pc0 := 149) (pc' := 153) rfl (hb hby d3_149) (by decide) (by decide) k) ?_
        obtain ⟨fs, hr, hrun, hended, hW, hsame⟩ := X2.leave (v := some (.int (1 : Int32))) (fun h => by rw [Bd.returns] at h; cases h)
        exact ⟨_, _, retN X2 hx (t := .boolean) Bd.returns (by simp) (hb hby d3_153) hr, hrun, hended, _, _, rfl, ⟨congrArg (fun z => some (Value.int z)) (by simp only [F3, if_pos hc8, if_neg hc14, if_neg hc26]), N2, e2⟩, ⟨_, rfl⟩, hW, hsame.mono (by decide) (by decide)⟩
  · refine own_go (B := (T1.setTop (mkF m 148 #[.val (.int p0)] []))) (fun t k => XS.ifYes X1.here hx rfl (pc0 := 8) (pc' := 148) rfl (hb hby d3_8) rfl ((if0 _ _).trans (feq hc8).2) (by decide) (by decide) k) ?_
    refine own_go (B := (T1.setTop (mkF m 149 #[.val (.int p0)] [(.int (1 : Int32))]))) (fun t k => XS.iconst X1.here hx rfl (hb hby d3_148) k) ?_
    refine own_go (B := (T1.setTop (mkF m 153 #[.val (.int p0)] [(.int (1 : Int32))]))) (fun t k => XS.goto X1.here hx rfl (pc0 := 149) (pc' := 153) rfl (hb hby d3_149) (by decide) (by decide) k) ?_
    obtain ⟨fs, hr, hrun, hended, hW, hsame⟩ := X1.leave (v := some (.int (1 : Int32))) (fun h => by rw [Bd.returns] at h; cases h)
    exact ⟨_, _, retN X1 hx (t := .boolean) Bd.returns (by simp) (hb hby d3_153) hr, hrun, hended, _, _, rfl, ⟨congrArg (fun z => some (Value.int z)) (by simp only [F3, if_neg hc8]), N1, e1⟩, ⟨_, rfl⟩, hW, hsame.mono (by decide) (by decide)⟩
theorem d2_0 : decode method_4_code 0 = .ok (.iload_n 0, 1) := by decide +kernel
theorem d2_1 : decode method_4_code 1 = .ok (.bipush 65, 2) := by decide +kernel
theorem d2_3 : decode method_4_code 3 = .ok (.if_icmp .lt 9, 3) := by decide +kernel
theorem d2_6 : decode method_4_code 6 = .ok (.iload_n 0, 1) := by decide +kernel
theorem d2_7 : decode method_4_code 7 = .ok (.ldc 19, 2) := by decide +kernel
theorem d2_9 : decode method_4_code 9 = .ok (.if_icmp .le 5, 3) := by decide +kernel
theorem d2_12 : decode method_4_code 12 = .ok (.iconst 0, 1) := by decide +kernel
theorem d2_13 : decode method_4_code 13 = .ok (.ireturn, 1) := by decide +kernel
theorem d2_14 : decode method_4_code 14 = .ok (.iload_n 0, 1) := by decide +kernel
theorem d2_15 : decode method_4_code 15 = .ok (.invokestatic 20, 3) := by decide +kernel
theorem d2_18 : decode method_4_code 18 = .ok (.ifCond .ne 7, 3) := by decide +kernel
theorem d2_21 : decode method_4_code 21 = .ok (.iconst 1, 1) := by decide +kernel
theorem d2_22 : decode method_4_code 22 = .ok (.goto 4, 3) := by decide +kernel
theorem d2_25 : decode method_4_code 25 = .ok (.iconst 0, 1) := by decide +kernel
theorem d2_26 : decode method_4_code 26 = .ok (.ireturn, 1) := by decide +kernel
theorem pn_2 : plainName "com/example/homing_pigeon/homingpigeon/NCNameIsNameStartCharPinLaw" = true := by first | (simp [plainName, overriddenIn]; done) | decide +kernel
theorem pd_2_0 : parseMethodDescriptor "(I)Z" = some ⟨[.int], some .boolean⟩ := by decide +kernel
theorem ef_2 (m : MethodId) (x0 : Int32) : entryFrame m #[(.int x0)] 1 = mkF m 0 #[.val (.int x0)] [] := by first | (simp [entryFrame, mkF, argsToLocals, Value.category]; done) | rfl
def F2 (p0 : Int32)  : Int32 := if p0 < (65 : Int32) then (0 : Int32) else if (983039 : Int32) < p0 then (0 : Int32) else if (F3 p0) = (0 : Int32) then (1 : Int32) else (0 : Int32)
def Q2 (Z : State) (p0 : Int32)  (h0 : Heap) (n0 : Nat) (v : Option Value) (h : Heap) (L : List Loc) : Prop := v = some (.int (F2 p0)) ∧ Fr n0 L ∧ h = h0
set_option maxRecDepth 65536 in
set_option maxHeartbeats 40000000 in
theorem rm2 (l : Launch) (Z : State) (a0 : Array Value) (hw : ∀ d ∈ tables_1, d.before a0 Z = true) (ws : List Jvm.Cond) (p0 : Int32)  (h0 : Heap) (n0 : Nat)  :
    MetFree l (⟨"com/example/homing_pigeon/homingpigeon/NCNameIsNameStartCharPinLaw", "ref", "(I)Z"⟩ : MethodName) (head1 (Jvm.Cond.code (⟨"com/example/homing_pigeon/homingpigeon/NCNameIsNameStartCharPinLaw", "ref", "(I)Z"⟩ : MethodName) method_4_code 1 (some .boolean) :: ws) ({ frames := 2, cells := 0, slots := 0, locals := 26 } : Room)) (fun a U => a = #[(.int p0)] ∧ Z.Warmed39 U.vm ∧ U.heap = h0) (fun _ _ _ _ _ => True) (fun _ U o U' => ∃ v L, o = .returned v ∧ Q2 Z p0  h0 n0 v U'.heap L ∧ FrameEnd U o U' L ({ frames := 2, cells := 0, slots := 0, locals := 26 } : Room).cells ({ frames := 2, cells := 0, slots := 0, locals := 26 } : Room).slots) := by
  refine MetFree.of_bodySF (plainFor_of_name pn_2) hisR ?_
  intro p e s m args below meth c s₁ Bd hml0 hP hK
  obtain ⟨rfl, hZ, hh⟩ := hP
  have hx := Bd.exec
  have hby := Bd.bytes
  have hml : c.maxLocals = 1 := hml0
  have hown : s.vm.findClass "com/example/homing_pigeon/homingpigeon/NCNameIsNameStartCharPinLaw" = some m.cls := findClass_of_methodNamed Bd.named
  have hnm := (name_of_methodNamed Bd.named Bd.method).1
  have X0 : Stand p l e ({ frames := 2, cells := 0, slots := 0, locals := 26 } : Room) s m #[(.int p0)] below meth c s₁ [] 0 0 := Stand.of_body Bd
  have e0 : s₁.heap = h0 := by rw [← hh, Bd.state]; rfl
  have N0 := Fr.nil n0
  refine own_go (B := (s₁.setTop (mkF m 0 #[.val (.int p0)] []))) (fun t k => castTop (ef_2 m p0) k) ?_
  refine own_go (B := (s₁.setTop (mkF m 1 #[.val (.int p0)] [(.int p0)]))) (fun t k => XS.iloadN X0.here hx rfl (hb hby d2_0) rfl k) ?_
  refine own_go (B := (s₁.setTop (mkF m 3 #[.val (.int p0)] [(.int (65 : Int32)), (.int p0)]))) (fun t k => XS.bipush X0.here hx rfl (hb hby d2_1) k) ?_
  by_cases hc3 : p0 < (65 : Int32)
  · refine own_go (B := (s₁.setTop (mkF m 12 #[.val (.int p0)] []))) (fun t k => XS.icmpYes X0.here hx rfl (pc0 := 3) (pc' := 12) rfl (hb hby d2_3) rfl (tlt hc3).1 (by decide) (by decide) k) ?_
    refine own_go (B := (s₁.setTop (mkF m 13 #[.val (.int p0)] [(.int (0 : Int32))]))) (fun t k => XS.iconst X0.here hx rfl (hb hby d2_12) k) ?_
    obtain ⟨fs, hr, hrun, hended, hW, hsame⟩ := X0.leave (v := some (.int (0 : Int32))) (fun h => by rw [Bd.returns] at h; cases h)
    exact ⟨_, _, retN X0 hx (t := .boolean) Bd.returns (by simp) (hb hby d2_13) hr, hrun, hended, _, _, rfl, ⟨congrArg (fun z => some (Value.int z)) (by simp only [F2, if_pos hc3]), N0, e0⟩, ⟨_, rfl⟩, hW, hsame.mono (by decide) (by decide)⟩
  · refine own_go (B := (s₁.setTop (mkF m 6 #[.val (.int p0)] []))) (fun t k => XS.icmpNo X0.here hx rfl (hb hby d2_3) rfl (flt hc3).1 k) ?_
    refine own_go (B := (s₁.setTop (mkF m 7 #[.val (.int p0)] [(.int p0)]))) (fun t k => XS.iloadN X0.here hx rfl (hb hby d2_6) rfl k) ?_
    refine own_go (B := (s₁.setTop (mkF m 9 #[.val (.int p0)] [(.int (983039 : Int32)), (.int p0)]))) (fun t k => X0.ldcInt hx hown (mvT hZ (hw _ (List.mem_of_getElem? (i := 9) rfl))) (g := (mkF m 7 #[.val (.int p0)] [(.int p0)])) rfl (hb hby d2_7) _ k) ?_
    by_cases hc9 : (983039 : Int32) < p0
    · refine own_go (B := (s₁.setTop (mkF m 12 #[.val (.int p0)] []))) (fun t k => XS.icmpNo X0.here hx rfl (hb hby d2_9) rfl (tlt hc9).2.2.2 k) ?_
      refine own_go (B := (s₁.setTop (mkF m 13 #[.val (.int p0)] [(.int (0 : Int32))]))) (fun t k => XS.iconst X0.here hx rfl (hb hby d2_12) k) ?_
      obtain ⟨fs, hr, hrun, hended, hW, hsame⟩ := X0.leave (v := some (.int (0 : Int32))) (fun h => by rw [Bd.returns] at h; cases h)
      exact ⟨_, _, retN X0 hx (t := .boolean) Bd.returns (by simp) (hb hby d2_13) hr, hrun, hended, _, _, rfl, ⟨congrArg (fun z => some (Value.int z)) (by simp only [F2, if_neg hc3, if_pos hc9]), N0, e0⟩, ⟨_, rfl⟩, hW, hsame.mono (by decide) (by decide)⟩
    · refine own_go (B := (s₁.setTop (mkF m 14 #[.val (.int p0)] []))) (fun t k => XS.icmpYes X0.here hx rfl (pc0 := 9) (pc' := 14) rfl (hb hby d2_9) rfl (flt hc9).2.2.2 (by decide) (by decide) k) ?_
      refine own_go (B := (s₁.setTop (mkF m 15 #[.val (.int p0)] [(.int p0)]))) (fun t k => XS.iloadN X0.here hx rfl (hb hby d2_14) rfl k) ?_
      obtain ⟨_, _, ⟨T1, L1, k1, n1⟩, -, X1, ⟨Lc1, hQ1, l1, y1, z1⟩, st1⟩ := Jvm.LawKit.callS X0 hx (y := (⟨"com/example/homing_pigeon/homingpigeon/NCNameIsNameStartCharPinLaw", "inGap", "(I)Z"⟩ : MethodName)) hown (mvT hZ (hw _ (List.mem_of_getElem? (i := 10) rfl))) (mvT hZ (hw _ (List.mem_of_getElem? (i := 11) rfl))) (mvT hZ (hw _ (List.mem_of_getElem? (i := 7) rfl))) (mvT hZ (hw _ (List.mem_of_getElem? (i := 12) rfl))) (by decide) (backOf (W := 0) (rm3 l Z a0 hw [] p0  h0 n0 ) hZ (hw _ (List.mem_of_getElem? (i := 12) rfl)) (hw _ (List.mem_of_getElem? (i := 7) rfl)) (by decide) (by decide)) (g := (mkF m 15 #[.val (.int p0)] [(.int p0)])) rfl (by rw [hml]; rfl) (argsL := [(.int p0)]) (rest := []) (lenOf pd_2_0 rfl) rfl (by show 2 * 0 + _ ≤ _; exact Nat.le_of_eq rfl) (hb hby d2_15) (fun _ _ => ⟨rfl, e0, (by decide : 0 + 0 ≤ _), (by decide : 0 + 0 ≤ _)⟩)
      dsimp only [Pt.U, Pt.locs, Pt.cells, Pt.slots] at X1 l1 y1 z1 st1 hQ1
      subst l1 y1 z1
      obtain ⟨rfl, N1q, e1⟩ := hQ1
      replace e1 := e1
      have N1 := Fr.app N0 N1q
      refine own_go (B := (T1.setTop (mkF m 18 #[.val (.int p0)] [(.int (F3 p0))]))) (fun t k => st1 _ k) ?_
      by_cases hc18 : (F3 p0) = (0 : Int32)
      · refine own_go (B := (T1.setTop (mkF m 21 #[.val (.int p0)] []))) (fun t k => XS.ifNo X1.here hx rfl (hb hby d2_18) rfl ((if0 _ _).trans (teq hc18).2) k) ?_
        refine own_go (B := (T1.setTop (mkF m 22 #[.val (.int p0)] [(.int (1 : Int32))]))) (fun t k => XS.iconst X1.here hx rfl (hb hby d2_21) k) ?_
        refine own_go (B := (T1.setTop (mkF m 26 #[.val (.int p0)] [(.int (1 : Int32))]))) (fun t k => XS.goto X1.here hx rfl (pc0 := 22) (pc' := 26) rfl (hb hby d2_22) (by decide) (by decide) k) ?_
        obtain ⟨fs, hr, hrun, hended, hW, hsame⟩ := X1.leave (v := some (.int (1 : Int32))) (fun h => by rw [Bd.returns] at h; cases h)
        exact ⟨_, _, retN X1 hx (t := .boolean) Bd.returns (by simp) (hb hby d2_26) hr, hrun, hended, _, _, rfl, ⟨congrArg (fun z => some (Value.int z)) (by simp only [F2, if_neg hc3, if_neg hc9, if_pos hc18]), N1, e1⟩, ⟨_, rfl⟩, hW, hsame.mono (by decide) (by decide)⟩
      · refine own_go (B := (T1.setTop (mkF m 25 #[.val (.int p0)] []))) (fun t k => XS.ifYes X1.here hx rfl (pc0 := 18) (pc' := 25) rfl (hb hby d2_18) rfl ((if0 _ _).trans (feq hc18).2) (by decide) (by decide) k) ?_
        refine own_go (B := (T1.setTop (mkF m 26 #[.val (.int p0)] [(.int (0 : Int32))]))) (fun t k => XS.iconst X1.here hx rfl (hb hby d2_25) k) ?_
        obtain ⟨fs, hr, hrun, hended, hW, hsame⟩ := X1.leave (v := some (.int (0 : Int32))) (fun h => by rw [Bd.returns] at h; cases h)
        exact ⟨_, _, retN X1 hx (t := .boolean) Bd.returns (by simp) (hb hby d2_26) hr, hrun, hended, _, _, rfl, ⟨congrArg (fun z => some (Value.int z)) (by simp only [F2, if_neg hc3, if_neg hc9, if_neg hc18]), N1, e1⟩, ⟨_, rfl⟩, hW, hsame.mono (by decide) (by decide)⟩
theorem own_F4 (c a b : Int32) : F4 c a b = 0 ↔ (c.toInt < a.toInt ∨ b.toInt < c.toInt) := by
  unfold F4
  by_cases q : c < a
  · simp [q, Int32.lt_iff_toInt_lt.mp q]
  · by_cases q2 : b < c
    · simp [q, q2, Int32.lt_iff_toInt_lt.mp q2]
    · simp only [if_neg q, if_neg q2]
      simp only [Int32.lt_iff_toInt_lt] at q q2
      constructor
      · intro h; exact absurd h (by decide)
      · intro h; omega
theorem own_p {P Q : Prop} [Decidable P] {r : Int32} (h : r = 0 ↔ Q) : (if P then r else (1 : Int32)) = 0 ↔ (P ∧ Q) := by
  by_cases p : P
  · simp [p, h]
  · simp [p]
theorem own_n {P Q : Prop} [Decidable P] {r : Int32} (h : r = 0 ↔ Q) : (if P then (1 : Int32) else r) = 0 ↔ (¬ P ∧ Q) := by
  by_cases p : P
  · simp [p]
  · simp [p, h]
theorem own_l {P : Prop} [Decidable P] : (if P then (0 : Int32) else (1 : Int32)) = 0 ↔ P := by
  by_cases p : P
  · simp [p]
  · simp [p]
theorem own_F3 (c : Int32) : F3 c = 0 ↔ ((F4 c 91 94 = 0) ∧ ¬ c = 96 ∧ (F4 c 123 191 = 0) ∧ ¬ c = 215 ∧ ¬ c = 247 ∧ (F4 c 768 879 = 0) ∧ ¬ c = 894 ∧ (F4 c 8192 8203 = 0) ∧ (F4 c 8206 8303 = 0) ∧ (F4 c 8592 11263 = 0) ∧ (F4 c 12272 12288 = 0) ∧ (F4 c 55296 63743 = 0) ∧ (F4 c 64976 65007 = 0) ∧ (F4 c 65534 65535 = 0)) :=
  own_p (own_n (own_p (own_n (own_n (own_p (own_n (own_p (own_p (own_p (own_p (own_p (own_p (own_l)))))))))))))
theorem own_case {P : Prop} [Decidable P] {a b r : Int32} (h1 : P → a = r) (h2 : ¬ P → b = r) : (if P then a else b) = r := by
  by_cases p : P
  · rw [if_pos p]; exact h1 p
  · rw [if_neg p]; exact h2 p
set_option maxRecDepth 8000 in
theorem own_law (c : Int32) : F1 c = F2 c := by
  simp only [F1, F2, own_F3, own_F4, Int32.lt_iff_toInt_lt, ← Int32.toInt_inj (x := c), Int32.reduceToInt]
  generalize c.toInt = n
  repeat' (refine own_case ?_ ?_ <;> intro)
  all_goals (refine Eq.symm ?_; repeat' (refine own_case ?_ ?_ <;> intro))
  all_goals first | rfl | (exfalso; omega)

theorem pn_0 : plainName "com/example/homing_pigeon/homingpigeon/NCNameIsNameStartCharPinLaw" = true := by first | (simp [plainName, overriddenIn]; done) | decide +kernel
theorem pd_0_0 : parseMethodDescriptor "(I)Z" = some ⟨[.int], some .boolean⟩ := by decide +kernel
theorem ef_0 (m : MethodId) (x0 : Int32) (x1 : Int32) : entryFrame m #[(.int x0), (.int x1)] maxLocals = mkF m 0 #[.val (.int x0), .val (.int x1), .unset, .unset, .unset] [] := by first | (simp [entryFrame, mkF, argsToLocals, Value.category, maxLocals]; done) | rfl
def Q0 (Z : State) (p0 : Int32) (p1 : Int32) (h0 : Heap) (n0 : Nat) (v : Option Value) (h : Heap) (L : List Loc) : Prop := v = some (.int (1 : Int32)) ∧ Fr n0 L
set_option maxRecDepth 65536 in
set_option maxHeartbeats 40000000 in
theorem rm0 (l : Launch) (Z : State) (a0 : Array Value) (hw : ∀ d ∈ tables_1, d.before a0 Z = true) (ws : List Jvm.Cond) (p0 : Int32) (p1 : Int32)  (h0 : Heap) (n0 : Nat)  :
    MetFree l x (head1 (Jvm.Cond.code x code maxLocals ret :: ws) room_1) (fun a U => a = #[(.int p0), (.int p1)] ∧ Z.Warmed39 U.vm ∧ U.heap = h0) (fun _ _ _ _ _ => True) (fun _ U o U' => ∃ v L, o = .returned v ∧ Q0 Z p0 p1  h0 n0 v U'.heap L ∧ FrameEnd U o U' L room_1.cells room_1.slots) := by
  refine MetFree.of_bodySF (plainFor_of_name pn_0) hisR ?_
  intro p e s m args below meth c s₁ Bd hml0 hP hK
  obtain ⟨rfl, hZ, hh⟩ := hP
  have hx := Bd.exec
  have hby := Bd.bytes
  have hml : c.maxLocals = 5 := hml0
  have hown : s.vm.findClass "com/example/homing_pigeon/homingpigeon/NCNameIsNameStartCharPinLaw" = some m.cls := findClass_of_methodNamed Bd.named
  have hnm := (name_of_methodNamed Bd.named Bd.method).1
  have X0 : Stand p l e room_1 s m #[(.int p0), (.int p1)] below meth c s₁ [] 0 0 := Stand.of_body Bd
  have e0 : s₁.heap = h0 := by rw [← hh, Bd.state]; rfl
  have N0 := Fr.nil n0
  refine own_go (B := (s₁.setTop (mkF m 0 #[.val (.int p0), .val (.int p1), .unset, .unset, .unset] []))) (fun t k => castTop (ef_0 m p0 p1) k) ?_
  refine own_go (B := (s₁.setTop (mkF m 1 #[.val (.int p0), .val (.int p1), .unset, .unset, .unset] [(.int p1)]))) (fun t k => XS.iloadN X0.here hx rfl (hb hby at_0) rfl k) ?_
  refine own_go (B := (s₁.setTop (mkF m 3 #[.val (.int p0), .val (.int p1), .unset, .unset, .unset] [(.int (2097151 : Int32)), (.int p1)]))) (fun t k => X0.ldcInt hx hown (mvT hZ (hw _ (List.mem_of_getElem? (i := 0) rfl))) (g := (mkF m 1 #[.val (.int p0), .val (.int p1), .unset, .unset, .unset] [(.int p1)])) rfl (hb hby at_1) _ k) ?_
  refine own_go (B := (s₁.setTop (mkF m 4 #[.val (.int p0), .val (.int p1), .unset, .unset, .unset] [(.int (p1 &&& (2097151 : Int32)))]))) (fun t k => XS.iand X0.here hx rfl (hb hby at_3) rfl k) ?_
  refine own_go (B := (s₁.setTop (mkF m 5 #[.val (.int p0), .val (.int p1), .val (.int (p1 &&& (2097151 : Int32))), .unset, .unset] []))) (fun t k => XS.istoreN X0.here hx rfl (hb hby at_4) rfl (l' := #[.val (.int p0), .val (.int p1), .val (.int (p1 &&& (2097151 : Int32))), .unset, .unset]) rfl k) ?_
  refine own_go (B := (s₁.setTop (mkF m 6 #[.val (.int p0), .val (.int p1), .val (.int (p1 &&& (2097151 : Int32))), .unset, .unset] [(.int p0)]))) (fun t k => XS.iloadN X0.here hx rfl (hb hby at_5) rfl k) ?_
  obtain ⟨_, _, ⟨T1, L1, k1, n1⟩, -, X1, ⟨Lc1, hQ1, l1, y1, z1⟩, st1⟩ := Jvm.LawKit.callS X0 hx (y := (⟨"com/example/homing_pigeon/homingpigeon/NCName", "isNameStartChar", "(I)Z"⟩ : MethodName)) hown (mvT hZ (hw _ (List.mem_of_getElem? (i := 1) rfl))) (mvT hZ (hw _ (List.mem_of_getElem? (i := 2) rfl))) (mvT hZ (hw _ (List.mem_of_getElem? (i := 3) rfl))) (mvT hZ (hw _ (List.mem_of_getElem? (i := 4) rfl))) (by decide) (backOf (W := 0) (rm1 l Z a0 hw [] p0  h0 n0 ) hZ (hw _ (List.mem_of_getElem? (i := 4) rfl)) (hw _ (List.mem_of_getElem? (i := 3) rfl)) (by decide) (by decide)) (g := (mkF m 6 #[.val (.int p0), .val (.int p1), .val (.int (p1 &&& (2097151 : Int32))), .unset, .unset] [(.int p0)])) rfl (by rw [hml]; rfl) (argsL := [(.int p0)]) (rest := []) (lenOf pd_0_0 rfl) rfl (by show 2 * 0 + _ ≤ _; exact Nat.le_of_eq rfl) (hb hby at_6) (fun _ _ => ⟨rfl, e0, (by decide : 0 + 0 ≤ _), (by decide : 0 + 0 ≤ _)⟩)
  dsimp only [Pt.U, Pt.locs, Pt.cells, Pt.slots] at X1 l1 y1 z1 st1 hQ1
  subst l1 y1 z1
  obtain ⟨rfl, N1q, e1⟩ := hQ1
  replace e1 := e1
  have N1 := Fr.app N0 N1q
  refine own_go (B := (T1.setTop (mkF m 9 #[.val (.int p0), .val (.int p1), .val (.int (p1 &&& (2097151 : Int32))), .unset, .unset] [(.int (F1 p0))]))) (fun t k => st1 _ k) ?_
  refine own_go (B := (T1.setTop (mkF m 10 #[.val (.int p0), .val (.int p1), .val (.int (p1 &&& (2097151 : Int32))), .unset, .unset] [(.int p0), (.int (F1 p0))]))) (fun t k => XS.iloadN X1.here hx rfl (hb hby at_9) rfl k) ?_
  obtain ⟨_, _, ⟨T2, L2, k2, n2⟩, -, X2, ⟨Lc2, hQ2, l2, y2, z2⟩, st2⟩ := Jvm.LawKit.callS X1 hx (y := (⟨"com/example/homing_pigeon/homingpigeon/NCNameIsNameStartCharPinLaw", "ref", "(I)Z"⟩ : MethodName)) hown (mvT hZ (hw _ (List.mem_of_getElem? (i := 5) rfl))) (mvT hZ (hw _ (List.mem_of_getElem? (i := 6) rfl))) (mvT hZ (hw _ (List.mem_of_getElem? (i := 7) rfl))) (mvT hZ (hw _ (List.mem_of_getElem? (i := 8) rfl))) (by decide) (backOf (W := 1) (rm2 l Z a0 hw [] p0  h0 n0 ) hZ (hw _ (List.mem_of_getElem? (i := 8) rfl)) (hw _ (List.mem_of_getElem? (i := 7) rfl)) (by decide) (by decide)) (g := (mkF m 10 #[.val (.int p0), .val (.int p1), .val (.int (p1 &&& (2097151 : Int32))), .unset, .unset] [(.int p0), (.int (F1 p0))])) rfl (by rw [hml]; rfl) (argsL := [(.int p0)]) (rest := [(.int (F1 p0))]) (lenOf pd_0_0 rfl) rfl (by show 2 * 0 + _ ≤ _; exact Nat.le_of_eq rfl) (hb hby at_10) (fun _ _ => ⟨rfl, e1, (by decide : (0 + 0) + 0 ≤ _), (by decide : (0 + 0) + 0 ≤ _)⟩)
  dsimp only [Pt.U, Pt.locs, Pt.cells, Pt.slots] at X2 l2 y2 z2 st2 hQ2
  subst l2 y2 z2
  obtain ⟨rfl, N2q, e2⟩ := hQ2
  replace e2 := e2
  have N2 := Fr.app N1 N2q
  refine own_go (B := (T2.setTop (mkF m 13 #[.val (.int p0), .val (.int p1), .val (.int (p1 &&& (2097151 : Int32))), .unset, .unset] [(.int (F2 p0)), (.int (F1 p0))]))) (fun t k => st2 _ k) ?_
  refine own_go (B := (T2.setTop (mkF m 16 #[.val (.int p0), .val (.int p1), .val (.int (p1 &&& (2097151 : Int32))), .unset, .unset] []))) (fun t k => XS.icmpNo X2.here hx rfl (hb hby at_13) rfl (teq (own_law _)).2 k) ?_
  refine own_go (B := (T2.setTop (mkF m 17 #[.val (.int p0), .val (.int p1), .val (.int (p1 &&& (2097151 : Int32))), .unset, .unset] [(.int (1 : Int32))]))) (fun t k => XS.iconst X2.here hx rfl (hb hby at_16) k) ?_
  refine own_go (B := (T2.setTop (mkF m 21 #[.val (.int p0), .val (.int p1), .val (.int (p1 &&& (2097151 : Int32))), .unset, .unset] [(.int (1 : Int32))]))) (fun t k => XS.goto X2.here hx rfl (pc0 := 17) (pc' := 21) rfl (hb hby at_17) (by decide) (by decide) k) ?_
  refine own_go (B := (T2.setTop (mkF m 22 #[.val (.int p0), .val (.int p1), .val (.int (p1 &&& (2097151 : Int32))), .val (.int (1 : Int32)), .unset] []))) (fun t k => XS.istoreN X2.here hx rfl (hb hby at_21) rfl (l' := #[.val (.int p0), .val (.int p1), .val (.int (p1 &&& (2097151 : Int32))), .val (.int (1 : Int32)), .unset]) rfl k) ?_
  refine own_go (B := (T2.setTop (mkF m 23 #[.val (.int p0), .val (.int p1), .val (.int (p1 &&& (2097151 : Int32))), .val (.int (1 : Int32)), .unset] [(.int (p1 &&& (2097151 : Int32)))]))) (fun t k => XS.iloadN X2.here hx rfl (hb hby at_22) rfl k) ?_
  obtain ⟨_, _, ⟨T3, L3, k3, n3⟩, -, X3, ⟨Lc3, hQ3, l3, y3, z3⟩, st3⟩ := Jvm.LawKit.callS X2 hx (y := (⟨"com/example/homing_pigeon/homingpigeon/NCName", "isNameStartChar", "(I)Z"⟩ : MethodName)) hown (mvT hZ (hw _ (List.mem_of_getElem? (i := 1) rfl))) (mvT hZ (hw _ (List.mem_of_getElem? (i := 2) rfl))) (mvT hZ (hw _ (List.mem_of_getElem? (i := 3) rfl))) (mvT hZ (hw _ (List.mem_of_getElem? (i := 4) rfl))) (by decide) (backOf (W := 0) (rm1 l Z a0 hw [] (p1 &&& (2097151 : Int32))  h0 n0 ) hZ (hw _ (List.mem_of_getElem? (i := 4) rfl)) (hw _ (List.mem_of_getElem? (i := 3) rfl)) (by decide) (by decide)) (g := (mkF m 23 #[.val (.int p0), .val (.int p1), .val (.int (p1 &&& (2097151 : Int32))), .val (.int (1 : Int32)), .unset] [(.int (p1 &&& (2097151 : Int32)))])) rfl (by rw [hml]; rfl) (argsL := [(.int (p1 &&& (2097151 : Int32)))]) (rest := []) (lenOf pd_0_0 rfl) rfl (by show 2 * 0 + _ ≤ _; exact Nat.le_of_eq rfl) (hb hby at_23) (fun _ _ => ⟨rfl, e2, (by decide : ((0 + 0) + 0) + 0 ≤ _), (by decide : ((0 + 0) + 0) + 0 ≤ _)⟩)
  dsimp only [Pt.U, Pt.locs, Pt.cells, Pt.slots] at X3 l3 y3 z3 st3 hQ3
  subst l3 y3 z3
  obtain ⟨rfl, N3q, e3⟩ := hQ3
  replace e3 := e3
  have N3 := Fr.app N2 N3q
  refine own_go (B := (T3.setTop (mkF m 26 #[.val (.int p0), .val (.int p1), .val (.int (p1 &&& (2097151 : Int32))), .val (.int (1 : Int32)), .unset] [(.int (F1 (p1 &&& (2097151 : Int32))))]))) (fun t k => st3 _ k) ?_
  refine own_go (B := (T3.setTop (mkF m 27 #[.val (.int p0), .val (.int p1), .val (.int (p1 &&& (2097151 : Int32))), .val (.int (1 : Int32)), .unset] [(.int (p1 &&& (2097151 : Int32))), (.int (F1 (p1 &&& (2097151 : Int32))))]))) (fun t k => XS.iloadN X3.here hx rfl (hb hby at_26) rfl k) ?_
  obtain ⟨_, _, ⟨T4, L4, k4, n4⟩, -, X4, ⟨Lc4, hQ4, l4, y4, z4⟩, st4⟩ := Jvm.LawKit.callS X3 hx (y := (⟨"com/example/homing_pigeon/homingpigeon/NCNameIsNameStartCharPinLaw", "ref", "(I)Z"⟩ : MethodName)) hown (mvT hZ (hw _ (List.mem_of_getElem? (i := 5) rfl))) (mvT hZ (hw _ (List.mem_of_getElem? (i := 6) rfl))) (mvT hZ (hw _ (List.mem_of_getElem? (i := 7) rfl))) (mvT hZ (hw _ (List.mem_of_getElem? (i := 8) rfl))) (by decide) (backOf (W := 1) (rm2 l Z a0 hw [] (p1 &&& (2097151 : Int32))  h0 n0 ) hZ (hw _ (List.mem_of_getElem? (i := 8) rfl)) (hw _ (List.mem_of_getElem? (i := 7) rfl)) (by decide) (by decide)) (g := (mkF m 27 #[.val (.int p0), .val (.int p1), .val (.int (p1 &&& (2097151 : Int32))), .val (.int (1 : Int32)), .unset] [(.int (p1 &&& (2097151 : Int32))), (.int (F1 (p1 &&& (2097151 : Int32))))])) rfl (by rw [hml]; rfl) (argsL := [(.int (p1 &&& (2097151 : Int32)))]) (rest := [(.int (F1 (p1 &&& (2097151 : Int32))))]) (lenOf pd_0_0 rfl) rfl (by show 2 * 0 + _ ≤ _; exact Nat.le_of_eq rfl) (hb hby at_27) (fun _ _ => ⟨rfl, e3, (by decide : (((0 + 0) + 0) + 0) + 0 ≤ _), (by decide : (((0 + 0) + 0) + 0) + 0 ≤ _)⟩)
  dsimp only [Pt.U, Pt.locs, Pt.cells, Pt.slots] at X4 l4 y4 z4 st4 hQ4
  subst l4 y4 z4
  obtain ⟨rfl, N4q, e4⟩ := hQ4
  replace e4 := e4
  have N4 := Fr.app N3 N4q
  refine own_go (B := (T4.setTop (mkF m 30 #[.val (.int p0), .val (.int p1), .val (.int (p1 &&& (2097151 : Int32))), .val (.int (1 : Int32)), .unset] [(.int (F2 (p1 &&& (2097151 : Int32)))), (.int (F1 (p1 &&& (2097151 : Int32))))]))) (fun t k => st4 _ k) ?_
  refine own_go (B := (T4.setTop (mkF m 33 #[.val (.int p0), .val (.int p1), .val (.int (p1 &&& (2097151 : Int32))), .val (.int (1 : Int32)), .unset] []))) (fun t k => XS.icmpNo X4.here hx rfl (hb hby at_30) rfl (teq (own_law _)).2 k) ?_
  refine own_go (B := (T4.setTop (mkF m 34 #[.val (.int p0), .val (.int p1), .val (.int (p1 &&& (2097151 : Int32))), .val (.int (1 : Int32)), .unset] [(.int (1 : Int32))]))) (fun t k => XS.iconst X4.here hx rfl (hb hby at_33) k) ?_
  refine own_go (B := (T4.setTop (mkF m 38 #[.val (.int p0), .val (.int p1), .val (.int (p1 &&& (2097151 : Int32))), .val (.int (1 : Int32)), .unset] [(.int (1 : Int32))]))) (fun t k => XS.goto X4.here hx rfl (pc0 := 34) (pc' := 38) rfl (hb hby at_34) (by decide) (by decide) k) ?_
  refine own_go (B := (T4.setTop (mkF m 40 #[.val (.int p0), .val (.int p1), .val (.int (p1 &&& (2097151 : Int32))), .val (.int (1 : Int32)), .val (.int (1 : Int32))] []))) (fun t k => XS.istore X4.here hx rfl (hb hby at_38) rfl (l' := #[.val (.int p0), .val (.int p1), .val (.int (p1 &&& (2097151 : Int32))), .val (.int (1 : Int32)), .val (.int (1 : Int32))]) rfl k) ?_
  refine own_go (B := (T4.setTop (mkF m 41 #[.val (.int p0), .val (.int p1), .val (.int (p1 &&& (2097151 : Int32))), .val (.int (1 : Int32)), .val (.int (1 : Int32))] [(.int (1 : Int32))]))) (fun t k => XS.iloadN X4.here hx rfl (hb hby at_40) rfl k) ?_
  refine own_go (B := (T4.setTop (mkF m 44 #[.val (.int p0), .val (.int p1), .val (.int (p1 &&& (2097151 : Int32))), .val (.int (1 : Int32)), .val (.int (1 : Int32))] []))) (fun t k => XS.ifNo X4.here hx rfl (hb hby at_41) rfl ((if0 _ _).trans (feq (by decide)).1) k) ?_
  refine own_go (B := (T4.setTop (mkF m 46 #[.val (.int p0), .val (.int p1), .val (.int (p1 &&& (2097151 : Int32))), .val (.int (1 : Int32)), .val (.int (1 : Int32))] [(.int (1 : Int32))]))) (fun t k => XS.iload X4.here hx rfl (hb hby at_44) rfl k) ?_
  refine own_go (B := (T4.setTop (mkF m 49 #[.val (.int p0), .val (.int p1), .val (.int (p1 &&& (2097151 : Int32))), .val (.int (1 : Int32)), .val (.int (1 : Int32))] []))) (fun t k => XS.ifNo X4.here hx rfl (hb hby at_46) rfl ((if0 _ _).trans (feq (by decide)).1) k) ?_
  refine own_go (B := (T4.setTop (mkF m 50 #[.val (.int p0), .val (.int p1), .val (.int (p1 &&& (2097151 : Int32))), .val (.int (1 : Int32)), .val (.int (1 : Int32))] [(.int (1 : Int32))]))) (fun t k => XS.iconst X4.here hx rfl (hb hby at_49) k) ?_
  refine own_go (B := (T4.setTop (mkF m 54 #[.val (.int p0), .val (.int p1), .val (.int (p1 &&& (2097151 : Int32))), .val (.int (1 : Int32)), .val (.int (1 : Int32))] [(.int (1 : Int32))]))) (fun t k => XS.goto X4.here hx rfl (pc0 := 50) (pc' := 54) rfl (hb hby at_50) (by decide) (by decide) k) ?_
  obtain ⟨fs, hr, hrun, hended, hW, hsame⟩ := X4.leave (v := some (.int (1 : Int32))) (fun h => by rw [Bd.returns] at h; cases h)
  exact ⟨_, _, retN X4 hx (t := .boolean) Bd.returns (by simp) (hb hby at_54) hr, hrun, hended, _, _, rfl, ⟨rfl, N4⟩, ⟨_, rfl⟩, hW, hsame.mono (by decide) (by decide)⟩
set_option maxRecDepth 65536 in
set_option maxHeartbeats 40000000 in
theorem comes_1 {Post : Tables → Env → Array Value → State → Outcome → State → Prop} (hpost : ∀ tb e args s v u, (limb_1_1.after args s (.returned v) u = true ∧ limb_1_2.after args s (.returned v) u = true ∧ True) → FrameEnd s (.returned v) u (Jvm.fieldLocs frame_1_writes args s ++ Jvm.arrayLocs frame_1_arrays args s ++ Jvm.staticLocs frame_1_statics s) 0 0 → Post tb e args s (.returned v) u) :
    ArmFor flags0 classFile x code maxLocals ret World_1 tables_1 room_1 Calls_1 rest_1 Pre_1 Post := by
  intro l hfl _ _ p e ha hc hk s m args below hf hA hF happ hP
  obtain ⟨hcalls, hrest, hpre⟩ := hP
  obtain ⟨-, -, -, hnamed, -, -, -, hat⟩ := (Spec.applies_iff hf).mp happ
  obtain ⟨hg, hn⟩ := and_e (Cond.before_iff.mp (show (Jvm.Cond.and given_1 narrow_1).before args s = true from hpre))
  obtain ⟨gc, g0⟩ := and_e hg
  obtain ⟨gg0, g1⟩ := and_e g0
  obtain ⟨w0, w1, rfl⟩ : ∃ w0 w1 : Value, args = #[w0, w1] := by
    have hs : args.size = 2 := by simpa [Cond.value, given_1] using gc
    obtain ⟨L⟩ := args
    match L, hs with
    | [w0, w1], _ => exact ⟨w0, w1, rfl⟩
  have hw := fun d (hd : d ∈ tables_1) => atoms_spec (ws := Jvm.Cond.code x code maxLocals ret :: tables_1) hat d (List.mem_cons_of_mem _ hd)
  have hfit : Fit s := fun {y c} hc i hi => by
    obtain ⟨ha, rfl⟩ := Array.getElem?_eq_some_iff.mp hc
    have q := List.all_eq_true.mp ((Array.all_eq_true_iff_forall_mem.mp hF) _ (Array.getElem_mem ha)) i (List.mem_range.mpr hi)
    simpa [Array.getElem?_eq_getElem hi] using q
  obtain ⟨i0, ei0⟩ := is_v gg0
  obtain rfl : w0 = (.int i0) := Option.some.inj ei0
  obtain ⟨i1, ei1⟩ := is_v g1
  obtain rfl : w1 = (.int i1) := Option.some.inj ei1
  obtain ⟨n, o, h1, h2, h3, _, L, rfl, ⟨rfl, N⟩, hq⟩ := rm0 l s _ hw tables_1 i0 i1 s.heap s.heap.size p e ha hc hk s m _ below hf ((Spec.applies_iff_loose hf).mp happ).1 ⟨rfl, State.Warmed39.refl s, rfl⟩ trivial
  refine ⟨n, _, h1, h2, h3, hpost _ _ _ _ _ _ ⟨Cond.after_iff.mpr rfl, Cond.after_iff.mpr (eq_i res_at (Term.int_eval (1)) rfl), trivial⟩ ⟨hq.1, hq.2.1, (hq.2.2.sift fun y hy => Or.inr (N y hy)).mono (by decide) (by decide)⟩⟩
theorem main_1_1 : Claimed_1_1 := comes_1 fun _ _ _ _ _ _ h hF => ⟨h.1, hF⟩
theorem main_1_2 : Claimed_1_2 := comes_1 fun _ _ _ _ _ _ h hF => ⟨h.2.1, hF⟩
end Jvm.Pilot.@@N@@
namespace Jvm.Pilot.@@N@@
open Jvm Jvm.ClassFile Sem Op Lib Jvm.Free Jvm.Stand Jvm.Pilot.@@N@@.Jvm.D
/-! MADE BY PROGRAM (witnessworld.py) out of the Statement's table words and the real class files: 9 classes; the members and pool entries that the words name. The judged class is class 1, her method 4. -/
namespace start1
open Jvm.ClassFile
def u (s : String) : CpInfo := .utf8 (stringToUtf16 s)
/-- a pool by its gaps: so many unusable entries, then the entry; so many at the end -/
def gap : Nat → List CpInfo → List CpInfo
  | 0, r => r
  | n + 1, r => .unusable :: gap n r
def poolList (es : List (Nat × CpInfo)) (last : Nat) : List CpInfo := es.foldr (fun e r => gap e.1 (e.2 :: r)) (gap last [])
def pool (es : List (Nat × CpInfo)) (last : Nat) : Array CpInfo := ⟨poolList es last⟩
def fileOf (pool : Array CpInfo) (this : Nat) (attrs : Array Attribute := #[]) (ms : Array MethodInfo := #[]) (fl : Nat := 33) (sup : Nat := 0) (ifs : Array Nat := #[]) (fds : Array FieldInfo := #[]) : ClassFile where
  minorVersion := 0
  majorVersion := 65
  constantPool := pool
  accessFlags := fl
  thisClass := this
  superClass := sup
  interfaces := ifs
  fields := fds
  methods := ms
  attributes := attrs
def plain (name : String) (sup : Option ClassId) : Class where
  name := name
  kind := .ordinary
  loader := none
  accessFlags := 33
  super := sup
  interfaces := #[]
  cf := none
  fields := #[]
  methods := #[]
  instanceTypes := #[]
  staticTypes := #[]
  resolved := #[]
  callSites := []
  init := .initialized
  statics := none
  mirror := none

def pool0 : Array CpInfo := pool [(5, u "<init>"), (0, u "()V"), (1, .class_ 10), (1, u "java/lang/Object")] 113

def k0m0 : Method := { name := "<init>", desc := "()V", sig := { parameters := [], returnType := none }, accessFlags := 1, code := none }
/-- java/lang/Object -/
def k0 : Class := { plain "java/lang/Object" none with
  accessFlags := 33
  interfaces := #[]
  cf := some (fileOf pool0 8 #[] #[{ accessFlags := 1, nameIndex := 5, descriptorIndex := 6, attributes := #[] }] 33 0 #[] #[])
  fields := #[]
  methods := #[k0m0]
  instanceTypes := #[]
  staticTypes := #[]
  resolved := Array.replicate 124 none
  statics := none }

def pool1 : Array CpInfo := pool [(2, .class_ 4), (1, u "java/lang/Object"), (0, u "<init>"), (0, u "()V"), (0, .methodref 8 9), (0, .class_ 10), (0, .nameAndType 11 12), (0, u "com/example/homing_pigeon/homingpigeon/NCNameIsNameStartCharPinLaw"), (0, u "in"), (0, u "(III)Z"), (0, .integer 55296), (0, .integer 63743), (0, .integer 64976), (0, .integer 65007), (0, .integer 65534), (0, .integer 65535), (0, .integer 983039), (0, .methodref 8 21), (0, .nameAndType 22 23), (0, u "inGap"), (0, u "(I)Z"), (0, .integer 2097151), (0, .methodref 26 27), (0, .class_ 28), (0, .nameAndType 29 23), (0, u "com/example/homing_pigeon/homingpigeon/NCName"), (0, u "isNameStartChar"), (0, .methodref 8 31), (0, .nameAndType 32 23), (0, u "ref"), (3, u "law"), (0, u "(II)Z")] 2

def k1m0 : Method := { name := "<init>", desc := "()V", sig := { parameters := [], returnType := none }, accessFlags := 2, code := none }
def k1c1 : Code := { maxStack := 2, maxLocals := 3, code := method_2_code, exceptionTable := #[], attributes := #[] }
def k1m1 : Method := { name := "in", desc := "(III)Z", sig := { parameters := [.int, .int, .int], returnType := some .boolean }, accessFlags := 10, code := some k1c1 }
def k1c2 : Code := { maxStack := 3, maxLocals := 1, code := method_3_code, exceptionTable := #[], attributes := #[] }
def k1m2 : Method := { name := "inGap", desc := "(I)Z", sig := { parameters := [.int], returnType := some .boolean }, accessFlags := 10, code := some k1c2 }
def k1c3 : Code := { maxStack := 2, maxLocals := 1, code := method_4_code, exceptionTable := #[], attributes := #[] }
def k1m3 : Method := { name := "ref", desc := "(I)Z", sig := { parameters := [.int], returnType := some .boolean }, accessFlags := 10, code := some k1c3 }
def k1c4 : Code := { maxStack := 2, maxLocals := 5, code := code, exceptionTable := #[], attributes := #[] }
def k1m4 : Method := { name := "law", desc := "(II)Z", sig := { parameters := [.int, .int], returnType := some .boolean }, accessFlags := 9, code := some k1c4 }
/-- com/example/homing_pigeon/homingpigeon/NCNameIsNameStartCharPinLaw -/
def k1 : Class := { plain "com/example/homing_pigeon/homingpigeon/NCNameIsNameStartCharPinLaw" (some 0) with
  accessFlags := 49
  interfaces := #[]
  cf := some (fileOf pool1 8 #[] #[{ accessFlags := 2, nameIndex := 5, descriptorIndex := 6, attributes := #[] }, { accessFlags := 10, nameIndex := 11, descriptorIndex := 12, attributes := #[] }, { accessFlags := 10, nameIndex := 22, descriptorIndex := 23, attributes := #[] }, { accessFlags := 10, nameIndex := 32, descriptorIndex := 23, attributes := #[] }, { accessFlags := 9, nameIndex := 36, descriptorIndex := 37, attributes := #[] }] 49 2 #[] #[])
  fields := #[]
  methods := #[k1m0, k1m1, k1m2, k1m3, k1m4]
  instanceTypes := #[]
  staticTypes := #[]
  resolved := Array.replicate 40 none
  statics := none }

def pool2 : Array CpInfo := pool [(2, .class_ 4), (1, u "java/lang/Object"), (0, u "<init>"), (0, u "()V"), (11, .class_ 20), (1, u "com/example/homing_pigeon/homingpigeon/NCName"), (0, u "isNameStartChar"), (0, u "(I)Z"), (12, .integer 55295), (0, .integer 63744), (0, .integer 64975), (0, .integer 65008), (0, .integer 65533), (0, .integer 65536), (0, .integer 983039)] 7

def k2m0 : Method := { name := "<init>", desc := "()V", sig := { parameters := [], returnType := none }, accessFlags := 2, code := none }
def k2c1 : Code := { maxStack := 2, maxLocals := 1, code := prog_22_method_3_code, exceptionTable := #[], attributes := #[] }
def k2m1 : Method := { name := "isNameStartChar", desc := "(I)Z", sig := { parameters := [.int], returnType := some .boolean }, accessFlags := 8, code := some k2c1 }
/-- com/example/homing_pigeon/homingpigeon/NCName -/
def k2 : Class := { plain "com/example/homing_pigeon/homingpigeon/NCName" (some 0) with
  accessFlags := 33
  interfaces := #[]
  cf := some (fileOf pool2 18 #[] #[{ accessFlags := 2, nameIndex := 5, descriptorIndex := 6, attributes := #[] }, { accessFlags := 8, nameIndex := 21, descriptorIndex := 22, attributes := #[] }] 33 2 #[] #[])
  fields := #[]
  methods := #[k2m0, k2m1]
  instanceTypes := #[]
  staticTypes := #[]
  resolved := Array.replicate 49 none
  statics := none }

def pool3 : Array CpInfo := pool [(1, u "java/lang/Cloneable"), (0, .class_ 1), (0, u "java/lang/Object"), (0, .class_ 3)] 3

/-- java/lang/Cloneable -/
def k3 : Class := { plain "java/lang/Cloneable" (some 0) with
  accessFlags := 1537
  interfaces := #[]
  cf := some (fileOf pool3 2 #[] #[] 1537 4 #[] #[])
  fields := #[]
  methods := #[]
  instanceTypes := #[]
  staticTypes := #[]
  resolved := Array.replicate 8 none
  statics := none }

def pool4 : Array CpInfo := pool [(1, u "java/io/Serializable"), (0, .class_ 1), (0, u "java/lang/Object"), (0, .class_ 3)] 3

/-- java/io/Serializable -/
def k4 : Class := { plain "java/io/Serializable" (some 0) with
  accessFlags := 1537
  interfaces := #[]
  cf := some (fileOf pool4 2 #[] #[] 1537 4 #[] #[])
  fields := #[]
  methods := #[]
  instanceTypes := #[]
  staticTypes := #[]
  resolved := Array.replicate 8 none
  statics := none }

/-- the primitive byte -/
def k5 : Class := { plain "byte" none with kind := .primitive 'B', accessFlags := 0x411 }
/-- [B -/
def k6 : Class := { plain "[B" (some 0) with kind := .array 5 .byte, interfaces := #[3, 4], accessFlags := 1041 }

/-- the primitive int -/
def k7 : Class := { plain "int" none with kind := .primitive 'I', accessFlags := 0x411 }
/-- [I -/
def k8 : Class := { plain "[I" (some 0) with kind := .array 7 .int, interfaces := #[3, 4], accessFlags := 1041 }

def heap : Heap := #[]
def classes : Array Class := #[k0, k1, k2, k3, k4, k5, k6, k7, k8]
def interned : List (Array UInt16 × Addr) := []
def slotsUsed : Nat := 0
def theMethod : MethodId := ⟨1, 4⟩
def args0 : Array Value := #[.int 5, .int 7]
def aboutOver (below : List Frame) : State where
  vm := { classes := classes, interned := interned.toArray }
  heap := heap
  slotsUsed := slotsUsed
  threads := #[{ frames := .invoking theMethod args0 :: below }]
def below0 : List Frame := [.native { method := ⟨0, 0⟩, args := #[] }]
def about1 : State := aboutOver below0
def p0 : Program := .bare "" "" ""
def e0 : Env := launch0.env 0 0 0
theorem w_frames : about1.frames = Frame.invoking theMethod args0 :: below0 := rfl
set_option maxRecDepth 65536 in
theorem w_args : argsFit about1.vm theMethod args0 = true := by decide +kernel
set_option maxRecDepth 65536 in
theorem w_heap : heapFits about1 = true := by decide +kernel
set_option maxRecDepth 65536 in
theorem w_runnable : about1.curStatus? = some .runnable := by decide +kernel
set_option maxRecDepth 65536 in
theorem w_alone : about1.alone = true := by decide +kernel
set_option maxRecDepth 65536 in
theorem w_named : about1.methodNamed? x = some theMethod := by decide +kernel
set_option maxRecDepth 65536 in
theorem w_hears : about1.hears theMethod below0 = true := by decide +kernel
set_option maxRecDepth 65536 in
theorem w_ripe : about1.ripe theMethod args0 below0 = true := by decide +kernel
theorem w_running : about1.status = .running := rfl
set_option maxRecDepth 65536 in
theorem w_room : about1.hasRoom e0.platform room_1 = true :=
  launch0.hasRoom_least _ room_1 (by decide +kernel) (by decide +kernel) (by decide +kernel) (by decide +kernel) (by decide +kernel) (by decide +kernel)
theorem allAtoms_all (ts : List Jvm.Cond) (a : Array Jvm.Value) (st : Jvm.State) : (allAtoms ts).before a st = ts.all (fun c => c.before a st) := by
  induction ts with
  | nil => rfl
  | cons c t ih =>
    show (Jvm.Cond.and c (allAtoms t)).before a st = _
    rw [Jvm.Cond.before_and, ih, List.all_cons]
def words1 : List Jvm.Cond := Jvm.Cond.code x code maxLocals ret :: tables_1
/-- a 'code' word, met by the world's own term for the bytes: nothing is compared byte by byte -/
theorem code_word {y : MethodName} {bytes : ByteArray} {mx : Nat} {rt : Option FieldType} {a : Array Value} {s : State} {m : MethodId} {meth : Method} {c : Code} (h1 : s.methodNamed? y = some m) (h2 : s.vm.method? m = some meth) (h3 : meth.code = some c) (h4 : c.code = bytes)
    (h5 : (c.maxLocals == mx && c.exceptionTable.isEmpty && decide (c.maxStack ≤ mostOperands) && decide (meth.sig.returnType = rt) && !meth.locks && decide (parseMethodDescriptor y.desc = some meth.sig)) = true) : (Jvm.Cond.code y bytes mx rt).before a s = true := by
  simp only [Bool.and_eq_true, beq_iff_eq, Bool.not_eq_true', decide_eq_true_eq] at h5
  obtain ⟨⟨⟨⟨⟨g1, g2⟩, g3⟩, g4⟩, g5⟩, g6⟩ := h5
  simp [Cond.before, Cond.holds, Cond.value, h1, h2, h3, h4, g1, g2, g3, g4, g5, g6]
def isCode : Jvm.Cond → Bool
  | .code _ _ _ _ => true
  | _ => false
theorem all_split {L : List Jvm.Cond} {P : Jvm.Cond → Bool} (h1 : L.all (fun c => isCode c || P c) = true) (h2 : ∀ c ∈ L.filter isCode, P c = true) : L.all P = true := by
  refine List.all_eq_true.mpr fun c hc => ?_
  have h := List.all_eq_true.mp h1 c hc
  rcases Bool.eq_false_or_eq_true (isCode c) with hi | hi
  · exact h2 c (List.mem_filter.mpr ⟨hc, hi⟩)
  · simpa [hi] using h
set_option maxRecDepth 65536 in
theorem w_c0 : (Jvm.Cond.code x code maxLocals ret).before args0 about1 = true := code_word (m := ⟨1, 4⟩) (meth := k1m4) (c := k1c4) (by decide +kernel) rfl rfl rfl (by decide +kernel)
set_option maxRecDepth 65536 in
theorem w_c1 : (Jvm.Cond.code ({ cls := "com/example/homing_pigeon/homingpigeon/NCName", name := "isNameStartChar", desc := "(I)Z" } : Jvm.MethodName) prog_22_method_3_code (1 : Nat) (Option.some Jvm.ClassFile.FieldType.boolean)).before args0 about1 = true := code_word (m := ⟨2, 1⟩) (meth := k2m1) (c := k2c1) (by decide +kernel) rfl rfl rfl (by decide +kernel)
set_option maxRecDepth 65536 in
theorem w_c2 : (Jvm.Cond.code ({ cls := "com/example/homing_pigeon/homingpigeon/NCNameIsNameStartCharPinLaw", name := "ref", desc := "(I)Z" } : Jvm.MethodName) method_4_code (1 : Nat) (Option.some Jvm.ClassFile.FieldType.boolean)).before args0 about1 = true := code_word (m := ⟨1, 3⟩) (meth := k1m3) (c := k1c3) (by decide +kernel) rfl rfl rfl (by decide +kernel)
set_option maxRecDepth 65536 in
theorem w_c3 : (Jvm.Cond.code ({ cls := "com/example/homing_pigeon/homingpigeon/NCNameIsNameStartCharPinLaw", name := "inGap", desc := "(I)Z" } : Jvm.MethodName) method_3_code (1 : Nat) (Option.some Jvm.ClassFile.FieldType.boolean)).before args0 about1 = true := code_word (m := ⟨1, 2⟩) (meth := k1m2) (c := k1c2) (by decide +kernel) rfl rfl rfl (by decide +kernel)
set_option maxRecDepth 65536 in
theorem w_c4 : (Jvm.Cond.code ({ cls := "com/example/homing_pigeon/homingpigeon/NCNameIsNameStartCharPinLaw", name := "in", desc := "(III)Z" } : Jvm.MethodName) method_2_code (3 : Nat) (Option.some Jvm.ClassFile.FieldType.boolean)).before args0 about1 = true := code_word (m := ⟨1, 1⟩) (meth := k1m1) (c := k1c1) (by decide +kernel) rfl rfl rfl (by decide +kernel)
def codes1 : List Jvm.Cond := [Jvm.Cond.code x code maxLocals ret, Jvm.Cond.code ({ cls := "com/example/homing_pigeon/homingpigeon/NCName", name := "isNameStartChar", desc := "(I)Z" } : Jvm.MethodName) prog_22_method_3_code (1 : Nat) (Option.some Jvm.ClassFile.FieldType.boolean), Jvm.Cond.code ({ cls := "com/example/homing_pigeon/homingpigeon/NCNameIsNameStartCharPinLaw", name := "ref", desc := "(I)Z" } : Jvm.MethodName) method_4_code (1 : Nat) (Option.some Jvm.ClassFile.FieldType.boolean), Jvm.Cond.code ({ cls := "com/example/homing_pigeon/homingpigeon/NCNameIsNameStartCharPinLaw", name := "inGap", desc := "(I)Z" } : Jvm.MethodName) method_3_code (1 : Nat) (Option.some Jvm.ClassFile.FieldType.boolean), Jvm.Cond.code ({ cls := "com/example/homing_pigeon/homingpigeon/NCNameIsNameStartCharPinLaw", name := "in", desc := "(III)Z" } : Jvm.MethodName) method_2_code (3 : Nat) (Option.some Jvm.ClassFile.FieldType.boolean)]
set_option maxRecDepth 65536 in
theorem codes_eq : words1.filter isCode = codes1 := rfl
theorem w_codes : ∀ c ∈ words1.filter isCode, c.before args0 about1 = true := by
  rw [codes_eq]
  intro c hc
  simp only [codes1, List.mem_cons, List.not_mem_nil, or_false] at hc
  rcases hc with rfl | rfl | rfl | rfl | rfl
  · exact w_c0
  · exact w_c1
  · exact w_c2
  · exact w_c3
  · exact w_c4
set_option maxRecDepth 65536 in
theorem w_t1 : (words1.take 24).all (fun c => isCode c || c.before args0 about1) = true := by decide +kernel
set_option maxRecDepth 65536 in
theorem w_t2 : (words1.drop 24).all (fun c => isCode c || c.before args0 about1) = true := by decide +kernel
theorem w_tables : (allAtoms (Jvm.Cond.code x code maxLocals ret :: tables_1)).before args0 about1 = true := by
  rw [allAtoms_all]
  show words1.all (fun c => c.before args0 about1) = true
  refine all_split ?_ w_codes
  rw [← List.take_append_drop 24 words1, List.all_append, w_t1, w_t2]
  rfl
set_option maxRecDepth 65536 in
theorem w_case : (Jvm.Cond.and given_1 narrow_1).before args0 about1 = true := by decide +kernel
theorem w_applies : (headSpec (Jvm.Cond.code x code maxLocals ret :: tables_1) room_1).applies x e0.platform about1 = true :=
  (Spec.applies_iff w_frames).mpr ⟨w_running, w_runnable, w_alone, w_named, w_hears, w_ripe, w_room, w_tables⟩
theorem atStart : AtStart classFile x code maxLocals ret World_1 tables_1 room_1 Calls_1 rest_1 Pre_1 launch0 p0 e0 about1 theMethod args0 below0 :=
  ⟨lists_1, trivial, launch0.admits_env _ _ _, launch0.least_env, fairChoices_fair.cas, fairChoices_fair.clock, w_frames, w_args, w_heap, w_applies, trivial, trivial, w_case⟩
end start1
theorem witness_1 : WitnessClaimed_1 := ⟨start1.p0, start1.e0, start1.about1, start1.theMethod, start1.args0, start1.below0, start1.atStart⟩
end Jvm.Pilot.@@N@@
