import JvmDerived
import JvmDerived.Pilot.@@N@@Statement
import JvmDerived.Pilot.@@N@@Code
set_option linter.unusedVariables false
set_option linter.unusedSimpArgs false
namespace Jvm.RoadKit
open Sem ClassFile Op Lib Jvm.Stand Jvm.Free Jvm.LawKit
section New
variable {p : Program} {l : Launch} {e : Env} {R : Room} {s : State} {m : MethodId} {args : Array Value} {below : List Frame} {meth : Method} {c : Code} {T : State} {locs : List Loc} {cells slots : Nat}
theorem retI (X : Stand p l e R s m args below meth c T locs cells slots) (hx : p.tables.exec = Jvm.exec) {pc : Nat} {Ls : Array Slot} {z : Int32} {rest : List Value} (hret : meth.sig.returnType = some .int) (hd : decode c.code pc = .ok (.ireturn, 1)) {fs : List Frame}
    (hl : ∀ (f : JFrame) (acts : List Action), f.method = m → f.locked = none → f.entered = [] → (doReturn e (T.setTop f) acts (some (.int z))).1 = T.setFrames fs) : Steps p.tables e below (T.setTop (mkF m pc Ls (.int z :: rest))) (T.setFrames fs) := by
  have hm' : T.vm.method? m = some meth := X.method'
  have hn : narrow .int (.int z) = .int z := rfl
  show Steps p.tables e below (T.setTop { method := m, pc := pc, locals := Ls, stack := _ :: rest, locked := none }) _
  jvm_step X.here [X.here.top, hx, hd, hm', hret, hn]
  first | (intro acts; rw [hl _ acts rfl rfl rfl]) | rw [hl _ _ rfl rfl rfl]
  exact Steps.refl _
end New
end Jvm.RoadKit
namespace Jvm.Pilot.@@N@@
open Jvm Jvm.ClassFile Sem Op Lib Jvm.Free Jvm.Stand Jvm.LawKit Jvm.RoadKit Bundle Jvm.Pilot.@@N@@.Jvm.D
theorem d3_0 : decode method_2_code 0 = .ok (.iload_n 0, 1) := by decide +kernel
theorem d3_1 : decode method_2_code 1 = .ok (.iload_n 1, 1) := by decide +kernel
theorem d3_2 : decode method_2_code 2 = .ok (.if_icmp .lt 12, 3) := by decide +kernel
theorem d3_5 : decode method_2_code 5 = .ok (.iload_n 0, 1) := by decide +kernel
theorem d3_6 : decode method_2_code 6 = .ok (.iload_n 2, 1) := by decide +kernel
theorem d3_7 : decode method_2_code 7 = .ok (.if_icmp .gt 7, 3) := by decide +kernel
theorem d3_10 : decode method_2_code 10 = .ok (.iconst 1, 1) := by decide +kernel
theorem d3_11 : decode method_2_code 11 = .ok (.goto 4, 3) := by decide +kernel
theorem d3_14 : decode method_2_code 14 = .ok (.iconst 0, 1) := by decide +kernel
theorem d3_15 : decode method_2_code 15 = .ok (.ireturn, 1) := by decide +kernel
theorem pn_3 : plainName "com/example/postil/postil/rdf/NameCharactersIsStartPinLaw" = true := by first | (simp [plainName, overriddenIn]; done) | decide +kernel
theorem ef_3 (m : MethodId) (P0 : Int32) (P1 : Int32) (P2 : Int32) : entryFrame m #[(.int P0), (.int P1), (.int P2)] 3 = mkF m 0 #[.val (.int P0), .val (.int P1), .val (.int P2)] [] := by first | (simp [entryFrame, mkF, argsToLocals, Value.category]; done) | rfl
def Q3 (Z : State) (P0 : Int32) (P1 : Int32) (P2 : Int32) (h0 : Heap) (n0 : Nat) (v : Option Value) (h : Heap) (L : List Loc) : Prop := (v = some (.int (if (¬ (P0 < P1) ∧ ¬ (P2 < P0)) then (1 : Int32) else (0 : Int32)))) ∧ (Fr n0 L) ∧ (h = h0)
set_option maxRecDepth 65536 in
set_option maxHeartbeats 40000000 in
theorem rm3 (l : Launch) (Z : State) (a0 : Array Value) (hw : ∀ d ∈ tables_1, d.before a0 Z = true) (ws : List Jvm.Cond) (P0 : Int32) (P1 : Int32) (P2 : Int32) (h0 : Heap) (n0 : Nat) (Z0 : n0 ≤ h0.size) :
    MetFree l (⟨"com/example/postil/postil/rdf/NameCharactersIsStartPinLaw", "in", "(III)Z"⟩ : MethodName) (head1 (Jvm.Cond.code (⟨"com/example/postil/postil/rdf/NameCharactersIsStartPinLaw", "in", "(III)Z"⟩ : MethodName) method_2_code 3 (some .boolean) :: ws) ({ frames := 0, cells := 0, slots := 0, locals := 0 } : Room)) (fun a U => a = #[(.int P0), (.int P1), (.int P2)] ∧ Z.Warmed39 U.vm ∧ U.heap = h0) (fun _ _ _ _ _ => True) (fun _ U o U' => ∃ v L, o = .returned v ∧ Q3 Z P0 P1 P2 h0 n0 v U'.heap L ∧ FrameEnd U o U' L ({ frames := 0, cells := 0, slots := 0, locals := 0 } : Room).cells ({ frames := 0, cells := 0, slots := 0, locals := 0 } : Room).slots) := by
  refine MetFree.of_bodySF (plainFor_of_name pn_3) hisR ?_
  intro p e s m args below meth c s₁ Bd hml0 hP hK
  obtain ⟨rfl, hZ, hh⟩ := hP
  have hx := Bd.exec
  have hby := Bd.bytes
  have hml : c.maxLocals = 3 := hml0
  have hown : s.vm.findClass "com/example/postil/postil/rdf/NameCharactersIsStartPinLaw" = some m.cls := findClass_of_methodNamed Bd.named
  have hnm := (name_of_methodNamed Bd.named Bd.method).1
  have X0 : Stand p l e ({ frames := 0, cells := 0, slots := 0, locals := 0 } : Room) s m #[(.int P0), (.int P1), (.int P2)] below meth c s₁ [] 0 0 := Stand.of_body Bd
  have e0 : s₁.heap = h0 := by rw [← hh, Bd.state]; rfl
  have N0 := Fr.nil n0
  have pre0 : ∀ t, Steps p.tables e below (s₁.setTop (mkF m 0 #[.val (.int P0), .val (.int P1), .val (.int P2)] [])) t → Steps p.tables e below (s₁.setTop (entryFrame m #[(.int P0), (.int P1), (.int P2)] 3)) t := fun t k => castTop (ef_3 m P0 P1 P2) k
  have pre101 : ∀ t, Steps p.tables e below (s₁.setTop (mkF m 2 #[.val (.int P0), .val (.int P1), .val (.int P2)] [(.int P1), (.int P0)])) t → Steps p.tables e below (s₁.setTop (entryFrame m #[(.int P0), (.int P1), (.int P2)] 3)) t := fun t kt => pre0 t (by
      show Steps p.tables e below (s₁.setTop (mkF m 0 #[.val (.int P0), .val (.int P1), .val (.int P2)] [])) _
      refine XS.iloadN X0.here hx rfl (hb hby d3_0) rfl ?_
      show Steps p.tables e below (s₁.setTop (mkF m 1 #[.val (.int P0), .val (.int P1), .val (.int P2)] [(.int P0)])) _
      refine XS.iloadN X0.here hx rfl (hb hby d3_1) rfl ?_
      exact kt)
  by_cases hc2 : P0 < P1
  · have pre102 : ∀ t, Steps p.tables e below (s₁.setTop (mkF m 15 #[.val (.int P0), .val (.int P1), .val (.int P2)] [(.int (0 : Int32))])) t → Steps p.tables e below (s₁.setTop (entryFrame m #[(.int P0), (.int P1), (.int P2)] 3)) t := fun t kt => pre101 t (by
        show Steps p.tables e below (s₁.setTop (mkF m 2 #[.val (.int P0), .val (.int P1), .val (.int P2)] [(.int P1), (.int P0)])) _
        refine XS.icmpYes X0.here hx rfl (pc0 := 2) (pc' := 14) rfl (hb hby d3_2) rfl (tlt hc2).1 (by decide) (by decide) ?_
        show Steps p.tables e below (s₁.setTop (mkF m 14 #[.val (.int P0), .val (.int P1), .val (.int P2)] [])) _
        refine XS.iconst X0.here hx rfl (hb hby d3_14) ?_
        exact kt)
    obtain ⟨fs, hr, hrun, hended, hW, hsame⟩ := X0.leave (v := some (.int (0 : Int32))) (fun h => by rw [Bd.returns] at h; cases h)
    refine ⟨_, _, pre102 _ ?_, hrun, hended, _, _, rfl, ?_, ⟨_, rfl⟩, hW, hsame.mono (by decide) (by decide)⟩
    · show Steps p.tables e below (s₁.setTop (mkF m 15 #[.val (.int P0), .val (.int P1), .val (.int P2)] [(.int (0 : Int32))])) _
      exact retN X0 hx (t := .boolean) Bd.returns (by simp) (hb hby d3_15) hr
    · show Q3 Z P0 P1 P2 h0 n0 _ s₁.heap _
      rw [e0]
      exact ⟨(congrArg (fun z => some (Value.int z)) (show (0 : Int32) = (if (¬ (P0 < P1) ∧ ¬ (P2 < P0)) then (1 : Int32) else (0 : Int32)) from by simp [hc2])), N0, rfl⟩
  · have pre103 : ∀ t, Steps p.tables e below (s₁.setTop (mkF m 7 #[.val (.int P0), .val (.int P1), .val (.int P2)] [(.int P2), (.int P0)])) t → Steps p.tables e below (s₁.setTop (entryFrame m #[(.int P0), (.int P1), (.int P2)] 3)) t := fun t kt => pre101 t (by
        show Steps p.tables e below (s₁.setTop (mkF m 2 #[.val (.int P0), .val (.int P1), .val (.int P2)] [(.int P1), (.int P0)])) _
        refine XS.icmpNo X0.here hx rfl (hb hby d3_2) rfl (flt hc2).1 ?_
        show Steps p.tables e below (s₁.setTop (mkF m 5 #[.val (.int P0), .val (.int P1), .val (.int P2)] [])) _
        refine XS.iloadN X0.here hx rfl (hb hby d3_5) rfl ?_
        show Steps p.tables e below (s₁.setTop (mkF m 6 #[.val (.int P0), .val (.int P1), .val (.int P2)] [(.int P0)])) _
        refine XS.iloadN X0.here hx rfl (hb hby d3_6) rfl ?_
        exact kt)
    by_cases hc7 : P2 < P0
    · have pre104 : ∀ t, Steps p.tables e below (s₁.setTop (mkF m 15 #[.val (.int P0), .val (.int P1), .val (.int P2)] [(.int (0 : Int32))])) t → Steps p.tables e below (s₁.setTop (entryFrame m #[(.int P0), (.int P1), (.int P2)] 3)) t := fun t kt => pre103 t (by
          show Steps p.tables e below (s₁.setTop (mkF m 7 #[.val (.int P0), .val (.int P1), .val (.int P2)] [(.int P2), (.int P0)])) _
          refine XS.icmpYes X0.here hx rfl (pc0 := 7) (pc' := 14) rfl (hb hby d3_7) rfl (tlt hc7).2.2.1 (by decide) (by decide) ?_
          show Steps p.tables e below (s₁.setTop (mkF m 14 #[.val (.int P0), .val (.int P1), .val (.int P2)] [])) _
          refine XS.iconst X0.here hx rfl (hb hby d3_14) ?_
          exact kt)
      obtain ⟨fs, hr, hrun, hended, hW, hsame⟩ := X0.leave (v := some (.int (0 : Int32))) (fun h => by rw [Bd.returns] at h; cases h)
      refine ⟨_, _, pre104 _ ?_, hrun, hended, _, _, rfl, ?_, ⟨_, rfl⟩, hW, hsame.mono (by decide) (by decide)⟩
      · show Steps p.tables e below (s₁.setTop (mkF m 15 #[.val (.int P0), .val (.int P1), .val (.int P2)] [(.int (0 : Int32))])) _
        exact retN X0 hx (t := .boolean) Bd.returns (by simp) (hb hby d3_15) hr
      · show Q3 Z P0 P1 P2 h0 n0 _ s₁.heap _
        rw [e0]
        exact ⟨(congrArg (fun z => some (Value.int z)) (show (0 : Int32) = (if (¬ (P0 < P1) ∧ ¬ (P2 < P0)) then (1 : Int32) else (0 : Int32)) from by simp [hc2, hc7])), N0, rfl⟩
    · have pre105 : ∀ t, Steps p.tables e below (s₁.setTop (mkF m 15 #[.val (.int P0), .val (.int P1), .val (.int P2)] [(.int (1 : Int32))])) t → Steps p.tables e below (s₁.setTop (entryFrame m #[(.int P0), (.int P1), (.int P2)] 3)) t := fun t kt => pre103 t (by
          show Steps p.tables e below (s₁.setTop (mkF m 7 #[.val (.int P0), .val (.int P1), .val (.int P2)] [(.int P2), (.int P0)])) _
          refine XS.icmpNo X0.here hx rfl (hb hby d3_7) rfl (flt hc7).2.2.1 ?_
          show Steps p.tables e below (s₁.setTop (mkF m 10 #[.val (.int P0), .val (.int P1), .val (.int P2)] [])) _
          refine XS.iconst X0.here hx rfl (hb hby d3_10) ?_
          show Steps p.tables e below (s₁.setTop (mkF m 11 #[.val (.int P0), .val (.int P1), .val (.int P2)] [(.int (1 : Int32))])) _
          refine XS.goto X0.here hx rfl (pc0 := 11) (pc' := 15) rfl (hb hby d3_11) (by decide) (by decide) ?_
          exact kt)
      obtain ⟨fs, hr, hrun, hended, hW, hsame⟩ := X0.leave (v := some (.int (1 : Int32))) (fun h => by rw [Bd.returns] at h; cases h)
      refine ⟨_, _, pre105 _ ?_, hrun, hended, _, _, rfl, ?_, ⟨_, rfl⟩, hW, hsame.mono (by decide) (by decide)⟩
      · show Steps p.tables e below (s₁.setTop (mkF m 15 #[.val (.int P0), .val (.int P1), .val (.int P2)] [(.int (1 : Int32))])) _
        exact retN X0 hx (t := .boolean) Bd.returns (by simp) (hb hby d3_15) hr
      · show Q3 Z P0 P1 P2 h0 n0 _ s₁.heap _
        rw [e0]
        exact ⟨(congrArg (fun z => some (Value.int z)) (show (1 : Int32) = (if (¬ (P0 < P1) ∧ ¬ (P2 < P0)) then (1 : Int32) else (0 : Int32)) from by simp [hc2, hc7])), N0, rfl⟩
theorem d1_0 : decode prog_162_method_3_code 0 = .ok (.iload_n 0, 1) := by decide +kernel
theorem d1_1 : decode prog_162_method_3_code 1 = .ok (.bipush 97, 2) := by decide +kernel
theorem d1_3 : decode prog_162_method_3_code 3 = .ok (.if_icmp .lt 9, 3) := by decide +kernel
theorem d1_6 : decode prog_162_method_3_code 6 = .ok (.iload_n 0, 1) := by decide +kernel
theorem d1_7 : decode prog_162_method_3_code 7 = .ok (.bipush 122, 2) := by decide +kernel
theorem d1_9 : decode prog_162_method_3_code 9 = .ok (.if_icmp .le 182, 3) := by decide +kernel
theorem d1_12 : decode prog_162_method_3_code 12 = .ok (.iload_n 0, 1) := by decide +kernel
theorem d1_13 : decode prog_162_method_3_code 13 = .ok (.bipush 65, 2) := by decide +kernel
theorem d1_15 : decode prog_162_method_3_code 15 = .ok (.if_icmp .lt 9, 3) := by decide +kernel
theorem d1_18 : decode prog_162_method_3_code 18 = .ok (.iload_n 0, 1) := by decide +kernel
theorem d1_19 : decode prog_162_method_3_code 19 = .ok (.bipush 90, 2) := by decide +kernel
theorem d1_21 : decode prog_162_method_3_code 21 = .ok (.if_icmp .le 170, 3) := by decide +kernel
theorem d1_24 : decode prog_162_method_3_code 24 = .ok (.iload_n 0, 1) := by decide +kernel
theorem d1_25 : decode prog_162_method_3_code 25 = .ok (.bipush 95, 2) := by decide +kernel
theorem d1_27 : decode prog_162_method_3_code 27 = .ok (.if_icmp .eq 164, 3) := by decide +kernel
theorem d1_30 : decode prog_162_method_3_code 30 = .ok (.iload_n 0, 1) := by decide +kernel
theorem d1_31 : decode prog_162_method_3_code 31 = .ok (.sipush 192, 3) := by decide +kernel
theorem d1_34 : decode prog_162_method_3_code 34 = .ok (.if_icmp .lt 10, 3) := by decide +kernel
theorem d1_37 : decode prog_162_method_3_code 37 = .ok (.iload_n 0, 1) := by decide +kernel
theorem d1_38 : decode prog_162_method_3_code 38 = .ok (.sipush 214, 3) := by decide +kernel
theorem d1_41 : decode prog_162_method_3_code 41 = .ok (.if_icmp .le 150, 3) := by decide +kernel
theorem d1_44 : decode prog_162_method_3_code 44 = .ok (.iload_n 0, 1) := by decide +kernel
theorem d1_45 : decode prog_162_method_3_code 45 = .ok (.sipush 216, 3) := by decide +kernel
theorem d1_48 : decode prog_162_method_3_code 48 = .ok (.if_icmp .lt 10, 3) := by decide +kernel
theorem d1_51 : decode prog_162_method_3_code 51 = .ok (.iload_n 0, 1) := by decide +kernel
theorem d1_52 : decode prog_162_method_3_code 52 = .ok (.sipush 246, 3) := by decide +kernel
theorem d1_55 : decode prog_162_method_3_code 55 = .ok (.if_icmp .le 136, 3) := by decide +kernel
theorem d1_58 : decode prog_162_method_3_code 58 = .ok (.iload_n 0, 1) := by decide +kernel
theorem d1_59 : decode prog_162_method_3_code 59 = .ok (.sipush 248, 3) := by decide +kernel
theorem d1_62 : decode prog_162_method_3_code 62 = .ok (.if_icmp .lt 10, 3) := by decide +kernel
theorem d1_65 : decode prog_162_method_3_code 65 = .ok (.iload_n 0, 1) := by decide +kernel
theorem d1_66 : decode prog_162_method_3_code 66 = .ok (.sipush 767, 3) := by decide +kernel
theorem d1_69 : decode prog_162_method_3_code 69 = .ok (.if_icmp .le 122, 3) := by decide +kernel
theorem d1_72 : decode prog_162_method_3_code 72 = .ok (.iload_n 0, 1) := by decide +kernel
theorem d1_73 : decode prog_162_method_3_code 73 = .ok (.sipush 880, 3) := by decide +kernel
theorem d1_76 : decode prog_162_method_3_code 76 = .ok (.if_icmp .lt 10, 3) := by decide +kernel
theorem d1_79 : decode prog_162_method_3_code 79 = .ok (.iload_n 0, 1) := by decide +kernel
theorem d1_80 : decode prog_162_method_3_code 80 = .ok (.sipush 893, 3) := by decide +kernel
theorem d1_83 : decode prog_162_method_3_code 83 = .ok (.if_icmp .le 108, 3) := by decide +kernel
theorem d1_86 : decode prog_162_method_3_code 86 = .ok (.iload_n 0, 1) := by decide +kernel
theorem d1_87 : decode prog_162_method_3_code 87 = .ok (.sipush 895, 3) := by decide +kernel
theorem d1_90 : decode prog_162_method_3_code 90 = .ok (.if_icmp .lt 10, 3) := by decide +kernel
theorem d1_93 : decode prog_162_method_3_code 93 = .ok (.iload_n 0, 1) := by decide +kernel
theorem d1_94 : decode prog_162_method_3_code 94 = .ok (.sipush 8191, 3) := by decide +kernel
theorem d1_97 : decode prog_162_method_3_code 97 = .ok (.if_icmp .le 94, 3) := by decide +kernel
theorem d1_100 : decode prog_162_method_3_code 100 = .ok (.iload_n 0, 1) := by decide +kernel
theorem d1_101 : decode prog_162_method_3_code 101 = .ok (.sipush 8204, 3) := by decide +kernel
theorem d1_104 : decode prog_162_method_3_code 104 = .ok (.if_icmp .lt 10, 3) := by decide +kernel
theorem d1_107 : decode prog_162_method_3_code 107 = .ok (.iload_n 0, 1) := by decide +kernel
theorem d1_108 : decode prog_162_method_3_code 108 = .ok (.sipush 8205, 3) := by decide +kernel
theorem d1_111 : decode prog_162_method_3_code 111 = .ok (.if_icmp .le 80, 3) := by decide +kernel
theorem d1_114 : decode prog_162_method_3_code 114 = .ok (.iload_n 0, 1) := by decide +kernel
theorem d1_115 : decode prog_162_method_3_code 115 = .ok (.sipush 8304, 3) := by decide +kernel
theorem d1_118 : decode prog_162_method_3_code 118 = .ok (.if_icmp .lt 10, 3) := by decide +kernel
theorem d1_121 : decode prog_162_method_3_code 121 = .ok (.iload_n 0, 1) := by decide +kernel
theorem d1_122 : decode prog_162_method_3_code 122 = .ok (.sipush 8591, 3) := by decide +kernel
theorem d1_125 : decode prog_162_method_3_code 125 = .ok (.if_icmp .le 66, 3) := by decide +kernel
theorem d1_128 : decode prog_162_method_3_code 128 = .ok (.iload_n 0, 1) := by decide +kernel
theorem d1_129 : decode prog_162_method_3_code 129 = .ok (.sipush 11264, 3) := by decide +kernel
theorem d1_132 : decode prog_162_method_3_code 132 = .ok (.if_icmp .lt 10, 3) := by decide +kernel
theorem d1_135 : decode prog_162_method_3_code 135 = .ok (.iload_n 0, 1) := by decide +kernel
theorem d1_136 : decode prog_162_method_3_code 136 = .ok (.sipush 12271, 3) := by decide +kernel
theorem d1_139 : decode prog_162_method_3_code 139 = .ok (.if_icmp .le 52, 3) := by decide +kernel
theorem d1_142 : decode prog_162_method_3_code 142 = .ok (.iload_n 0, 1) := by decide +kernel
theorem d1_143 : decode prog_162_method_3_code 143 = .ok (.sipush 12289, 3) := by decide +kernel
theorem d1_146 : decode prog_162_method_3_code 146 = .ok (.if_icmp .lt 9, 3) := by decide +kernel
theorem d1_149 : decode prog_162_method_3_code 149 = .ok (.iload_n 0, 1) := by decide +kernel
theorem d1_150 : decode prog_162_method_3_code 150 = .ok (.ldc 39, 2) := by decide +kernel
theorem d1_152 : decode prog_162_method_3_code 152 = .ok (.if_icmp .le 39, 3) := by decide +kernel
theorem d1_155 : decode prog_162_method_3_code 155 = .ok (.iload_n 0, 1) := by decide +kernel
theorem d1_156 : decode prog_162_method_3_code 156 = .ok (.ldc 40, 2) := by decide +kernel
theorem d1_158 : decode prog_162_method_3_code 158 = .ok (.if_icmp .lt 9, 3) := by decide +kernel
theorem d1_161 : decode prog_162_method_3_code 161 = .ok (.iload_n 0, 1) := by decide +kernel
theorem d1_162 : decode prog_162_method_3_code 162 = .ok (.ldc 41, 2) := by decide +kernel
theorem d1_164 : decode prog_162_method_3_code 164 = .ok (.if_icmp .le 27, 3) := by decide +kernel
theorem d1_167 : decode prog_162_method_3_code 167 = .ok (.iload_n 0, 1) := by decide +kernel
theorem d1_168 : decode prog_162_method_3_code 168 = .ok (.ldc 42, 2) := by decide +kernel
theorem d1_170 : decode prog_162_method_3_code 170 = .ok (.if_icmp .lt 9, 3) := by decide +kernel
theorem d1_173 : decode prog_162_method_3_code 173 = .ok (.iload_n 0, 1) := by decide +kernel
theorem d1_174 : decode prog_162_method_3_code 174 = .ok (.ldc 43, 2) := by decide +kernel
theorem d1_176 : decode prog_162_method_3_code 176 = .ok (.if_icmp .le 15, 3) := by decide +kernel
theorem d1_179 : decode prog_162_method_3_code 179 = .ok (.iload_n 0, 1) := by decide +kernel
theorem d1_180 : decode prog_162_method_3_code 180 = .ok (.ldc 44, 2) := by decide +kernel
theorem d1_182 : decode prog_162_method_3_code 182 = .ok (.if_icmp .lt 13, 3) := by decide +kernel
theorem d1_185 : decode prog_162_method_3_code 185 = .ok (.iload_n 0, 1) := by decide +kernel
theorem d1_186 : decode prog_162_method_3_code 186 = .ok (.ldc 45, 2) := by decide +kernel
theorem d1_188 : decode prog_162_method_3_code 188 = .ok (.if_icmp .gt 7, 3) := by decide +kernel
theorem d1_191 : decode prog_162_method_3_code 191 = .ok (.iconst 1, 1) := by decide +kernel
theorem d1_192 : decode prog_162_method_3_code 192 = .ok (.goto 4, 3) := by decide +kernel
theorem d1_195 : decode prog_162_method_3_code 195 = .ok (.iconst 0, 1) := by decide +kernel
theorem d1_196 : decode prog_162_method_3_code 196 = .ok (.ireturn, 1) := by decide +kernel
theorem pn_1 : plainName "com/example/postil/postil/rdf/NameCharacters" = true := by first | (simp [plainName, overriddenIn]; done) | decide +kernel
theorem ef_1 (m : MethodId) (P0 : Int32) : entryFrame m #[(.int P0)] 1 = mkF m 0 #[.val (.int P0)] [] := by first | (simp [entryFrame, mkF, argsToLocals, Value.category]; done) | rfl
def tf1_195 (P0 : Int32) : Int32 := (0 : Int32)
set_option maxRecDepth 65536 in
set_option maxHeartbeats 40000000 in
theorem tl1_195 {p : Program} {l : Launch} {e : Env} {s : State} {m : MethodId} {args : Array Value} {below : List Frame} {meth : Method} {c : Code} {T0 : State} {locs : List Loc} {Z : State} {a0 : Array Value} {h0 : Heap} {n0 : Nat} (P0 : Int32)
    (X0 : Stand p l e ({ frames := 0, cells := 0, slots := 0, locals := 0 } : Room) s m args below meth c T0 locs 0 0) (hx : p.tables.exec = Jvm.exec) (hZ : Z.Warmed39 s.vm) (hw : ∀ d ∈ tables_1, d.before a0 Z = true) (hby : c.code = prog_162_method_3_code) (hml : c.maxLocals = 1) (hown : s.vm.findClass "com/example/postil/postil/rdf/NameCharacters" = some m.cls) (e0 : T0.heap = h0) (N0 : Fr n0 locs) (Z0 : n0 ≤ h0.size) :
    ∃ (T' : State) (pc' : Nat) (L' : Array Slot) (locs' : List Loc), Stand p l e ({ frames := 0, cells := 0, slots := 0, locals := 0 } : Room) s m args below meth c T' locs' 0 0 ∧ Fr n0 locs' ∧ T'.heap = h0 ∧ decode c.code pc' = .ok (.ireturn, 1) ∧ ∀ t, Steps p.tables e below (T'.setTop (mkF m pc' L' [.int (tf1_195 P0)])) t → Steps p.tables e below (T0.setTop (mkF m 195 #[.val (.int P0)] [])) t := by
  have pre0 : ∀ t, Steps p.tables e below (T0.setTop (mkF m 195 #[.val (.int P0)] [])) t → Steps p.tables e below (T0.setTop (mkF m 195 #[.val (.int P0)] [])) t := fun t k => k
  have pre1001 : ∀ t, Steps p.tables e below (T0.setTop (mkF m 196 #[.val (.int P0)] [(.int (0 : Int32))])) t → Steps p.tables e below (T0.setTop (mkF m 195 #[.val (.int P0)] [])) t := fun t kt => pre0 t (by
      show Steps p.tables e below (T0.setTop (mkF m 195 #[.val (.int P0)] [])) _
      refine XS.iconst X0.here hx rfl (hb hby d1_195) ?_
      exact kt)
  have hv : tf1_195 P0 = (0 : Int32) := rfl
  rw [hv]
  exact ⟨T0, 196, _, _, X0, N0, e0, (hb hby d1_196), pre1001⟩
theorem tb1_195 (P0 : Int32) : tf1_195 P0 = 0 ∨ tf1_195 P0 = 1 := by
  unfold tf1_195
  (repeat' split) <;> first | exact Or.inl rfl | exact Or.inr rfl
def tf1_191 (P0 : Int32) : Int32 := (1 : Int32)
set_option maxRecDepth 65536 in
set_option maxHeartbeats 40000000 in
theorem tl1_191 {p : Program} {l : Launch} {e : Env} {s : State} {m : MethodId} {args : Array Value} {below : List Frame} {meth : Method} {c : Code} {T0 : State} {locs : List Loc} {Z : State} {a0 : Array Value} {h0 : Heap} {n0 : Nat} (P0 : Int32)
    (X0 : Stand p l e ({ frames := 0, cells := 0, slots := 0, locals := 0 } : Room) s m args below meth c T0 locs 0 0) (hx : p.tables.exec = Jvm.exec) (hZ : Z.Warmed39 s.vm) (hw : ∀ d ∈ tables_1, d.before a0 Z = true) (hby : c.code = prog_162_method_3_code) (hml : c.maxLocals = 1) (hown : s.vm.findClass "com/example/postil/postil/rdf/NameCharacters" = some m.cls) (e0 : T0.heap = h0) (N0 : Fr n0 locs) (Z0 : n0 ≤ h0.size) :
    ∃ (T' : State) (pc' : Nat) (L' : Array Slot) (locs' : List Loc), Stand p l e ({ frames := 0, cells := 0, slots := 0, locals := 0 } : Room) s m args below meth c T' locs' 0 0 ∧ Fr n0 locs' ∧ T'.heap = h0 ∧ decode c.code pc' = .ok (.ireturn, 1) ∧ ∀ t, Steps p.tables e below (T'.setTop (mkF m pc' L' [.int (tf1_191 P0)])) t → Steps p.tables e below (T0.setTop (mkF m 191 #[.val (.int P0)] [])) t := by
  have pre0 : ∀ t, Steps p.tables e below (T0.setTop (mkF m 191 #[.val (.int P0)] [])) t → Steps p.tables e below (T0.setTop (mkF m 191 #[.val (.int P0)] [])) t := fun t k => k
  have pre2001 : ∀ t, Steps p.tables e below (T0.setTop (mkF m 196 #[.val (.int P0)] [(.int (1 : Int32))])) t → Steps p.tables e below (T0.setTop (mkF m 191 #[.val (.int P0)] [])) t := fun t kt => pre0 t (by
      show Steps p.tables e below (T0.setTop (mkF m 191 #[.val (.int P0)] [])) _
      refine XS.iconst X0.here hx rfl (hb hby d1_191) ?_
      show Steps p.tables e below (T0.setTop (mkF m 192 #[.val (.int P0)] [(.int (1 : Int32))])) _
      refine XS.goto X0.here hx rfl (pc0 := 192) (pc' := 196) rfl (hb hby d1_192) (by decide) (by decide) ?_
      exact kt)
  have hv : tf1_191 P0 = (1 : Int32) := rfl
  rw [hv]
  exact ⟨T0, 196, _, _, X0, N0, e0, (hb hby d1_196), pre2001⟩
theorem tb1_191 (P0 : Int32) : tf1_191 P0 = 0 ∨ tf1_191 P0 = 1 := by
  unfold tf1_191
  (repeat' split) <;> first | exact Or.inl rfl | exact Or.inr rfl | exact tb1_195 P0
def tf1_179 (P0 : Int32) : Int32 := (if P0 < (65536 : Int32) then tf1_195 P0 else (if (983039 : Int32) < P0 then tf1_195 P0 else tf1_191 P0))
set_option maxRecDepth 65536 in
set_option maxHeartbeats 40000000 in
theorem tl1_179 {p : Program} {l : Launch} {e : Env} {s : State} {m : MethodId} {args : Array Value} {below : List Frame} {meth : Method} {c : Code} {T0 : State} {locs : List Loc} {Z : State} {a0 : Array Value} {h0 : Heap} {n0 : Nat} (P0 : Int32)
    (X0 : Stand p l e ({ frames := 0, cells := 0, slots := 0, locals := 0 } : Room) s m args below meth c T0 locs 0 0) (hx : p.tables.exec = Jvm.exec) (hZ : Z.Warmed39 s.vm) (hw : ∀ d ∈ tables_1, d.before a0 Z = true) (hby : c.code = prog_162_method_3_code) (hml : c.maxLocals = 1) (hown : s.vm.findClass "com/example/postil/postil/rdf/NameCharacters" = some m.cls) (e0 : T0.heap = h0) (N0 : Fr n0 locs) (Z0 : n0 ≤ h0.size) :
    ∃ (T' : State) (pc' : Nat) (L' : Array Slot) (locs' : List Loc), Stand p l e ({ frames := 0, cells := 0, slots := 0, locals := 0 } : Room) s m args below meth c T' locs' 0 0 ∧ Fr n0 locs' ∧ T'.heap = h0 ∧ decode c.code pc' = .ok (.ireturn, 1) ∧ ∀ t, Steps p.tables e below (T'.setTop (mkF m pc' L' [.int (tf1_179 P0)])) t → Steps p.tables e below (T0.setTop (mkF m 179 #[.val (.int P0)] [])) t := by
  have pre0 : ∀ t, Steps p.tables e below (T0.setTop (mkF m 179 #[.val (.int P0)] [])) t → Steps p.tables e below (T0.setTop (mkF m 179 #[.val (.int P0)] [])) t := fun t k => k
  have pre3001 : ∀ t, Steps p.tables e below (T0.setTop (mkF m 182 #[.val (.int P0)] [(.int (65536 : Int32)), (.int P0)])) t → Steps p.tables e below (T0.setTop (mkF m 179 #[.val (.int P0)] [])) t := fun t kt => pre0 t (by
      show Steps p.tables e below (T0.setTop (mkF m 179 #[.val (.int P0)] [])) _
      refine XS.iloadN X0.here hx rfl (hb hby d1_179) rfl ?_
      show Steps p.tables e below (T0.setTop (mkF m 180 #[.val (.int P0)] [(.int P0)])) _
      refine X0.ldcInt hx hown (mvT hZ (hw _ (List.mem_of_getElem? (i := 7) rfl))) (g := (mkF m 180 #[.val (.int P0)] [(.int P0)])) rfl (hb hby d1_180) _ ?_
      exact kt)
  by_cases hc182 : P0 < (65536 : Int32)
  · have pre3002 : ∀ t, Steps p.tables e below (T0.setTop (mkF m 195 #[.val (.int P0)] [])) t → Steps p.tables e below (T0.setTop (mkF m 179 #[.val (.int P0)] [])) t := fun t kt => pre3001 t (by
        show Steps p.tables e below (T0.setTop (mkF m 182 #[.val (.int P0)] [(.int (65536 : Int32)), (.int P0)])) _
        refine XS.icmpYes X0.here hx rfl (pc0 := 182) (pc' := 195) rfl (hb hby d1_182) rfl (tlt hc182).1 (by decide) (by decide) ?_
        exact kt)
    obtain ⟨T3003, pc3003, L3003, lc3003, X3003, N3003, e3003, dc3003, st3003⟩ := tl1_195 P0 (a0 := a0) (Z := Z) X0 hx hZ hw hby hml hown e0 N0 Z0
    have hv : tf1_179 P0 = tf1_195 P0 := by unfold tf1_179; rw [if_pos hc182]
    rw [hv]
    exact ⟨T3003, pc3003, L3003, lc3003, X3003, N3003, e3003, dc3003, fun t kt => pre3002 t (st3003 t kt)⟩
  · have pre3004 : ∀ t, Steps p.tables e below (T0.setTop (mkF m 188 #[.val (.int P0)] [(.int (983039 : Int32)), (.int P0)])) t → Steps p.tables e below (T0.setTop (mkF m 179 #[.val (.int P0)] [])) t := fun t kt => pre3001 t (by
        show Steps p.tables e below (T0.setTop (mkF m 182 #[.val (.int P0)] [(.int (65536 : Int32)), (.int P0)])) _
        refine XS.icmpNo X0.here hx rfl (hb hby d1_182) rfl (flt hc182).1 ?_
        show Steps p.tables e below (T0.setTop (mkF m 185 #[.val (.int P0)] [])) _
        refine XS.iloadN X0.here hx rfl (hb hby d1_185) rfl ?_
        show Steps p.tables e below (T0.setTop (mkF m 186 #[.val (.int P0)] [(.int P0)])) _
        refine X0.ldcInt hx hown (mvT hZ (hw _ (List.mem_of_getElem? (i := 25) rfl))) (g := (mkF m 186 #[.val (.int P0)] [(.int P0)])) rfl (hb hby d1_186) _ ?_
        exact kt)
    by_cases hc188 : (983039 : Int32) < P0
    · have pre3005 : ∀ t, Steps p.tables e below (T0.setTop (mkF m 195 #[.val (.int P0)] [])) t → Steps p.tables e below (T0.setTop (mkF m 179 #[.val (.int P0)] [])) t := fun t kt => pre3004 t (by
          show Steps p.tables e below (T0.setTop (mkF m 188 #[.val (.int P0)] [(.int (983039 : Int32)), (.int P0)])) _
          refine XS.icmpYes X0.here hx rfl (pc0 := 188) (pc' := 195) rfl (hb hby d1_188) rfl (tlt hc188).2.2.1 (by decide) (by decide) ?_
          exact kt)
      obtain ⟨T3006, pc3006, L3006, lc3006, X3006, N3006, e3006, dc3006, st3006⟩ := tl1_195 P0 (a0 := a0) (Z := Z) X0 hx hZ hw hby hml hown e0 N0 Z0
      have hv : tf1_179 P0 = tf1_195 P0 := by unfold tf1_179; rw [if_neg hc182, if_pos hc188]
      rw [hv]
      exact ⟨T3006, pc3006, L3006, lc3006, X3006, N3006, e3006, dc3006, fun t kt => pre3005 t (st3006 t kt)⟩
    · have pre3007 : ∀ t, Steps p.tables e below (T0.setTop (mkF m 191 #[.val (.int P0)] [])) t → Steps p.tables e below (T0.setTop (mkF m 179 #[.val (.int P0)] [])) t := fun t kt => pre3004 t (by
          show Steps p.tables e below (T0.setTop (mkF m 188 #[.val (.int P0)] [(.int (983039 : Int32)), (.int P0)])) _
          refine XS.icmpNo X0.here hx rfl (hb hby d1_188) rfl (flt hc188).2.2.1 ?_
          exact kt)
      obtain ⟨T3008, pc3008, L3008, lc3008, X3008, N3008, e3008, dc3008, st3008⟩ := tl1_191 P0 (a0 := a0) (Z := Z) X0 hx hZ hw hby hml hown e0 N0 Z0
      have hv : tf1_179 P0 = tf1_191 P0 := by unfold tf1_179; rw [if_neg hc182, if_neg hc188]
      rw [hv]
      exact ⟨T3008, pc3008, L3008, lc3008, X3008, N3008, e3008, dc3008, fun t kt => pre3007 t (st3008 t kt)⟩
theorem tb1_179 (P0 : Int32) : tf1_179 P0 = 0 ∨ tf1_179 P0 = 1 := by
  unfold tf1_179
  (repeat' split) <;> first | exact Or.inl rfl | exact Or.inr rfl | exact tb1_191 P0 | exact tb1_195 P0
def tf1_167 (P0 : Int32) : Int32 := (if P0 < (65008 : Int32) then tf1_179 P0 else (if (65533 : Int32) < P0 then tf1_179 P0 else tf1_191 P0))
set_option maxRecDepth 65536 in
set_option maxHeartbeats 40000000 in
theorem tl1_167 {p : Program} {l : Launch} {e : Env} {s : State} {m : MethodId} {args : Array Value} {below : List Frame} {meth : Method} {c : Code} {T0 : State} {locs : List Loc} {Z : State} {a0 : Array Value} {h0 : Heap} {n0 : Nat} (P0 : Int32)
    (X0 : Stand p l e ({ frames := 0, cells := 0, slots := 0, locals := 0 } : Room) s m args below meth c T0 locs 0 0) (hx : p.tables.exec = Jvm.exec) (hZ : Z.Warmed39 s.vm) (hw : ∀ d ∈ tables_1, d.before a0 Z = true) (hby : c.code = prog_162_method_3_code) (hml : c.maxLocals = 1) (hown : s.vm.findClass "com/example/postil/postil/rdf/NameCharacters" = some m.cls) (e0 : T0.heap = h0) (N0 : Fr n0 locs) (Z0 : n0 ≤ h0.size) :
    ∃ (T' : State) (pc' : Nat) (L' : Array Slot) (locs' : List Loc), Stand p l e ({ frames := 0, cells := 0, slots := 0, locals := 0 } : Room) s m args below meth c T' locs' 0 0 ∧ Fr n0 locs' ∧ T'.heap = h0 ∧ decode c.code pc' = .ok (.ireturn, 1) ∧ ∀ t, Steps p.tables e below (T'.setTop (mkF m pc' L' [.int (tf1_167 P0)])) t → Steps p.tables e below (T0.setTop (mkF m 167 #[.val (.int P0)] [])) t := by
  have pre0 : ∀ t, Steps p.tables e below (T0.setTop (mkF m 167 #[.val (.int P0)] [])) t → Steps p.tables e below (T0.setTop (mkF m 167 #[.val (.int P0)] [])) t := fun t k => k
  have pre4001 : ∀ t, Steps p.tables e below (T0.setTop (mkF m 170 #[.val (.int P0)] [(.int (65008 : Int32)), (.int P0)])) t → Steps p.tables e below (T0.setTop (mkF m 167 #[.val (.int P0)] [])) t := fun t kt => pre0 t (by
      show Steps p.tables e below (T0.setTop (mkF m 167 #[.val (.int P0)] [])) _
      refine XS.iloadN X0.here hx rfl (hb hby d1_167) rfl ?_
      show Steps p.tables e below (T0.setTop (mkF m 168 #[.val (.int P0)] [(.int P0)])) _
      refine X0.ldcInt hx hown (mvT hZ (hw _ (List.mem_of_getElem? (i := 6) rfl))) (g := (mkF m 168 #[.val (.int P0)] [(.int P0)])) rfl (hb hby d1_168) _ ?_
      exact kt)
  by_cases hc170 : P0 < (65008 : Int32)
  · have pre4002 : ∀ t, Steps p.tables e below (T0.setTop (mkF m 179 #[.val (.int P0)] [])) t → Steps p.tables e below (T0.setTop (mkF m 167 #[.val (.int P0)] [])) t := fun t kt => pre4001 t (by
        show Steps p.tables e below (T0.setTop (mkF m 170 #[.val (.int P0)] [(.int (65008 : Int32)), (.int P0)])) _
        refine XS.icmpYes X0.here hx rfl (pc0 := 170) (pc' := 179) rfl (hb hby d1_170) rfl (tlt hc170).1 (by decide) (by decide) ?_
        exact kt)
    obtain ⟨T4003, pc4003, L4003, lc4003, X4003, N4003, e4003, dc4003, st4003⟩ := tl1_179 P0 (a0 := a0) (Z := Z) X0 hx hZ hw hby hml hown e0 N0 Z0
    have hv : tf1_167 P0 = tf1_179 P0 := by unfold tf1_167; rw [if_pos hc170]
    rw [hv]
    exact ⟨T4003, pc4003, L4003, lc4003, X4003, N4003, e4003, dc4003, fun t kt => pre4002 t (st4003 t kt)⟩
  · have pre4004 : ∀ t, Steps p.tables e below (T0.setTop (mkF m 176 #[.val (.int P0)] [(.int (65533 : Int32)), (.int P0)])) t → Steps p.tables e below (T0.setTop (mkF m 167 #[.val (.int P0)] [])) t := fun t kt => pre4001 t (by
        show Steps p.tables e below (T0.setTop (mkF m 170 #[.val (.int P0)] [(.int (65008 : Int32)), (.int P0)])) _
        refine XS.icmpNo X0.here hx rfl (hb hby d1_170) rfl (flt hc170).1 ?_
        show Steps p.tables e below (T0.setTop (mkF m 173 #[.val (.int P0)] [])) _
        refine XS.iloadN X0.here hx rfl (hb hby d1_173) rfl ?_
        show Steps p.tables e below (T0.setTop (mkF m 174 #[.val (.int P0)] [(.int P0)])) _
        refine X0.ldcInt hx hown (mvT hZ (hw _ (List.mem_of_getElem? (i := 24) rfl))) (g := (mkF m 174 #[.val (.int P0)] [(.int P0)])) rfl (hb hby d1_174) _ ?_
        exact kt)
    by_cases hc176 : (65533 : Int32) < P0
    · have pre4005 : ∀ t, Steps p.tables e below (T0.setTop (mkF m 179 #[.val (.int P0)] [])) t → Steps p.tables e below (T0.setTop (mkF m 167 #[.val (.int P0)] [])) t := fun t kt => pre4004 t (by
          show Steps p.tables e below (T0.setTop (mkF m 176 #[.val (.int P0)] [(.int (65533 : Int32)), (.int P0)])) _
          refine XS.icmpNo X0.here hx rfl (hb hby d1_176) rfl (tlt hc176).2.2.2 ?_
          exact kt)
      obtain ⟨T4006, pc4006, L4006, lc4006, X4006, N4006, e4006, dc4006, st4006⟩ := tl1_179 P0 (a0 := a0) (Z := Z) X0 hx hZ hw hby hml hown e0 N0 Z0
      have hv : tf1_167 P0 = tf1_179 P0 := by unfold tf1_167; rw [if_neg hc170, if_pos hc176]
      rw [hv]
      exact ⟨T4006, pc4006, L4006, lc4006, X4006, N4006, e4006, dc4006, fun t kt => pre4005 t (st4006 t kt)⟩
    · have pre4007 : ∀ t, Steps p.tables e below (T0.setTop (mkF m 191 #[.val (.int P0)] [])) t → Steps p.tables e below (T0.setTop (mkF m 167 #[.val (.int P0)] [])) t := fun t kt => pre4004 t (by
          show Steps p.tables e below (T0.setTop (mkF m 176 #[.val (.int P0)] [(.int (65533 : Int32)), (.int P0)])) _
          refine XS.icmpYes X0.here hx rfl (pc0 := 176) (pc' := 191) rfl (hb hby d1_176) rfl (flt hc176).2.2.2 (by decide) (by decide) ?_
          exact kt)
      obtain ⟨T4008, pc4008, L4008, lc4008, X4008, N4008, e4008, dc4008, st4008⟩ := tl1_191 P0 (a0 := a0) (Z := Z) X0 hx hZ hw hby hml hown e0 N0 Z0
      have hv : tf1_167 P0 = tf1_191 P0 := by unfold tf1_167; rw [if_neg hc170, if_neg hc176]
      rw [hv]
      exact ⟨T4008, pc4008, L4008, lc4008, X4008, N4008, e4008, dc4008, fun t kt => pre4007 t (st4008 t kt)⟩
theorem tb1_167 (P0 : Int32) : tf1_167 P0 = 0 ∨ tf1_167 P0 = 1 := by
  unfold tf1_167
  (repeat' split) <;> first | exact Or.inl rfl | exact Or.inr rfl | exact tb1_179 P0 | exact tb1_191 P0 | exact tb1_195 P0
def tf1_155 (P0 : Int32) : Int32 := (if P0 < (63744 : Int32) then tf1_167 P0 else (if (64975 : Int32) < P0 then tf1_167 P0 else tf1_191 P0))
set_option maxRecDepth 65536 in
set_option maxHeartbeats 40000000 in
theorem tl1_155 {p : Program} {l : Launch} {e : Env} {s : State} {m : MethodId} {args : Array Value} {below : List Frame} {meth : Method} {c : Code} {T0 : State} {locs : List Loc} {Z : State} {a0 : Array Value} {h0 : Heap} {n0 : Nat} (P0 : Int32)
    (X0 : Stand p l e ({ frames := 0, cells := 0, slots := 0, locals := 0 } : Room) s m args below meth c T0 locs 0 0) (hx : p.tables.exec = Jvm.exec) (hZ : Z.Warmed39 s.vm) (hw : ∀ d ∈ tables_1, d.before a0 Z = true) (hby : c.code = prog_162_method_3_code) (hml : c.maxLocals = 1) (hown : s.vm.findClass "com/example/postil/postil/rdf/NameCharacters" = some m.cls) (e0 : T0.heap = h0) (N0 : Fr n0 locs) (Z0 : n0 ≤ h0.size) :
    ∃ (T' : State) (pc' : Nat) (L' : Array Slot) (locs' : List Loc), Stand p l e ({ frames := 0, cells := 0, slots := 0, locals := 0 } : Room) s m args below meth c T' locs' 0 0 ∧ Fr n0 locs' ∧ T'.heap = h0 ∧ decode c.code pc' = .ok (.ireturn, 1) ∧ ∀ t, Steps p.tables e below (T'.setTop (mkF m pc' L' [.int (tf1_155 P0)])) t → Steps p.tables e below (T0.setTop (mkF m 155 #[.val (.int P0)] [])) t := by
  have pre0 : ∀ t, Steps p.tables e below (T0.setTop (mkF m 155 #[.val (.int P0)] [])) t → Steps p.tables e below (T0.setTop (mkF m 155 #[.val (.int P0)] [])) t := fun t k => k
  have pre5001 : ∀ t, Steps p.tables e below (T0.setTop (mkF m 158 #[.val (.int P0)] [(.int (63744 : Int32)), (.int P0)])) t → Steps p.tables e below (T0.setTop (mkF m 155 #[.val (.int P0)] [])) t := fun t kt => pre0 t (by
      show Steps p.tables e below (T0.setTop (mkF m 155 #[.val (.int P0)] [])) _
      refine XS.iloadN X0.here hx rfl (hb hby d1_155) rfl ?_
      show Steps p.tables e below (T0.setTop (mkF m 156 #[.val (.int P0)] [(.int P0)])) _
      refine X0.ldcInt hx hown (mvT hZ (hw _ (List.mem_of_getElem? (i := 5) rfl))) (g := (mkF m 156 #[.val (.int P0)] [(.int P0)])) rfl (hb hby d1_156) _ ?_
      exact kt)
  by_cases hc158 : P0 < (63744 : Int32)
  · have pre5002 : ∀ t, Steps p.tables e below (T0.setTop (mkF m 167 #[.val (.int P0)] [])) t → Steps p.tables e below (T0.setTop (mkF m 155 #[.val (.int P0)] [])) t := fun t kt => pre5001 t (by
        show Steps p.tables e below (T0.setTop (mkF m 158 #[.val (.int P0)] [(.int (63744 : Int32)), (.int P0)])) _
        refine XS.icmpYes X0.here hx rfl (pc0 := 158) (pc' := 167) rfl (hb hby d1_158) rfl (tlt hc158).1 (by decide) (by decide) ?_
        exact kt)
    obtain ⟨T5003, pc5003, L5003, lc5003, X5003, N5003, e5003, dc5003, st5003⟩ := tl1_167 P0 (a0 := a0) (Z := Z) X0 hx hZ hw hby hml hown e0 N0 Z0
    have hv : tf1_155 P0 = tf1_167 P0 := by unfold tf1_155; rw [if_pos hc158]
    rw [hv]
    exact ⟨T5003, pc5003, L5003, lc5003, X5003, N5003, e5003, dc5003, fun t kt => pre5002 t (st5003 t kt)⟩
  · have pre5004 : ∀ t, Steps p.tables e below (T0.setTop (mkF m 164 #[.val (.int P0)] [(.int (64975 : Int32)), (.int P0)])) t → Steps p.tables e below (T0.setTop (mkF m 155 #[.val (.int P0)] [])) t := fun t kt => pre5001 t (by
        show Steps p.tables e below (T0.setTop (mkF m 158 #[.val (.int P0)] [(.int (63744 : Int32)), (.int P0)])) _
        refine XS.icmpNo X0.here hx rfl (hb hby d1_158) rfl (flt hc158).1 ?_
        show Steps p.tables e below (T0.setTop (mkF m 161 #[.val (.int P0)] [])) _
        refine XS.iloadN X0.here hx rfl (hb hby d1_161) rfl ?_
        show Steps p.tables e below (T0.setTop (mkF m 162 #[.val (.int P0)] [(.int P0)])) _
        refine X0.ldcInt hx hown (mvT hZ (hw _ (List.mem_of_getElem? (i := 23) rfl))) (g := (mkF m 162 #[.val (.int P0)] [(.int P0)])) rfl (hb hby d1_162) _ ?_
        exact kt)
    by_cases hc164 : (64975 : Int32) < P0
    · have pre5005 : ∀ t, Steps p.tables e below (T0.setTop (mkF m 167 #[.val (.int P0)] [])) t → Steps p.tables e below (T0.setTop (mkF m 155 #[.val (.int P0)] [])) t := fun t kt => pre5004 t (by
          show Steps p.tables e below (T0.setTop (mkF m 164 #[.val (.int P0)] [(.int (64975 : Int32)), (.int P0)])) _
          refine XS.icmpNo X0.here hx rfl (hb hby d1_164) rfl (tlt hc164).2.2.2 ?_
          exact kt)
      obtain ⟨T5006, pc5006, L5006, lc5006, X5006, N5006, e5006, dc5006, st5006⟩ := tl1_167 P0 (a0 := a0) (Z := Z) X0 hx hZ hw hby hml hown e0 N0 Z0
      have hv : tf1_155 P0 = tf1_167 P0 := by unfold tf1_155; rw [if_neg hc158, if_pos hc164]
      rw [hv]
      exact ⟨T5006, pc5006, L5006, lc5006, X5006, N5006, e5006, dc5006, fun t kt => pre5005 t (st5006 t kt)⟩
    · have pre5007 : ∀ t, Steps p.tables e below (T0.setTop (mkF m 191 #[.val (.int P0)] [])) t → Steps p.tables e below (T0.setTop (mkF m 155 #[.val (.int P0)] [])) t := fun t kt => pre5004 t (by
          show Steps p.tables e below (T0.setTop (mkF m 164 #[.val (.int P0)] [(.int (64975 : Int32)), (.int P0)])) _
          refine XS.icmpYes X0.here hx rfl (pc0 := 164) (pc' := 191) rfl (hb hby d1_164) rfl (flt hc164).2.2.2 (by decide) (by decide) ?_
          exact kt)
      obtain ⟨T5008, pc5008, L5008, lc5008, X5008, N5008, e5008, dc5008, st5008⟩ := tl1_191 P0 (a0 := a0) (Z := Z) X0 hx hZ hw hby hml hown e0 N0 Z0
      have hv : tf1_155 P0 = tf1_191 P0 := by unfold tf1_155; rw [if_neg hc158, if_neg hc164]
      rw [hv]
      exact ⟨T5008, pc5008, L5008, lc5008, X5008, N5008, e5008, dc5008, fun t kt => pre5007 t (st5008 t kt)⟩
theorem tb1_155 (P0 : Int32) : tf1_155 P0 = 0 ∨ tf1_155 P0 = 1 := by
  unfold tf1_155
  (repeat' split) <;> first | exact Or.inl rfl | exact Or.inr rfl | exact tb1_167 P0 | exact tb1_179 P0 | exact tb1_191 P0 | exact tb1_195 P0
def tf1_142 (P0 : Int32) : Int32 := (if P0 < (12289 : Int32) then tf1_155 P0 else (if (55295 : Int32) < P0 then tf1_155 P0 else tf1_191 P0))
set_option maxRecDepth 65536 in
set_option maxHeartbeats 40000000 in
theorem tl1_142 {p : Program} {l : Launch} {e : Env} {s : State} {m : MethodId} {args : Array Value} {below : List Frame} {meth : Method} {c : Code} {T0 : State} {locs : List Loc} {Z : State} {a0 : Array Value} {h0 : Heap} {n0 : Nat} (P0 : Int32)
    (X0 : Stand p l e ({ frames := 0, cells := 0, slots := 0, locals := 0 } : Room) s m args below meth c T0 locs 0 0) (hx : p.tables.exec = Jvm.exec) (hZ : Z.Warmed39 s.vm) (hw : ∀ d ∈ tables_1, d.before a0 Z = true) (hby : c.code = prog_162_method_3_code) (hml : c.maxLocals = 1) (hown : s.vm.findClass "com/example/postil/postil/rdf/NameCharacters" = some m.cls) (e0 : T0.heap = h0) (N0 : Fr n0 locs) (Z0 : n0 ≤ h0.size) :
    ∃ (T' : State) (pc' : Nat) (L' : Array Slot) (locs' : List Loc), Stand p l e ({ frames := 0, cells := 0, slots := 0, locals := 0 } : Room) s m args below meth c T' locs' 0 0 ∧ Fr n0 locs' ∧ T'.heap = h0 ∧ decode c.code pc' = .ok (.ireturn, 1) ∧ ∀ t, Steps p.tables e below (T'.setTop (mkF m pc' L' [.int (tf1_142 P0)])) t → Steps p.tables e below (T0.setTop (mkF m 142 #[.val (.int P0)] [])) t := by
  have pre0 : ∀ t, Steps p.tables e below (T0.setTop (mkF m 142 #[.val (.int P0)] [])) t → Steps p.tables e below (T0.setTop (mkF m 142 #[.val (.int P0)] [])) t := fun t k => k
  have pre6001 : ∀ t, Steps p.tables e below (T0.setTop (mkF m 146 #[.val (.int P0)] [(.int (12289 : Int32)), (.int P0)])) t → Steps p.tables e below (T0.setTop (mkF m 142 #[.val (.int P0)] [])) t := fun t kt => pre0 t (by
      show Steps p.tables e below (T0.setTop (mkF m 142 #[.val (.int P0)] [])) _
      refine XS.iloadN X0.here hx rfl (hb hby d1_142) rfl ?_
      show Steps p.tables e below (T0.setTop (mkF m 143 #[.val (.int P0)] [(.int P0)])) _
      refine XS.sipush X0.here hx rfl (hb hby d1_143) ?_
      exact kt)
  by_cases hc146 : P0 < (12289 : Int32)
  · have pre6002 : ∀ t, Steps p.tables e below (T0.setTop (mkF m 155 #[.val (.int P0)] [])) t → Steps p.tables e below (T0.setTop (mkF m 142 #[.val (.int P0)] [])) t := fun t kt => pre6001 t (by
        show Steps p.tables e below (T0.setTop (mkF m 146 #[.val (.int P0)] [(.int (12289 : Int32)), (.int P0)])) _
        refine XS.icmpYes X0.here hx rfl (pc0 := 146) (pc' := 155) rfl (hb hby d1_146) rfl (tlt hc146).1 (by decide) (by decide) ?_
        exact kt)
    obtain ⟨T6003, pc6003, L6003, lc6003, X6003, N6003, e6003, dc6003, st6003⟩ := tl1_155 P0 (a0 := a0) (Z := Z) X0 hx hZ hw hby hml hown e0 N0 Z0
    have hv : tf1_142 P0 = tf1_155 P0 := by unfold tf1_142; rw [if_pos hc146]
    rw [hv]
    exact ⟨T6003, pc6003, L6003, lc6003, X6003, N6003, e6003, dc6003, fun t kt => pre6002 t (st6003 t kt)⟩
  · have pre6004 : ∀ t, Steps p.tables e below (T0.setTop (mkF m 152 #[.val (.int P0)] [(.int (55295 : Int32)), (.int P0)])) t → Steps p.tables e below (T0.setTop (mkF m 142 #[.val (.int P0)] [])) t := fun t kt => pre6001 t (by
        show Steps p.tables e below (T0.setTop (mkF m 146 #[.val (.int P0)] [(.int (12289 : Int32)), (.int P0)])) _
        refine XS.icmpNo X0.here hx rfl (hb hby d1_146) rfl (flt hc146).1 ?_
        show Steps p.tables e below (T0.setTop (mkF m 149 #[.val (.int P0)] [])) _
        refine XS.iloadN X0.here hx rfl (hb hby d1_149) rfl ?_
        show Steps p.tables e below (T0.setTop (mkF m 150 #[.val (.int P0)] [(.int P0)])) _
        refine X0.ldcInt hx hown (mvT hZ (hw _ (List.mem_of_getElem? (i := 22) rfl))) (g := (mkF m 150 #[.val (.int P0)] [(.int P0)])) rfl (hb hby d1_150) _ ?_
        exact kt)
    by_cases hc152 : (55295 : Int32) < P0
    · have pre6005 : ∀ t, Steps p.tables e below (T0.setTop (mkF m 155 #[.val (.int P0)] [])) t → Steps p.tables e below (T0.setTop (mkF m 142 #[.val (.int P0)] [])) t := fun t kt => pre6004 t (by
          show Steps p.tables e below (T0.setTop (mkF m 152 #[.val (.int P0)] [(.int (55295 : Int32)), (.int P0)])) _
          refine XS.icmpNo X0.here hx rfl (hb hby d1_152) rfl (tlt hc152).2.2.2 ?_
          exact kt)
      obtain ⟨T6006, pc6006, L6006, lc6006, X6006, N6006, e6006, dc6006, st6006⟩ := tl1_155 P0 (a0 := a0) (Z := Z) X0 hx hZ hw hby hml hown e0 N0 Z0
      have hv : tf1_142 P0 = tf1_155 P0 := by unfold tf1_142; rw [if_neg hc146, if_pos hc152]
      rw [hv]
      exact ⟨T6006, pc6006, L6006, lc6006, X6006, N6006, e6006, dc6006, fun t kt => pre6005 t (st6006 t kt)⟩
    · have pre6007 : ∀ t, Steps p.tables e below (T0.setTop (mkF m 191 #[.val (.int P0)] [])) t → Steps p.tables e below (T0.setTop (mkF m 142 #[.val (.int P0)] [])) t := fun t kt => pre6004 t (by
          show Steps p.tables e below (T0.setTop (mkF m 152 #[.val (.int P0)] [(.int (55295 : Int32)), (.int P0)])) _
          refine XS.icmpYes X0.here hx rfl (pc0 := 152) (pc' := 191) rfl (hb hby d1_152) rfl (flt hc152).2.2.2 (by decide) (by decide) ?_
          exact kt)
      obtain ⟨T6008, pc6008, L6008, lc6008, X6008, N6008, e6008, dc6008, st6008⟩ := tl1_191 P0 (a0 := a0) (Z := Z) X0 hx hZ hw hby hml hown e0 N0 Z0
      have hv : tf1_142 P0 = tf1_191 P0 := by unfold tf1_142; rw [if_neg hc146, if_neg hc152]
      rw [hv]
      exact ⟨T6008, pc6008, L6008, lc6008, X6008, N6008, e6008, dc6008, fun t kt => pre6007 t (st6008 t kt)⟩
theorem tb1_142 (P0 : Int32) : tf1_142 P0 = 0 ∨ tf1_142 P0 = 1 := by
  unfold tf1_142
  (repeat' split) <;> first | exact Or.inl rfl | exact Or.inr rfl | exact tb1_155 P0 | exact tb1_167 P0 | exact tb1_179 P0 | exact tb1_191 P0 | exact tb1_195 P0
def tf1_128 (P0 : Int32) : Int32 := (if P0 < (11264 : Int32) then tf1_142 P0 else (if (12271 : Int32) < P0 then tf1_142 P0 else tf1_191 P0))
set_option maxRecDepth 65536 in
set_option maxHeartbeats 40000000 in
theorem tl1_128 {p : Program} {l : Launch} {e : Env} {s : State} {m : MethodId} {args : Array Value} {below : List Frame} {meth : Method} {c : Code} {T0 : State} {locs : List Loc} {Z : State} {a0 : Array Value} {h0 : Heap} {n0 : Nat} (P0 : Int32)
    (X0 : Stand p l e ({ frames := 0, cells := 0, slots := 0, locals := 0 } : Room) s m args below meth c T0 locs 0 0) (hx : p.tables.exec = Jvm.exec) (hZ : Z.Warmed39 s.vm) (hw : ∀ d ∈ tables_1, d.before a0 Z = true) (hby : c.code = prog_162_method_3_code) (hml : c.maxLocals = 1) (hown : s.vm.findClass "com/example/postil/postil/rdf/NameCharacters" = some m.cls) (e0 : T0.heap = h0) (N0 : Fr n0 locs) (Z0 : n0 ≤ h0.size) :
    ∃ (T' : State) (pc' : Nat) (L' : Array Slot) (locs' : List Loc), Stand p l e ({ frames := 0, cells := 0, slots := 0, locals := 0 } : Room) s m args below meth c T' locs' 0 0 ∧ Fr n0 locs' ∧ T'.heap = h0 ∧ decode c.code pc' = .ok (.ireturn, 1) ∧ ∀ t, Steps p.tables e below (T'.setTop (mkF m pc' L' [.int (tf1_128 P0)])) t → Steps p.tables e below (T0.setTop (mkF m 128 #[.val (.int P0)] [])) t := by
  have pre0 : ∀ t, Steps p.tables e below (T0.setTop (mkF m 128 #[.val (.int P0)] [])) t → Steps p.tables e below (T0.setTop (mkF m 128 #[.val (.int P0)] [])) t := fun t k => k
  have pre7001 : ∀ t, Steps p.tables e below (T0.setTop (mkF m 132 #[.val (.int P0)] [(.int (11264 : Int32)), (.int P0)])) t → Steps p.tables e below (T0.setTop (mkF m 128 #[.val (.int P0)] [])) t := fun t kt => pre0 t (by
      show Steps p.tables e below (T0.setTop (mkF m 128 #[.val (.int P0)] [])) _
      refine XS.iloadN X0.here hx rfl (hb hby d1_128) rfl ?_
      show Steps p.tables e below (T0.setTop (mkF m 129 #[.val (.int P0)] [(.int P0)])) _
      refine XS.sipush X0.here hx rfl (hb hby d1_129) ?_
      exact kt)
  by_cases hc132 : P0 < (11264 : Int32)
  · have pre7002 : ∀ t, Steps p.tables e below (T0.setTop (mkF m 142 #[.val (.int P0)] [])) t → Steps p.tables e below (T0.setTop (mkF m 128 #[.val (.int P0)] [])) t := fun t kt => pre7001 t (by
        show Steps p.tables e below (T0.setTop (mkF m 132 #[.val (.int P0)] [(.int (11264 : Int32)), (.int P0)])) _
        refine XS.icmpYes X0.here hx rfl (pc0 := 132) (pc' := 142) rfl (hb hby d1_132) rfl (tlt hc132).1 (by decide) (by decide) ?_
        exact kt)
    obtain ⟨T7003, pc7003, L7003, lc7003, X7003, N7003, e7003, dc7003, st7003⟩ := tl1_142 P0 (a0 := a0) (Z := Z) X0 hx hZ hw hby hml hown e0 N0 Z0
    have hv : tf1_128 P0 = tf1_142 P0 := by unfold tf1_128; rw [if_pos hc132]
    rw [hv]
    exact ⟨T7003, pc7003, L7003, lc7003, X7003, N7003, e7003, dc7003, fun t kt => pre7002 t (st7003 t kt)⟩
  · have pre7004 : ∀ t, Steps p.tables e below (T0.setTop (mkF m 139 #[.val (.int P0)] [(.int (12271 : Int32)), (.int P0)])) t → Steps p.tables e below (T0.setTop (mkF m 128 #[.val (.int P0)] [])) t := fun t kt => pre7001 t (by
        show Steps p.tables e below (T0.setTop (mkF m 132 #[.val (.int P0)] [(.int (11264 : Int32)), (.int P0)])) _
        refine XS.icmpNo X0.here hx rfl (hb hby d1_132) rfl (flt hc132).1 ?_
        show Steps p.tables e below (T0.setTop (mkF m 135 #[.val (.int P0)] [])) _
        refine XS.iloadN X0.here hx rfl (hb hby d1_135) rfl ?_
        show Steps p.tables e below (T0.setTop (mkF m 136 #[.val (.int P0)] [(.int P0)])) _
        refine XS.sipush X0.here hx rfl (hb hby d1_136) ?_
        exact kt)
    by_cases hc139 : (12271 : Int32) < P0
    · have pre7005 : ∀ t, Steps p.tables e below (T0.setTop (mkF m 142 #[.val (.int P0)] [])) t → Steps p.tables e below (T0.setTop (mkF m 128 #[.val (.int P0)] [])) t := fun t kt => pre7004 t (by
          show Steps p.tables e below (T0.setTop (mkF m 139 #[.val (.int P0)] [(.int (12271 : Int32)), (.int P0)])) _
          refine XS.icmpNo X0.here hx rfl (hb hby d1_139) rfl (tlt hc139).2.2.2 ?_
          exact kt)
      obtain ⟨T7006, pc7006, L7006, lc7006, X7006, N7006, e7006, dc7006, st7006⟩ := tl1_142 P0 (a0 := a0) (Z := Z) X0 hx hZ hw hby hml hown e0 N0 Z0
      have hv : tf1_128 P0 = tf1_142 P0 := by unfold tf1_128; rw [if_neg hc132, if_pos hc139]
      rw [hv]
      exact ⟨T7006, pc7006, L7006, lc7006, X7006, N7006, e7006, dc7006, fun t kt => pre7005 t (st7006 t kt)⟩
    · have pre7007 : ∀ t, Steps p.tables e below (T0.setTop (mkF m 191 #[.val (.int P0)] [])) t → Steps p.tables e below (T0.setTop (mkF m 128 #[.val (.int P0)] [])) t := fun t kt => pre7004 t (by
          show Steps p.tables e below (T0.setTop (mkF m 139 #[.val (.int P0)] [(.int (12271 : Int32)), (.int P0)])) _
          refine XS.icmpYes X0.here hx rfl (pc0 := 139) (pc' := 191) rfl (hb hby d1_139) rfl (flt hc139).2.2.2 (by decide) (by decide) ?_
          exact kt)
      obtain ⟨T7008, pc7008, L7008, lc7008, X7008, N7008, e7008, dc7008, st7008⟩ := tl1_191 P0 (a0 := a0) (Z := Z) X0 hx hZ hw hby hml hown e0 N0 Z0
      have hv : tf1_128 P0 = tf1_191 P0 := by unfold tf1_128; rw [if_neg hc132, if_neg hc139]
      rw [hv]
      exact ⟨T7008, pc7008, L7008, lc7008, X7008, N7008, e7008, dc7008, fun t kt => pre7007 t (st7008 t kt)⟩
theorem tb1_128 (P0 : Int32) : tf1_128 P0 = 0 ∨ tf1_128 P0 = 1 := by
  unfold tf1_128
  (repeat' split) <;> first | exact Or.inl rfl | exact Or.inr rfl | exact tb1_142 P0 | exact tb1_155 P0 | exact tb1_167 P0 | exact tb1_179 P0 | exact tb1_191 P0 | exact tb1_195 P0
def tf1_114 (P0 : Int32) : Int32 := (if P0 < (8304 : Int32) then tf1_128 P0 else (if (8591 : Int32) < P0 then tf1_128 P0 else tf1_191 P0))
set_option maxRecDepth 65536 in
set_option maxHeartbeats 40000000 in
theorem tl1_114 {p : Program} {l : Launch} {e : Env} {s : State} {m : MethodId} {args : Array Value} {below : List Frame} {meth : Method} {c : Code} {T0 : State} {locs : List Loc} {Z : State} {a0 : Array Value} {h0 : Heap} {n0 : Nat} (P0 : Int32)
    (X0 : Stand p l e ({ frames := 0, cells := 0, slots := 0, locals := 0 } : Room) s m args below meth c T0 locs 0 0) (hx : p.tables.exec = Jvm.exec) (hZ : Z.Warmed39 s.vm) (hw : ∀ d ∈ tables_1, d.before a0 Z = true) (hby : c.code = prog_162_method_3_code) (hml : c.maxLocals = 1) (hown : s.vm.findClass "com/example/postil/postil/rdf/NameCharacters" = some m.cls) (e0 : T0.heap = h0) (N0 : Fr n0 locs) (Z0 : n0 ≤ h0.size) :
    ∃ (T' : State) (pc' : Nat) (L' : Array Slot) (locs' : List Loc), Stand p l e ({ frames := 0, cells := 0, slots := 0, locals := 0 } : Room) s m args below meth c T' locs' 0 0 ∧ Fr n0 locs' ∧ T'.heap = h0 ∧ decode c.code pc' = .ok (.ireturn, 1) ∧ ∀ t, Steps p.tables e below (T'.setTop (mkF m pc' L' [.int (tf1_114 P0)])) t → Steps p.tables e below (T0.setTop (mkF m 114 #[.val (.int P0)] [])) t := by
  have pre0 : ∀ t, Steps p.tables e below (T0.setTop (mkF m 114 #[.val (.int P0)] [])) t → Steps p.tables e below (T0.setTop (mkF m 114 #[.val (.int P0)] [])) t := fun t k => k
  have pre8001 : ∀ t, Steps p.tables e below (T0.setTop (mkF m 118 #[.val (.int P0)] [(.int (8304 : Int32)), (.int P0)])) t → Steps p.tables e below (T0.setTop (mkF m 114 #[.val (.int P0)] [])) t := fun t kt => pre0 t (by
      show Steps p.tables e below (T0.setTop (mkF m 114 #[.val (.int P0)] [])) _
      refine XS.iloadN X0.here hx rfl (hb hby d1_114) rfl ?_
      show Steps p.tables e below (T0.setTop (mkF m 115 #[.val (.int P0)] [(.int P0)])) _
      refine XS.sipush X0.here hx rfl (hb hby d1_115) ?_
      exact kt)
  by_cases hc118 : P0 < (8304 : Int32)
  · have pre8002 : ∀ t, Steps p.tables e below (T0.setTop (mkF m 128 #[.val (.int P0)] [])) t → Steps p.tables e below (T0.setTop (mkF m 114 #[.val (.int P0)] [])) t := fun t kt => pre8001 t (by
        show Steps p.tables e below (T0.setTop (mkF m 118 #[.val (.int P0)] [(.int (8304 : Int32)), (.int P0)])) _
        refine XS.icmpYes X0.here hx rfl (pc0 := 118) (pc' := 128) rfl (hb hby d1_118) rfl (tlt hc118).1 (by decide) (by decide) ?_
        exact kt)
    obtain ⟨T8003, pc8003, L8003, lc8003, X8003, N8003, e8003, dc8003, st8003⟩ := tl1_128 P0 (a0 := a0) (Z := Z) X0 hx hZ hw hby hml hown e0 N0 Z0
    have hv : tf1_114 P0 = tf1_128 P0 := by unfold tf1_114; rw [if_pos hc118]
    rw [hv]
    exact ⟨T8003, pc8003, L8003, lc8003, X8003, N8003, e8003, dc8003, fun t kt => pre8002 t (st8003 t kt)⟩
  · have pre8004 : ∀ t, Steps p.tables e below (T0.setTop (mkF m 125 #[.val (.int P0)] [(.int (8591 : Int32)), (.int P0)])) t → Steps p.tables e below (T0.setTop (mkF m 114 #[.val (.int P0)] [])) t := fun t kt => pre8001 t (by
        show Steps p.tables e below (T0.setTop (mkF m 118 #[.val (.int P0)] [(.int (8304 : Int32)), (.int P0)])) _
        refine XS.icmpNo X0.here hx rfl (hb hby d1_118) rfl (flt hc118).1 ?_
        show Steps p.tables e below (T0.setTop (mkF m 121 #[.val (.int P0)] [])) _
        refine XS.iloadN X0.here hx rfl (hb hby d1_121) rfl ?_
        show Steps p.tables e below (T0.setTop (mkF m 122 #[.val (.int P0)] [(.int P0)])) _
        refine XS.sipush X0.here hx rfl (hb hby d1_122) ?_
        exact kt)
    by_cases hc125 : (8591 : Int32) < P0
    · have pre8005 : ∀ t, Steps p.tables e below (T0.setTop (mkF m 128 #[.val (.int P0)] [])) t → Steps p.tables e below (T0.setTop (mkF m 114 #[.val (.int P0)] [])) t := fun t kt => pre8004 t (by
          show Steps p.tables e below (T0.setTop (mkF m 125 #[.val (.int P0)] [(.int (8591 : Int32)), (.int P0)])) _
          refine XS.icmpNo X0.here hx rfl (hb hby d1_125) rfl (tlt hc125).2.2.2 ?_
          exact kt)
      obtain ⟨T8006, pc8006, L8006, lc8006, X8006, N8006, e8006, dc8006, st8006⟩ := tl1_128 P0 (a0 := a0) (Z := Z) X0 hx hZ hw hby hml hown e0 N0 Z0
      have hv : tf1_114 P0 = tf1_128 P0 := by unfold tf1_114; rw [if_neg hc118, if_pos hc125]
      rw [hv]
      exact ⟨T8006, pc8006, L8006, lc8006, X8006, N8006, e8006, dc8006, fun t kt => pre8005 t (st8006 t kt)⟩
    · have pre8007 : ∀ t, Steps p.tables e below (T0.setTop (mkF m 191 #[.val (.int P0)] [])) t → Steps p.tables e below (T0.setTop (mkF m 114 #[.val (.int P0)] [])) t := fun t kt => pre8004 t (by
          show Steps p.tables e below (T0.setTop (mkF m 125 #[.val (.int P0)] [(.int (8591 : Int32)), (.int P0)])) _
          refine XS.icmpYes X0.here hx rfl (pc0 := 125) (pc' := 191) rfl (hb hby d1_125) rfl (flt hc125).2.2.2 (by decide) (by decide) ?_
          exact kt)
      obtain ⟨T8008, pc8008, L8008, lc8008, X8008, N8008, e8008, dc8008, st8008⟩ := tl1_191 P0 (a0 := a0) (Z := Z) X0 hx hZ hw hby hml hown e0 N0 Z0
      have hv : tf1_114 P0 = tf1_191 P0 := by unfold tf1_114; rw [if_neg hc118, if_neg hc125]
      rw [hv]
      exact ⟨T8008, pc8008, L8008, lc8008, X8008, N8008, e8008, dc8008, fun t kt => pre8007 t (st8008 t kt)⟩
theorem tb1_114 (P0 : Int32) : tf1_114 P0 = 0 ∨ tf1_114 P0 = 1 := by
  unfold tf1_114
  (repeat' split) <;> first | exact Or.inl rfl | exact Or.inr rfl | exact tb1_128 P0 | exact tb1_142 P0 | exact tb1_155 P0 | exact tb1_167 P0 | exact tb1_179 P0 | exact tb1_191 P0 | exact tb1_195 P0
def tf1_100 (P0 : Int32) : Int32 := (if P0 < (8204 : Int32) then tf1_114 P0 else (if (8205 : Int32) < P0 then tf1_114 P0 else tf1_191 P0))
set_option maxRecDepth 65536 in
set_option maxHeartbeats 40000000 in
theorem tl1_100 {p : Program} {l : Launch} {e : Env} {s : State} {m : MethodId} {args : Array Value} {below : List Frame} {meth : Method} {c : Code} {T0 : State} {locs : List Loc} {Z : State} {a0 : Array Value} {h0 : Heap} {n0 : Nat} (P0 : Int32)
    (X0 : Stand p l e ({ frames := 0, cells := 0, slots := 0, locals := 0 } : Room) s m args below meth c T0 locs 0 0) (hx : p.tables.exec = Jvm.exec) (hZ : Z.Warmed39 s.vm) (hw : ∀ d ∈ tables_1, d.before a0 Z = true) (hby : c.code = prog_162_method_3_code) (hml : c.maxLocals = 1) (hown : s.vm.findClass "com/example/postil/postil/rdf/NameCharacters" = some m.cls) (e0 : T0.heap = h0) (N0 : Fr n0 locs) (Z0 : n0 ≤ h0.size) :
    ∃ (T' : State) (pc' : Nat) (L' : Array Slot) (locs' : List Loc), Stand p l e ({ frames := 0, cells := 0, slots := 0, locals := 0 } : Room) s m args below meth c T' locs' 0 0 ∧ Fr n0 locs' ∧ T'.heap = h0 ∧ decode c.code pc' = .ok (.ireturn, 1) ∧ ∀ t, Steps p.tables e below (T'.setTop (mkF m pc' L' [.int (tf1_100 P0)])) t → Steps p.tables e below (T0.setTop (mkF m 100 #[.val (.int P0)] [])) t := by
  have pre0 : ∀ t, Steps p.tables e below (T0.setTop (mkF m 100 #[.val (.int P0)] [])) t → Steps p.tables e below (T0.setTop (mkF m 100 #[.val (.int P0)] [])) t := fun t k => k
  have pre9001 : ∀ t, Steps p.tables e below (T0.setTop (mkF m 104 #[.val (.int P0)] [(.int (8204 : Int32)), (.int P0)])) t → Steps p.tables e below (T0.setTop (mkF m 100 #[.val (.int P0)] [])) t := fun t kt => pre0 t (by
      show Steps p.tables e below (T0.setTop (mkF m 100 #[.val (.int P0)] [])) _
      refine XS.iloadN X0.here hx rfl (hb hby d1_100) rfl ?_
      show Steps p.tables e below (T0.setTop (mkF m 101 #[.val (.int P0)] [(.int P0)])) _
      refine XS.sipush X0.here hx rfl (hb hby d1_101) ?_
      exact kt)
  by_cases hc104 : P0 < (8204 : Int32)
  · have pre9002 : ∀ t, Steps p.tables e below (T0.setTop (mkF m 114 #[.val (.int P0)] [])) t → Steps p.tables e below (T0.setTop (mkF m 100 #[.val (.int P0)] [])) t := fun t kt => pre9001 t (by
        show Steps p.tables e below (T0.setTop (mkF m 104 #[.val (.int P0)] [(.int (8204 : Int32)), (.int P0)])) _
        refine XS.icmpYes X0.here hx rfl (pc0 := 104) (pc' := 114) rfl (hb hby d1_104) rfl (tlt hc104).1 (by decide) (by decide) ?_
        exact kt)
    obtain ⟨T9003, pc9003, L9003, lc9003, X9003, N9003, e9003, dc9003, st9003⟩ := tl1_114 P0 (a0 := a0) (Z := Z) X0 hx hZ hw hby hml hown e0 N0 Z0
    have hv : tf1_100 P0 = tf1_114 P0 := by unfold tf1_100; rw [if_pos hc104]
    rw [hv]
    exact ⟨T9003, pc9003, L9003, lc9003, X9003, N9003, e9003, dc9003, fun t kt => pre9002 t (st9003 t kt)⟩
  · have pre9004 : ∀ t, Steps p.tables e below (T0.setTop (mkF m 111 #[.val (.int P0)] [(.int (8205 : Int32)), (.int P0)])) t → Steps p.tables e below (T0.setTop (mkF m 100 #[.val (.int P0)] [])) t := fun t kt => pre9001 t (by
        show Steps p.tables e below (T0.setTop (mkF m 104 #[.val (.int P0)] [(.int (8204 : Int32)), (.int P0)])) _
        refine XS.icmpNo X0.here hx rfl (hb hby d1_104) rfl (flt hc104).1 ?_
        show Steps p.tables e below (T0.setTop (mkF m 107 #[.val (.int P0)] [])) _
        refine XS.iloadN X0.here hx rfl (hb hby d1_107) rfl ?_
        show Steps p.tables e below (T0.setTop (mkF m 108 #[.val (.int P0)] [(.int P0)])) _
        refine XS.sipush X0.here hx rfl (hb hby d1_108) ?_
        exact kt)
    by_cases hc111 : (8205 : Int32) < P0
    · have pre9005 : ∀ t, Steps p.tables e below (T0.setTop (mkF m 114 #[.val (.int P0)] [])) t → Steps p.tables e below (T0.setTop (mkF m 100 #[.val (.int P0)] [])) t := fun t kt => pre9004 t (by
          show Steps p.tables e below (T0.setTop (mkF m 111 #[.val (.int P0)] [(.int (8205 : Int32)), (.int P0)])) _
          refine XS.icmpNo X0.here hx rfl (hb hby d1_111) rfl (tlt hc111).2.2.2 ?_
          exact kt)
      obtain ⟨T9006, pc9006, L9006, lc9006, X9006, N9006, e9006, dc9006, st9006⟩ := tl1_114 P0 (a0 := a0) (Z := Z) X0 hx hZ hw hby hml hown e0 N0 Z0
      have hv : tf1_100 P0 = tf1_114 P0 := by unfold tf1_100; rw [if_neg hc104, if_pos hc111]
      rw [hv]
      exact ⟨T9006, pc9006, L9006, lc9006, X9006, N9006, e9006, dc9006, fun t kt => pre9005 t (st9006 t kt)⟩
    · have pre9007 : ∀ t, Steps p.tables e below (T0.setTop (mkF m 191 #[.val (.int P0)] [])) t → Steps p.tables e below (T0.setTop (mkF m 100 #[.val (.int P0)] [])) t := fun t kt => pre9004 t (by
          show Steps p.tables e below (T0.setTop (mkF m 111 #[.val (.int P0)] [(.int (8205 : Int32)), (.int P0)])) _
          refine XS.icmpYes X0.here hx rfl (pc0 := 111) (pc' := 191) rfl (hb hby d1_111) rfl (flt hc111).2.2.2 (by decide) (by decide) ?_
          exact kt)
      obtain ⟨T9008, pc9008, L9008, lc9008, X9008, N9008, e9008, dc9008, st9008⟩ := tl1_191 P0 (a0 := a0) (Z := Z) X0 hx hZ hw hby hml hown e0 N0 Z0
      have hv : tf1_100 P0 = tf1_191 P0 := by unfold tf1_100; rw [if_neg hc104, if_neg hc111]
      rw [hv]
      exact ⟨T9008, pc9008, L9008, lc9008, X9008, N9008, e9008, dc9008, fun t kt => pre9007 t (st9008 t kt)⟩
theorem tb1_100 (P0 : Int32) : tf1_100 P0 = 0 ∨ tf1_100 P0 = 1 := by
  unfold tf1_100
  (repeat' split) <;> first | exact Or.inl rfl | exact Or.inr rfl | exact tb1_114 P0 | exact tb1_128 P0 | exact tb1_142 P0 | exact tb1_155 P0 | exact tb1_167 P0 | exact tb1_179 P0 | exact tb1_191 P0 | exact tb1_195 P0
def tf1_86 (P0 : Int32) : Int32 := (if P0 < (895 : Int32) then tf1_100 P0 else (if (8191 : Int32) < P0 then tf1_100 P0 else tf1_191 P0))
set_option maxRecDepth 65536 in
set_option maxHeartbeats 40000000 in
theorem tl1_86 {p : Program} {l : Launch} {e : Env} {s : State} {m : MethodId} {args : Array Value} {below : List Frame} {meth : Method} {c : Code} {T0 : State} {locs : List Loc} {Z : State} {a0 : Array Value} {h0 : Heap} {n0 : Nat} (P0 : Int32)
    (X0 : Stand p l e ({ frames := 0, cells := 0, slots := 0, locals := 0 } : Room) s m args below meth c T0 locs 0 0) (hx : p.tables.exec = Jvm.exec) (hZ : Z.Warmed39 s.vm) (hw : ∀ d ∈ tables_1, d.before a0 Z = true) (hby : c.code = prog_162_method_3_code) (hml : c.maxLocals = 1) (hown : s.vm.findClass "com/example/postil/postil/rdf/NameCharacters" = some m.cls) (e0 : T0.heap = h0) (N0 : Fr n0 locs) (Z0 : n0 ≤ h0.size) :
    ∃ (T' : State) (pc' : Nat) (L' : Array Slot) (locs' : List Loc), Stand p l e ({ frames := 0, cells := 0, slots := 0, locals := 0 } : Room) s m args below meth c T' locs' 0 0 ∧ Fr n0 locs' ∧ T'.heap = h0 ∧ decode c.code pc' = .ok (.ireturn, 1) ∧ ∀ t, Steps p.tables e below (T'.setTop (mkF m pc' L' [.int (tf1_86 P0)])) t → Steps p.tables e below (T0.setTop (mkF m 86 #[.val (.int P0)] [])) t := by
  have pre0 : ∀ t, Steps p.tables e below (T0.setTop (mkF m 86 #[.val (.int P0)] [])) t → Steps p.tables e below (T0.setTop (mkF m 86 #[.val (.int P0)] [])) t := fun t k => k
  have pre10001 : ∀ t, Steps p.tables e below (T0.setTop (mkF m 90 #[.val (.int P0)] [(.int (895 : Int32)), (.int P0)])) t → Steps p.tables e below (T0.setTop (mkF m 86 #[.val (.int P0)] [])) t := fun t kt => pre0 t (by
      show Steps p.tables e below (T0.setTop (mkF m 86 #[.val (.int P0)] [])) _
      refine XS.iloadN X0.here hx rfl (hb hby d1_86) rfl ?_
      show Steps p.tables e below (T0.setTop (mkF m 87 #[.val (.int P0)] [(.int P0)])) _
      refine XS.sipush X0.here hx rfl (hb hby d1_87) ?_
      exact kt)
  by_cases hc90 : P0 < (895 : Int32)
  · have pre10002 : ∀ t, Steps p.tables e below (T0.setTop (mkF m 100 #[.val (.int P0)] [])) t → Steps p.tables e below (T0.setTop (mkF m 86 #[.val (.int P0)] [])) t := fun t kt => pre10001 t (by
        show Steps p.tables e below (T0.setTop (mkF m 90 #[.val (.int P0)] [(.int (895 : Int32)), (.int P0)])) _
        refine XS.icmpYes X0.here hx rfl (pc0 := 90) (pc' := 100) rfl (hb hby d1_90) rfl (tlt hc90).1 (by decide) (by decide) ?_
        exact kt)
    obtain ⟨T10003, pc10003, L10003, lc10003, X10003, N10003, e10003, dc10003, st10003⟩ := tl1_100 P0 (a0 := a0) (Z := Z) X0 hx hZ hw hby hml hown e0 N0 Z0
    have hv : tf1_86 P0 = tf1_100 P0 := by unfold tf1_86; rw [if_pos hc90]
    rw [hv]
    exact ⟨T10003, pc10003, L10003, lc10003, X10003, N10003, e10003, dc10003, fun t kt => pre10002 t (st10003 t kt)⟩
  · have pre10004 : ∀ t, Steps p.tables e below (T0.setTop (mkF m 97 #[.val (.int P0)] [(.int (8191 : Int32)), (.int P0)])) t → Steps p.tables e below (T0.setTop (mkF m 86 #[.val (.int P0)] [])) t := fun t kt => pre10001 t (by
        show Steps p.tables e below (T0.setTop (mkF m 90 #[.val (.int P0)] [(.int (895 : Int32)), (.int P0)])) _
        refine XS.icmpNo X0.here hx rfl (hb hby d1_90) rfl (flt hc90).1 ?_
        show Steps p.tables e below (T0.setTop (mkF m 93 #[.val (.int P0)] [])) _
        refine XS.iloadN X0.here hx rfl (hb hby d1_93) rfl ?_
        show Steps p.tables e below (T0.setTop (mkF m 94 #[.val (.int P0)] [(.int P0)])) _
        refine XS.sipush X0.here hx rfl (hb hby d1_94) ?_
        exact kt)
    by_cases hc97 : (8191 : Int32) < P0
    · have pre10005 : ∀ t, Steps p.tables e below (T0.setTop (mkF m 100 #[.val (.int P0)] [])) t → Steps p.tables e below (T0.setTop (mkF m 86 #[.val (.int P0)] [])) t := fun t kt => pre10004 t (by
          show Steps p.tables e below (T0.setTop (mkF m 97 #[.val (.int P0)] [(.int (8191 : Int32)), (.int P0)])) _
          refine XS.icmpNo X0.here hx rfl (hb hby d1_97) rfl (tlt hc97).2.2.2 ?_
          exact kt)
      obtain ⟨T10006, pc10006, L10006, lc10006, X10006, N10006, e10006, dc10006, st10006⟩ := tl1_100 P0 (a0 := a0) (Z := Z) X0 hx hZ hw hby hml hown e0 N0 Z0
      have hv : tf1_86 P0 = tf1_100 P0 := by unfold tf1_86; rw [if_neg hc90, if_pos hc97]
      rw [hv]
      exact ⟨T10006, pc10006, L10006, lc10006, X10006, N10006, e10006, dc10006, fun t kt => pre10005 t (st10006 t kt)⟩
    · have pre10007 : ∀ t, Steps p.tables e below (T0.setTop (mkF m 191 #[.val (.int P0)] [])) t → Steps p.tables e below (T0.setTop (mkF m 86 #[.val (.int P0)] [])) t := fun t kt => pre10004 t (by
          show Steps p.tables e below (T0.setTop (mkF m 97 #[.val (.int P0)] [(.int (8191 : Int32)), (.int P0)])) _
          refine XS.icmpYes X0.here hx rfl (pc0 := 97) (pc' := 191) rfl (hb hby d1_97) rfl (flt hc97).2.2.2 (by decide) (by decide) ?_
          exact kt)
      obtain ⟨T10008, pc10008, L10008, lc10008, X10008, N10008, e10008, dc10008, st10008⟩ := tl1_191 P0 (a0 := a0) (Z := Z) X0 hx hZ hw hby hml hown e0 N0 Z0
      have hv : tf1_86 P0 = tf1_191 P0 := by unfold tf1_86; rw [if_neg hc90, if_neg hc97]
      rw [hv]
      exact ⟨T10008, pc10008, L10008, lc10008, X10008, N10008, e10008, dc10008, fun t kt => pre10007 t (st10008 t kt)⟩
theorem tb1_86 (P0 : Int32) : tf1_86 P0 = 0 ∨ tf1_86 P0 = 1 := by
  unfold tf1_86
  (repeat' split) <;> first | exact Or.inl rfl | exact Or.inr rfl | exact tb1_100 P0 | exact tb1_114 P0 | exact tb1_128 P0 | exact tb1_142 P0 | exact tb1_155 P0 | exact tb1_167 P0 | exact tb1_179 P0 | exact tb1_191 P0 | exact tb1_195 P0
def tf1_72 (P0 : Int32) : Int32 := (if P0 < (880 : Int32) then tf1_86 P0 else (if (893 : Int32) < P0 then tf1_86 P0 else tf1_191 P0))
set_option maxRecDepth 65536 in
set_option maxHeartbeats 40000000 in
theorem tl1_72 {p : Program} {l : Launch} {e : Env} {s : State} {m : MethodId} {args : Array Value} {below : List Frame} {meth : Method} {c : Code} {T0 : State} {locs : List Loc} {Z : State} {a0 : Array Value} {h0 : Heap} {n0 : Nat} (P0 : Int32)
    (X0 : Stand p l e ({ frames := 0, cells := 0, slots := 0, locals := 0 } : Room) s m args below meth c T0 locs 0 0) (hx : p.tables.exec = Jvm.exec) (hZ : Z.Warmed39 s.vm) (hw : ∀ d ∈ tables_1, d.before a0 Z = true) (hby : c.code = prog_162_method_3_code) (hml : c.maxLocals = 1) (hown : s.vm.findClass "com/example/postil/postil/rdf/NameCharacters" = some m.cls) (e0 : T0.heap = h0) (N0 : Fr n0 locs) (Z0 : n0 ≤ h0.size) :
    ∃ (T' : State) (pc' : Nat) (L' : Array Slot) (locs' : List Loc), Stand p l e ({ frames := 0, cells := 0, slots := 0, locals := 0 } : Room) s m args below meth c T' locs' 0 0 ∧ Fr n0 locs' ∧ T'.heap = h0 ∧ decode c.code pc' = .ok (.ireturn, 1) ∧ ∀ t, Steps p.tables e below (T'.setTop (mkF m pc' L' [.int (tf1_72 P0)])) t → Steps p.tables e below (T0.setTop (mkF m 72 #[.val (.int P0)] [])) t := by
  have pre0 : ∀ t, Steps p.tables e below (T0.setTop (mkF m 72 #[.val (.int P0)] [])) t → Steps p.tables e below (T0.setTop (mkF m 72 #[.val (.int P0)] [])) t := fun t k => k
  have pre11001 : ∀ t, Steps p.tables e below (T0.setTop (mkF m 76 #[.val (.int P0)] [(.int (880 : Int32)), (.int P0)])) t → Steps p.tables e below (T0.setTop (mkF m 72 #[.val (.int P0)] [])) t := fun t kt => pre0 t (by
      show Steps p.tables e below (T0.setTop (mkF m 72 #[.val (.int P0)] [])) _
      refine XS.iloadN X0.here hx rfl (hb hby d1_72) rfl ?_
      show Steps p.tables e below (T0.setTop (mkF m 73 #[.val (.int P0)] [(.int P0)])) _
      refine XS.sipush X0.here hx rfl (hb hby d1_73) ?_
      exact kt)
  by_cases hc76 : P0 < (880 : Int32)
  · have pre11002 : ∀ t, Steps p.tables e below (T0.setTop (mkF m 86 #[.val (.int P0)] [])) t → Steps p.tables e below (T0.setTop (mkF m 72 #[.val (.int P0)] [])) t := fun t kt => pre11001 t (by
        show Steps p.tables e below (T0.setTop (mkF m 76 #[.val (.int P0)] [(.int (880 : Int32)), (.int P0)])) _
        refine XS.icmpYes X0.here hx rfl (pc0 := 76) (pc' := 86) rfl (hb hby d1_76) rfl (tlt hc76).1 (by decide) (by decide) ?_
        exact kt)
    obtain ⟨T11003, pc11003, L11003, lc11003, X11003, N11003, e11003, dc11003, st11003⟩ := tl1_86 P0 (a0 := a0) (Z := Z) X0 hx hZ hw hby hml hown e0 N0 Z0
    have hv : tf1_72 P0 = tf1_86 P0 := by unfold tf1_72; rw [if_pos hc76]
    rw [hv]
    exact ⟨T11003, pc11003, L11003, lc11003, X11003, N11003, e11003, dc11003, fun t kt => pre11002 t (st11003 t kt)⟩
  · have pre11004 : ∀ t, Steps p.tables e below (T0.setTop (mkF m 83 #[.val (.int P0)] [(.int (893 : Int32)), (.int P0)])) t → Steps p.tables e below (T0.setTop (mkF m 72 #[.val (.int P0)] [])) t := fun t kt => pre11001 t (by
        show Steps p.tables e below (T0.setTop (mkF m 76 #[.val (.int P0)] [(.int (880 : Int32)), (.int P0)])) _
        refine XS.icmpNo X0.here hx rfl (hb hby d1_76) rfl (flt hc76).1 ?_
        show Steps p.tables e below (T0.setTop (mkF m 79 #[.val (.int P0)] [])) _
        refine XS.iloadN X0.here hx rfl (hb hby d1_79) rfl ?_
        show Steps p.tables e below (T0.setTop (mkF m 80 #[.val (.int P0)] [(.int P0)])) _
        refine XS.sipush X0.here hx rfl (hb hby d1_80) ?_
        exact kt)
    by_cases hc83 : (893 : Int32) < P0
    · have pre11005 : ∀ t, Steps p.tables e below (T0.setTop (mkF m 86 #[.val (.int P0)] [])) t → Steps p.tables e below (T0.setTop (mkF m 72 #[.val (.int P0)] [])) t := fun t kt => pre11004 t (by
          show Steps p.tables e below (T0.setTop (mkF m 83 #[.val (.int P0)] [(.int (893 : Int32)), (.int P0)])) _
          refine XS.icmpNo X0.here hx rfl (hb hby d1_83) rfl (tlt hc83).2.2.2 ?_
          exact kt)
      obtain ⟨T11006, pc11006, L11006, lc11006, X11006, N11006, e11006, dc11006, st11006⟩ := tl1_86 P0 (a0 := a0) (Z := Z) X0 hx hZ hw hby hml hown e0 N0 Z0
      have hv : tf1_72 P0 = tf1_86 P0 := by unfold tf1_72; rw [if_neg hc76, if_pos hc83]
      rw [hv]
      exact ⟨T11006, pc11006, L11006, lc11006, X11006, N11006, e11006, dc11006, fun t kt => pre11005 t (st11006 t kt)⟩
    · have pre11007 : ∀ t, Steps p.tables e below (T0.setTop (mkF m 191 #[.val (.int P0)] [])) t → Steps p.tables e below (T0.setTop (mkF m 72 #[.val (.int P0)] [])) t := fun t kt => pre11004 t (by
          show Steps p.tables e below (T0.setTop (mkF m 83 #[.val (.int P0)] [(.int (893 : Int32)), (.int P0)])) _
          refine XS.icmpYes X0.here hx rfl (pc0 := 83) (pc' := 191) rfl (hb hby d1_83) rfl (flt hc83).2.2.2 (by decide) (by decide) ?_
          exact kt)
      obtain ⟨T11008, pc11008, L11008, lc11008, X11008, N11008, e11008, dc11008, st11008⟩ := tl1_191 P0 (a0 := a0) (Z := Z) X0 hx hZ hw hby hml hown e0 N0 Z0
      have hv : tf1_72 P0 = tf1_191 P0 := by unfold tf1_72; rw [if_neg hc76, if_neg hc83]
      rw [hv]
      exact ⟨T11008, pc11008, L11008, lc11008, X11008, N11008, e11008, dc11008, fun t kt => pre11007 t (st11008 t kt)⟩
theorem tb1_72 (P0 : Int32) : tf1_72 P0 = 0 ∨ tf1_72 P0 = 1 := by
  unfold tf1_72
  (repeat' split) <;> first | exact Or.inl rfl | exact Or.inr rfl | exact tb1_86 P0 | exact tb1_100 P0 | exact tb1_114 P0 | exact tb1_128 P0 | exact tb1_142 P0 | exact tb1_155 P0 | exact tb1_167 P0 | exact tb1_179 P0 | exact tb1_191 P0 | exact tb1_195 P0
def tf1_58 (P0 : Int32) : Int32 := (if P0 < (248 : Int32) then tf1_72 P0 else (if (767 : Int32) < P0 then tf1_72 P0 else tf1_191 P0))
set_option maxRecDepth 65536 in
set_option maxHeartbeats 40000000 in
theorem tl1_58 {p : Program} {l : Launch} {e : Env} {s : State} {m : MethodId} {args : Array Value} {below : List Frame} {meth : Method} {c : Code} {T0 : State} {locs : List Loc} {Z : State} {a0 : Array Value} {h0 : Heap} {n0 : Nat} (P0 : Int32)
    (X0 : Stand p l e ({ frames := 0, cells := 0, slots := 0, locals := 0 } : Room) s m args below meth c T0 locs 0 0) (hx : p.tables.exec = Jvm.exec) (hZ : Z.Warmed39 s.vm) (hw : ∀ d ∈ tables_1, d.before a0 Z = true) (hby : c.code = prog_162_method_3_code) (hml : c.maxLocals = 1) (hown : s.vm.findClass "com/example/postil/postil/rdf/NameCharacters" = some m.cls) (e0 : T0.heap = h0) (N0 : Fr n0 locs) (Z0 : n0 ≤ h0.size) :
    ∃ (T' : State) (pc' : Nat) (L' : Array Slot) (locs' : List Loc), Stand p l e ({ frames := 0, cells := 0, slots := 0, locals := 0 } : Room) s m args below meth c T' locs' 0 0 ∧ Fr n0 locs' ∧ T'.heap = h0 ∧ decode c.code pc' = .ok (.ireturn, 1) ∧ ∀ t, Steps p.tables e below (T'.setTop (mkF m pc' L' [.int (tf1_58 P0)])) t → Steps p.tables e below (T0.setTop (mkF m 58 #[.val (.int P0)] [])) t := by
  have pre0 : ∀ t, Steps p.tables e below (T0.setTop (mkF m 58 #[.val (.int P0)] [])) t → Steps p.tables e below (T0.setTop (mkF m 58 #[.val (.int P0)] [])) t := fun t k => k
  have pre12001 : ∀ t, Steps p.tables e below (T0.setTop (mkF m 62 #[.val (.int P0)] [(.int (248 : Int32)), (.int P0)])) t → Steps p.tables e below (T0.setTop (mkF m 58 #[.val (.int P0)] [])) t := fun t kt => pre0 t (by
      show Steps p.tables e below (T0.setTop (mkF m 58 #[.val (.int P0)] [])) _
      refine XS.iloadN X0.here hx rfl (hb hby d1_58) rfl ?_
      show Steps p.tables e below (T0.setTop (mkF m 59 #[.val (.int P0)] [(.int P0)])) _
      refine XS.sipush X0.here hx rfl (hb hby d1_59) ?_
      exact kt)
  by_cases hc62 : P0 < (248 : Int32)
  · have pre12002 : ∀ t, Steps p.tables e below (T0.setTop (mkF m 72 #[.val (.int P0)] [])) t → Steps p.tables e below (T0.setTop (mkF m 58 #[.val (.int P0)] [])) t := fun t kt => pre12001 t (by
        show Steps p.tables e below (T0.setTop (mkF m 62 #[.val (.int P0)] [(.int (248 : Int32)), (.int P0)])) _
        refine XS.icmpYes X0.here hx rfl (pc0 := 62) (pc' := 72) rfl (hb hby d1_62) rfl (tlt hc62).1 (by decide) (by decide) ?_
        exact kt)
    obtain ⟨T12003, pc12003, L12003, lc12003, X12003, N12003, e12003, dc12003, st12003⟩ := tl1_72 P0 (a0 := a0) (Z := Z) X0 hx hZ hw hby hml hown e0 N0 Z0
    have hv : tf1_58 P0 = tf1_72 P0 := by unfold tf1_58; rw [if_pos hc62]
    rw [hv]
    exact ⟨T12003, pc12003, L12003, lc12003, X12003, N12003, e12003, dc12003, fun t kt => pre12002 t (st12003 t kt)⟩
  · have pre12004 : ∀ t, Steps p.tables e below (T0.setTop (mkF m 69 #[.val (.int P0)] [(.int (767 : Int32)), (.int P0)])) t → Steps p.tables e below (T0.setTop (mkF m 58 #[.val (.int P0)] [])) t := fun t kt => pre12001 t (by
        show Steps p.tables e below (T0.setTop (mkF m 62 #[.val (.int P0)] [(.int (248 : Int32)), (.int P0)])) _
        refine XS.icmpNo X0.here hx rfl (hb hby d1_62) rfl (flt hc62).1 ?_
        show Steps p.tables e below (T0.setTop (mkF m 65 #[.val (.int P0)] [])) _
        refine XS.iloadN X0.here hx rfl (hb hby d1_65) rfl ?_
        show Steps p.tables e below (T0.setTop (mkF m 66 #[.val (.int P0)] [(.int P0)])) _
        refine XS.sipush X0.here hx rfl (hb hby d1_66) ?_
        exact kt)
    by_cases hc69 : (767 : Int32) < P0
    · have pre12005 : ∀ t, Steps p.tables e below (T0.setTop (mkF m 72 #[.val (.int P0)] [])) t → Steps p.tables e below (T0.setTop (mkF m 58 #[.val (.int P0)] [])) t := fun t kt => pre12004 t (by
          show Steps p.tables e below (T0.setTop (mkF m 69 #[.val (.int P0)] [(.int (767 : Int32)), (.int P0)])) _
          refine XS.icmpNo X0.here hx rfl (hb hby d1_69) rfl (tlt hc69).2.2.2 ?_
          exact kt)
      obtain ⟨T12006, pc12006, L12006, lc12006, X12006, N12006, e12006, dc12006, st12006⟩ := tl1_72 P0 (a0 := a0) (Z := Z) X0 hx hZ hw hby hml hown e0 N0 Z0
      have hv : tf1_58 P0 = tf1_72 P0 := by unfold tf1_58; rw [if_neg hc62, if_pos hc69]
      rw [hv]
      exact ⟨T12006, pc12006, L12006, lc12006, X12006, N12006, e12006, dc12006, fun t kt => pre12005 t (st12006 t kt)⟩
    · have pre12007 : ∀ t, Steps p.tables e below (T0.setTop (mkF m 191 #[.val (.int P0)] [])) t → Steps p.tables e below (T0.setTop (mkF m 58 #[.val (.int P0)] [])) t := fun t kt => pre12004 t (by
          show Steps p.tables e below (T0.setTop (mkF m 69 #[.val (.int P0)] [(.int (767 : Int32)), (.int P0)])) _
          refine XS.icmpYes X0.here hx rfl (pc0 := 69) (pc' := 191) rfl (hb hby d1_69) rfl (flt hc69).2.2.2 (by decide) (by decide) ?_
          exact kt)
      obtain ⟨T12008, pc12008, L12008, lc12008, X12008, N12008, e12008, dc12008, st12008⟩ := tl1_191 P0 (a0 := a0) (Z := Z) X0 hx hZ hw hby hml hown e0 N0 Z0
      have hv : tf1_58 P0 = tf1_191 P0 := by unfold tf1_58; rw [if_neg hc62, if_neg hc69]
      rw [hv]
      exact ⟨T12008, pc12008, L12008, lc12008, X12008, N12008, e12008, dc12008, fun t kt => pre12007 t (st12008 t kt)⟩
theorem tb1_58 (P0 : Int32) : tf1_58 P0 = 0 ∨ tf1_58 P0 = 1 := by
  unfold tf1_58
  (repeat' split) <;> first | exact Or.inl rfl | exact Or.inr rfl | exact tb1_72 P0 | exact tb1_86 P0 | exact tb1_100 P0 | exact tb1_114 P0 | exact tb1_128 P0 | exact tb1_142 P0 | exact tb1_155 P0 | exact tb1_167 P0 | exact tb1_179 P0 | exact tb1_191 P0 | exact tb1_195 P0
def tf1_44 (P0 : Int32) : Int32 := (if P0 < (216 : Int32) then tf1_58 P0 else (if (246 : Int32) < P0 then tf1_58 P0 else tf1_191 P0))
set_option maxRecDepth 65536 in
set_option maxHeartbeats 40000000 in
theorem tl1_44 {p : Program} {l : Launch} {e : Env} {s : State} {m : MethodId} {args : Array Value} {below : List Frame} {meth : Method} {c : Code} {T0 : State} {locs : List Loc} {Z : State} {a0 : Array Value} {h0 : Heap} {n0 : Nat} (P0 : Int32)
    (X0 : Stand p l e ({ frames := 0, cells := 0, slots := 0, locals := 0 } : Room) s m args below meth c T0 locs 0 0) (hx : p.tables.exec = Jvm.exec) (hZ : Z.Warmed39 s.vm) (hw : ∀ d ∈ tables_1, d.before a0 Z = true) (hby : c.code = prog_162_method_3_code) (hml : c.maxLocals = 1) (hown : s.vm.findClass "com/example/postil/postil/rdf/NameCharacters" = some m.cls) (e0 : T0.heap = h0) (N0 : Fr n0 locs) (Z0 : n0 ≤ h0.size) :
    ∃ (T' : State) (pc' : Nat) (L' : Array Slot) (locs' : List Loc), Stand p l e ({ frames := 0, cells := 0, slots := 0, locals := 0 } : Room) s m args below meth c T' locs' 0 0 ∧ Fr n0 locs' ∧ T'.heap = h0 ∧ decode c.code pc' = .ok (.ireturn, 1) ∧ ∀ t, Steps p.tables e below (T'.setTop (mkF m pc' L' [.int (tf1_44 P0)])) t → Steps p.tables e below (T0.setTop (mkF m 44 #[.val (.int P0)] [])) t := by
  have pre0 : ∀ t, Steps p.tables e below (T0.setTop (mkF m 44 #[.val (.int P0)] [])) t → Steps p.tables e below (T0.setTop (mkF m 44 #[.val (.int P0)] [])) t := fun t k => k
  have pre13001 : ∀ t, Steps p.tables e below (T0.setTop (mkF m 48 #[.val (.int P0)] [(.int (216 : Int32)), (.int P0)])) t → Steps p.tables e below (T0.setTop (mkF m 44 #[.val (.int P0)] [])) t := fun t kt => pre0 t (by
      show Steps p.tables e below (T0.setTop (mkF m 44 #[.val (.int P0)] [])) _
      refine XS.iloadN X0.here hx rfl (hb hby d1_44) rfl ?_
      show Steps p.tables e below (T0.setTop (mkF m 45 #[.val (.int P0)] [(.int P0)])) _
      refine XS.sipush X0.here hx rfl (hb hby d1_45) ?_
      exact kt)
  by_cases hc48 : P0 < (216 : Int32)
  · have pre13002 : ∀ t, Steps p.tables e below (T0.setTop (mkF m 58 #[.val (.int P0)] [])) t → Steps p.tables e below (T0.setTop (mkF m 44 #[.val (.int P0)] [])) t := fun t kt => pre13001 t (by
        show Steps p.tables e below (T0.setTop (mkF m 48 #[.val (.int P0)] [(.int (216 : Int32)), (.int P0)])) _
        refine XS.icmpYes X0.here hx rfl (pc0 := 48) (pc' := 58) rfl (hb hby d1_48) rfl (tlt hc48).1 (by decide) (by decide) ?_
        exact kt)
    obtain ⟨T13003, pc13003, L13003, lc13003, X13003, N13003, e13003, dc13003, st13003⟩ := tl1_58 P0 (a0 := a0) (Z := Z) X0 hx hZ hw hby hml hown e0 N0 Z0
    have hv : tf1_44 P0 = tf1_58 P0 := by unfold tf1_44; rw [if_pos hc48]
    rw [hv]
    exact ⟨T13003, pc13003, L13003, lc13003, X13003, N13003, e13003, dc13003, fun t kt => pre13002 t (st13003 t kt)⟩
  · have pre13004 : ∀ t, Steps p.tables e below (T0.setTop (mkF m 55 #[.val (.int P0)] [(.int (246 : Int32)), (.int P0)])) t → Steps p.tables e below (T0.setTop (mkF m 44 #[.val (.int P0)] [])) t := fun t kt => pre13001 t (by
        show Steps p.tables e below (T0.setTop (mkF m 48 #[.val (.int P0)] [(.int (216 : Int32)), (.int P0)])) _
        refine XS.icmpNo X0.here hx rfl (hb hby d1_48) rfl (flt hc48).1 ?_
        show Steps p.tables e below (T0.setTop (mkF m 51 #[.val (.int P0)] [])) _
        refine XS.iloadN X0.here hx rfl (hb hby d1_51) rfl ?_
        show Steps p.tables e below (T0.setTop (mkF m 52 #[.val (.int P0)] [(.int P0)])) _
        refine XS.sipush X0.here hx rfl (hb hby d1_52) ?_
        exact kt)
    by_cases hc55 : (246 : Int32) < P0
    · have pre13005 : ∀ t, Steps p.tables e below (T0.setTop (mkF m 58 #[.val (.int P0)] [])) t → Steps p.tables e below (T0.setTop (mkF m 44 #[.val (.int P0)] [])) t := fun t kt => pre13004 t (by
          show Steps p.tables e below (T0.setTop (mkF m 55 #[.val (.int P0)] [(.int (246 : Int32)), (.int P0)])) _
          refine XS.icmpNo X0.here hx rfl (hb hby d1_55) rfl (tlt hc55).2.2.2 ?_
          exact kt)
      obtain ⟨T13006, pc13006, L13006, lc13006, X13006, N13006, e13006, dc13006, st13006⟩ := tl1_58 P0 (a0 := a0) (Z := Z) X0 hx hZ hw hby hml hown e0 N0 Z0
      have hv : tf1_44 P0 = tf1_58 P0 := by unfold tf1_44; rw [if_neg hc48, if_pos hc55]
      rw [hv]
      exact ⟨T13006, pc13006, L13006, lc13006, X13006, N13006, e13006, dc13006, fun t kt => pre13005 t (st13006 t kt)⟩
    · have pre13007 : ∀ t, Steps p.tables e below (T0.setTop (mkF m 191 #[.val (.int P0)] [])) t → Steps p.tables e below (T0.setTop (mkF m 44 #[.val (.int P0)] [])) t := fun t kt => pre13004 t (by
          show Steps p.tables e below (T0.setTop (mkF m 55 #[.val (.int P0)] [(.int (246 : Int32)), (.int P0)])) _
          refine XS.icmpYes X0.here hx rfl (pc0 := 55) (pc' := 191) rfl (hb hby d1_55) rfl (flt hc55).2.2.2 (by decide) (by decide) ?_
          exact kt)
      obtain ⟨T13008, pc13008, L13008, lc13008, X13008, N13008, e13008, dc13008, st13008⟩ := tl1_191 P0 (a0 := a0) (Z := Z) X0 hx hZ hw hby hml hown e0 N0 Z0
      have hv : tf1_44 P0 = tf1_191 P0 := by unfold tf1_44; rw [if_neg hc48, if_neg hc55]
      rw [hv]
      exact ⟨T13008, pc13008, L13008, lc13008, X13008, N13008, e13008, dc13008, fun t kt => pre13007 t (st13008 t kt)⟩
theorem tb1_44 (P0 : Int32) : tf1_44 P0 = 0 ∨ tf1_44 P0 = 1 := by
  unfold tf1_44
  (repeat' split) <;> first | exact Or.inl rfl | exact Or.inr rfl | exact tb1_58 P0 | exact tb1_72 P0 | exact tb1_86 P0 | exact tb1_100 P0 | exact tb1_114 P0 | exact tb1_128 P0 | exact tb1_142 P0 | exact tb1_155 P0 | exact tb1_167 P0 | exact tb1_179 P0 | exact tb1_191 P0 | exact tb1_195 P0
def tf1_30 (P0 : Int32) : Int32 := (if P0 < (192 : Int32) then tf1_44 P0 else (if (214 : Int32) < P0 then tf1_44 P0 else tf1_191 P0))
set_option maxRecDepth 65536 in
set_option maxHeartbeats 40000000 in
theorem tl1_30 {p : Program} {l : Launch} {e : Env} {s : State} {m : MethodId} {args : Array Value} {below : List Frame} {meth : Method} {c : Code} {T0 : State} {locs : List Loc} {Z : State} {a0 : Array Value} {h0 : Heap} {n0 : Nat} (P0 : Int32)
    (X0 : Stand p l e ({ frames := 0, cells := 0, slots := 0, locals := 0 } : Room) s m args below meth c T0 locs 0 0) (hx : p.tables.exec = Jvm.exec) (hZ : Z.Warmed39 s.vm) (hw : ∀ d ∈ tables_1, d.before a0 Z = true) (hby : c.code = prog_162_method_3_code) (hml : c.maxLocals = 1) (hown : s.vm.findClass "com/example/postil/postil/rdf/NameCharacters" = some m.cls) (e0 : T0.heap = h0) (N0 : Fr n0 locs) (Z0 : n0 ≤ h0.size) :
    ∃ (T' : State) (pc' : Nat) (L' : Array Slot) (locs' : List Loc), Stand p l e ({ frames := 0, cells := 0, slots := 0, locals := 0 } : Room) s m args below meth c T' locs' 0 0 ∧ Fr n0 locs' ∧ T'.heap = h0 ∧ decode c.code pc' = .ok (.ireturn, 1) ∧ ∀ t, Steps p.tables e below (T'.setTop (mkF m pc' L' [.int (tf1_30 P0)])) t → Steps p.tables e below (T0.setTop (mkF m 30 #[.val (.int P0)] [])) t := by
  have pre0 : ∀ t, Steps p.tables e below (T0.setTop (mkF m 30 #[.val (.int P0)] [])) t → Steps p.tables e below (T0.setTop (mkF m 30 #[.val (.int P0)] [])) t := fun t k => k
  have pre14001 : ∀ t, Steps p.tables e below (T0.setTop (mkF m 34 #[.val (.int P0)] [(.int (192 : Int32)), (.int P0)])) t → Steps p.tables e below (T0.setTop (mkF m 30 #[.val (.int P0)] [])) t := fun t kt => pre0 t (by
      show Steps p.tables e below (T0.setTop (mkF m 30 #[.val (.int P0)] [])) _
      refine XS.iloadN X0.here hx rfl (hb hby d1_30) rfl ?_
      show Steps p.tables e below (T0.setTop (mkF m 31 #[.val (.int P0)] [(.int P0)])) _
      refine XS.sipush X0.here hx rfl (hb hby d1_31) ?_
      exact kt)
  by_cases hc34 : P0 < (192 : Int32)
  · have pre14002 : ∀ t, Steps p.tables e below (T0.setTop (mkF m 44 #[.val (.int P0)] [])) t → Steps p.tables e below (T0.setTop (mkF m 30 #[.val (.int P0)] [])) t := fun t kt => pre14001 t (by
        show Steps p.tables e below (T0.setTop (mkF m 34 #[.val (.int P0)] [(.int (192 : Int32)), (.int P0)])) _
        refine XS.icmpYes X0.here hx rfl (pc0 := 34) (pc' := 44) rfl (hb hby d1_34) rfl (tlt hc34).1 (by decide) (by decide) ?_
        exact kt)
    obtain ⟨T14003, pc14003, L14003, lc14003, X14003, N14003, e14003, dc14003, st14003⟩ := tl1_44 P0 (a0 := a0) (Z := Z) X0 hx hZ hw hby hml hown e0 N0 Z0
    have hv : tf1_30 P0 = tf1_44 P0 := by unfold tf1_30; rw [if_pos hc34]
    rw [hv]
    exact ⟨T14003, pc14003, L14003, lc14003, X14003, N14003, e14003, dc14003, fun t kt => pre14002 t (st14003 t kt)⟩
  · have pre14004 : ∀ t, Steps p.tables e below (T0.setTop (mkF m 41 #[.val (.int P0)] [(.int (214 : Int32)), (.int P0)])) t → Steps p.tables e below (T0.setTop (mkF m 30 #[.val (.int P0)] [])) t := fun t kt => pre14001 t (by
        show Steps p.tables e below (T0.setTop (mkF m 34 #[.val (.int P0)] [(.int (192 : Int32)), (.int P0)])) _
        refine XS.icmpNo X0.here hx rfl (hb hby d1_34) rfl (flt hc34).1 ?_
        show Steps p.tables e below (T0.setTop (mkF m 37 #[.val (.int P0)] [])) _
        refine XS.iloadN X0.here hx rfl (hb hby d1_37) rfl ?_
        show Steps p.tables e below (T0.setTop (mkF m 38 #[.val (.int P0)] [(.int P0)])) _
        refine XS.sipush X0.here hx rfl (hb hby d1_38) ?_
        exact kt)
    by_cases hc41 : (214 : Int32) < P0
    · have pre14005 : ∀ t, Steps p.tables e below (T0.setTop (mkF m 44 #[.val (.int P0)] [])) t → Steps p.tables e below (T0.setTop (mkF m 30 #[.val (.int P0)] [])) t := fun t kt => pre14004 t (by
          show Steps p.tables e below (T0.setTop (mkF m 41 #[.val (.int P0)] [(.int (214 : Int32)), (.int P0)])) _
          refine XS.icmpNo X0.here hx rfl (hb hby d1_41) rfl (tlt hc41).2.2.2 ?_
          exact kt)
      obtain ⟨T14006, pc14006, L14006, lc14006, X14006, N14006, e14006, dc14006, st14006⟩ := tl1_44 P0 (a0 := a0) (Z := Z) X0 hx hZ hw hby hml hown e0 N0 Z0
      have hv : tf1_30 P0 = tf1_44 P0 := by unfold tf1_30; rw [if_neg hc34, if_pos hc41]
      rw [hv]
      exact ⟨T14006, pc14006, L14006, lc14006, X14006, N14006, e14006, dc14006, fun t kt => pre14005 t (st14006 t kt)⟩
    · have pre14007 : ∀ t, Steps p.tables e below (T0.setTop (mkF m 191 #[.val (.int P0)] [])) t → Steps p.tables e below (T0.setTop (mkF m 30 #[.val (.int P0)] [])) t := fun t kt => pre14004 t (by
          show Steps p.tables e below (T0.setTop (mkF m 41 #[.val (.int P0)] [(.int (214 : Int32)), (.int P0)])) _
          refine XS.icmpYes X0.here hx rfl (pc0 := 41) (pc' := 191) rfl (hb hby d1_41) rfl (flt hc41).2.2.2 (by decide) (by decide) ?_
          exact kt)
      obtain ⟨T14008, pc14008, L14008, lc14008, X14008, N14008, e14008, dc14008, st14008⟩ := tl1_191 P0 (a0 := a0) (Z := Z) X0 hx hZ hw hby hml hown e0 N0 Z0
      have hv : tf1_30 P0 = tf1_191 P0 := by unfold tf1_30; rw [if_neg hc34, if_neg hc41]
      rw [hv]
      exact ⟨T14008, pc14008, L14008, lc14008, X14008, N14008, e14008, dc14008, fun t kt => pre14007 t (st14008 t kt)⟩
theorem tb1_30 (P0 : Int32) : tf1_30 P0 = 0 ∨ tf1_30 P0 = 1 := by
  unfold tf1_30
  (repeat' split) <;> first | exact Or.inl rfl | exact Or.inr rfl | exact tb1_44 P0 | exact tb1_58 P0 | exact tb1_72 P0 | exact tb1_86 P0 | exact tb1_100 P0 | exact tb1_114 P0 | exact tb1_128 P0 | exact tb1_142 P0 | exact tb1_155 P0 | exact tb1_167 P0 | exact tb1_179 P0 | exact tb1_191 P0 | exact tb1_195 P0
def tf1_24 (P0 : Int32) : Int32 := (if P0 = (95 : Int32) then tf1_191 P0 else tf1_30 P0)
set_option maxRecDepth 65536 in
set_option maxHeartbeats 40000000 in
theorem tl1_24 {p : Program} {l : Launch} {e : Env} {s : State} {m : MethodId} {args : Array Value} {below : List Frame} {meth : Method} {c : Code} {T0 : State} {locs : List Loc} {Z : State} {a0 : Array Value} {h0 : Heap} {n0 : Nat} (P0 : Int32)
    (X0 : Stand p l e ({ frames := 0, cells := 0, slots := 0, locals := 0 } : Room) s m args below meth c T0 locs 0 0) (hx : p.tables.exec = Jvm.exec) (hZ : Z.Warmed39 s.vm) (hw : ∀ d ∈ tables_1, d.before a0 Z = true) (hby : c.code = prog_162_method_3_code) (hml : c.maxLocals = 1) (hown : s.vm.findClass "com/example/postil/postil/rdf/NameCharacters" = some m.cls) (e0 : T0.heap = h0) (N0 : Fr n0 locs) (Z0 : n0 ≤ h0.size) :
    ∃ (T' : State) (pc' : Nat) (L' : Array Slot) (locs' : List Loc), Stand p l e ({ frames := 0, cells := 0, slots := 0, locals := 0 } : Room) s m args below meth c T' locs' 0 0 ∧ Fr n0 locs' ∧ T'.heap = h0 ∧ decode c.code pc' = .ok (.ireturn, 1) ∧ ∀ t, Steps p.tables e below (T'.setTop (mkF m pc' L' [.int (tf1_24 P0)])) t → Steps p.tables e below (T0.setTop (mkF m 24 #[.val (.int P0)] [])) t := by
  have pre0 : ∀ t, Steps p.tables e below (T0.setTop (mkF m 24 #[.val (.int P0)] [])) t → Steps p.tables e below (T0.setTop (mkF m 24 #[.val (.int P0)] [])) t := fun t k => k
  have pre15001 : ∀ t, Steps p.tables e below (T0.setTop (mkF m 27 #[.val (.int P0)] [(.int (95 : Int32)), (.int P0)])) t → Steps p.tables e below (T0.setTop (mkF m 24 #[.val (.int P0)] [])) t := fun t kt => pre0 t (by
      show Steps p.tables e below (T0.setTop (mkF m 24 #[.val (.int P0)] [])) _
      refine XS.iloadN X0.here hx rfl (hb hby d1_24) rfl ?_
      show Steps p.tables e below (T0.setTop (mkF m 25 #[.val (.int P0)] [(.int P0)])) _
      refine XS.bipush X0.here hx rfl (hb hby d1_25) ?_
      exact kt)
  by_cases hc27 : P0 = (95 : Int32)
  · have pre15002 : ∀ t, Steps p.tables e below (T0.setTop (mkF m 191 #[.val (.int P0)] [])) t → Steps p.tables e below (T0.setTop (mkF m 24 #[.val (.int P0)] [])) t := fun t kt => pre15001 t (by
        show Steps p.tables e below (T0.setTop (mkF m 27 #[.val (.int P0)] [(.int (95 : Int32)), (.int P0)])) _
        refine XS.icmpYes X0.here hx rfl (pc0 := 27) (pc' := 191) rfl (hb hby d1_27) rfl (teq hc27).1 (by decide) (by decide) ?_
        exact kt)
    obtain ⟨T15003, pc15003, L15003, lc15003, X15003, N15003, e15003, dc15003, st15003⟩ := tl1_191 P0 (a0 := a0) (Z := Z) X0 hx hZ hw hby hml hown e0 N0 Z0
    have hv : tf1_24 P0 = tf1_191 P0 := by unfold tf1_24; rw [if_pos hc27]
    rw [hv]
    exact ⟨T15003, pc15003, L15003, lc15003, X15003, N15003, e15003, dc15003, fun t kt => pre15002 t (st15003 t kt)⟩
  · have pre15004 : ∀ t, Steps p.tables e below (T0.setTop (mkF m 30 #[.val (.int P0)] [])) t → Steps p.tables e below (T0.setTop (mkF m 24 #[.val (.int P0)] [])) t := fun t kt => pre15001 t (by
        show Steps p.tables e below (T0.setTop (mkF m 27 #[.val (.int P0)] [(.int (95 : Int32)), (.int P0)])) _
        refine XS.icmpNo X0.here hx rfl (hb hby d1_27) rfl (feq hc27).1 ?_
        exact kt)
    obtain ⟨T15005, pc15005, L15005, lc15005, X15005, N15005, e15005, dc15005, st15005⟩ := tl1_30 P0 (a0 := a0) (Z := Z) X0 hx hZ hw hby hml hown e0 N0 Z0
    have hv : tf1_24 P0 = tf1_30 P0 := by unfold tf1_24; rw [if_neg hc27]
    rw [hv]
    exact ⟨T15005, pc15005, L15005, lc15005, X15005, N15005, e15005, dc15005, fun t kt => pre15004 t (st15005 t kt)⟩
theorem tb1_24 (P0 : Int32) : tf1_24 P0 = 0 ∨ tf1_24 P0 = 1 := by
  unfold tf1_24
  (repeat' split) <;> first | exact Or.inl rfl | exact Or.inr rfl | exact tb1_30 P0 | exact tb1_44 P0 | exact tb1_58 P0 | exact tb1_72 P0 | exact tb1_86 P0 | exact tb1_100 P0 | exact tb1_114 P0 | exact tb1_128 P0 | exact tb1_142 P0 | exact tb1_155 P0 | exact tb1_167 P0 | exact tb1_179 P0 | exact tb1_191 P0 | exact tb1_195 P0
def tf1_12 (P0 : Int32) : Int32 := (if P0 < (65 : Int32) then tf1_24 P0 else (if (90 : Int32) < P0 then tf1_24 P0 else tf1_191 P0))
set_option maxRecDepth 65536 in
set_option maxHeartbeats 40000000 in
theorem tl1_12 {p : Program} {l : Launch} {e : Env} {s : State} {m : MethodId} {args : Array Value} {below : List Frame} {meth : Method} {c : Code} {T0 : State} {locs : List Loc} {Z : State} {a0 : Array Value} {h0 : Heap} {n0 : Nat} (P0 : Int32)
    (X0 : Stand p l e ({ frames := 0, cells := 0, slots := 0, locals := 0 } : Room) s m args below meth c T0 locs 0 0) (hx : p.tables.exec = Jvm.exec) (hZ : Z.Warmed39 s.vm) (hw : ∀ d ∈ tables_1, d.before a0 Z = true) (hby : c.code = prog_162_method_3_code) (hml : c.maxLocals = 1) (hown : s.vm.findClass "com/example/postil/postil/rdf/NameCharacters" = some m.cls) (e0 : T0.heap = h0) (N0 : Fr n0 locs) (Z0 : n0 ≤ h0.size) :
    ∃ (T' : State) (pc' : Nat) (L' : Array Slot) (locs' : List Loc), Stand p l e ({ frames := 0, cells := 0, slots := 0, locals := 0 } : Room) s m args below meth c T' locs' 0 0 ∧ Fr n0 locs' ∧ T'.heap = h0 ∧ decode c.code pc' = .ok (.ireturn, 1) ∧ ∀ t, Steps p.tables e below (T'.setTop (mkF m pc' L' [.int (tf1_12 P0)])) t → Steps p.tables e below (T0.setTop (mkF m 12 #[.val (.int P0)] [])) t := by
  have pre0 : ∀ t, Steps p.tables e below (T0.setTop (mkF m 12 #[.val (.int P0)] [])) t → Steps p.tables e below (T0.setTop (mkF m 12 #[.val (.int P0)] [])) t := fun t k => k
  have pre16001 : ∀ t, Steps p.tables e below (T0.setTop (mkF m 15 #[.val (.int P0)] [(.int (65 : Int32)), (.int P0)])) t → Steps p.tables e below (T0.setTop (mkF m 12 #[.val (.int P0)] [])) t := fun t kt => pre0 t (by
      show Steps p.tables e below (T0.setTop (mkF m 12 #[.val (.int P0)] [])) _
      refine XS.iloadN X0.here hx rfl (hb hby d1_12) rfl ?_
      show Steps p.tables e below (T0.setTop (mkF m 13 #[.val (.int P0)] [(.int P0)])) _
      refine XS.bipush X0.here hx rfl (hb hby d1_13) ?_
      exact kt)
  by_cases hc15 : P0 < (65 : Int32)
  · have pre16002 : ∀ t, Steps p.tables e below (T0.setTop (mkF m 24 #[.val (.int P0)] [])) t → Steps p.tables e below (T0.setTop (mkF m 12 #[.val (.int P0)] [])) t := fun t kt => pre16001 t (by
        show Steps p.tables e below (T0.setTop (mkF m 15 #[.val (.int P0)] [(.int (65 : Int32)), (.int P0)])) _
        refine XS.icmpYes X0.here hx rfl (pc0 := 15) (pc' := 24) rfl (hb hby d1_15) rfl (tlt hc15).1 (by decide) (by decide) ?_
        exact kt)
    obtain ⟨T16003, pc16003, L16003, lc16003, X16003, N16003, e16003, dc16003, st16003⟩ := tl1_24 P0 (a0 := a0) (Z := Z) X0 hx hZ hw hby hml hown e0 N0 Z0
    have hv : tf1_12 P0 = tf1_24 P0 := by unfold tf1_12; rw [if_pos hc15]
    rw [hv]
    exact ⟨T16003, pc16003, L16003, lc16003, X16003, N16003, e16003, dc16003, fun t kt => pre16002 t (st16003 t kt)⟩
  · have pre16004 : ∀ t, Steps p.tables e below (T0.setTop (mkF m 21 #[.val (.int P0)] [(.int (90 : Int32)), (.int P0)])) t → Steps p.tables e below (T0.setTop (mkF m 12 #[.val (.int P0)] [])) t := fun t kt => pre16001 t (by
        show Steps p.tables e below (T0.setTop (mkF m 15 #[.val (.int P0)] [(.int (65 : Int32)), (.int P0)])) _
        refine XS.icmpNo X0.here hx rfl (hb hby d1_15) rfl (flt hc15).1 ?_
        show Steps p.tables e below (T0.setTop (mkF m 18 #[.val (.int P0)] [])) _
        refine XS.iloadN X0.here hx rfl (hb hby d1_18) rfl ?_
        show Steps p.tables e below (T0.setTop (mkF m 19 #[.val (.int P0)] [(.int P0)])) _
        refine XS.bipush X0.here hx rfl (hb hby d1_19) ?_
        exact kt)
    by_cases hc21 : (90 : Int32) < P0
    · have pre16005 : ∀ t, Steps p.tables e below (T0.setTop (mkF m 24 #[.val (.int P0)] [])) t → Steps p.tables e below (T0.setTop (mkF m 12 #[.val (.int P0)] [])) t := fun t kt => pre16004 t (by
          show Steps p.tables e below (T0.setTop (mkF m 21 #[.val (.int P0)] [(.int (90 : Int32)), (.int P0)])) _
          refine XS.icmpNo X0.here hx rfl (hb hby d1_21) rfl (tlt hc21).2.2.2 ?_
          exact kt)
      obtain ⟨T16006, pc16006, L16006, lc16006, X16006, N16006, e16006, dc16006, st16006⟩ := tl1_24 P0 (a0 := a0) (Z := Z) X0 hx hZ hw hby hml hown e0 N0 Z0
      have hv : tf1_12 P0 = tf1_24 P0 := by unfold tf1_12; rw [if_neg hc15, if_pos hc21]
      rw [hv]
      exact ⟨T16006, pc16006, L16006, lc16006, X16006, N16006, e16006, dc16006, fun t kt => pre16005 t (st16006 t kt)⟩
    · have pre16007 : ∀ t, Steps p.tables e below (T0.setTop (mkF m 191 #[.val (.int P0)] [])) t → Steps p.tables e below (T0.setTop (mkF m 12 #[.val (.int P0)] [])) t := fun t kt => pre16004 t (by
          show Steps p.tables e below (T0.setTop (mkF m 21 #[.val (.int P0)] [(.int (90 : Int32)), (.int P0)])) _
          refine XS.icmpYes X0.here hx rfl (pc0 := 21) (pc' := 191) rfl (hb hby d1_21) rfl (flt hc21).2.2.2 (by decide) (by decide) ?_
          exact kt)
      obtain ⟨T16008, pc16008, L16008, lc16008, X16008, N16008, e16008, dc16008, st16008⟩ := tl1_191 P0 (a0 := a0) (Z := Z) X0 hx hZ hw hby hml hown e0 N0 Z0
      have hv : tf1_12 P0 = tf1_191 P0 := by unfold tf1_12; rw [if_neg hc15, if_neg hc21]
      rw [hv]
      exact ⟨T16008, pc16008, L16008, lc16008, X16008, N16008, e16008, dc16008, fun t kt => pre16007 t (st16008 t kt)⟩
theorem tb1_12 (P0 : Int32) : tf1_12 P0 = 0 ∨ tf1_12 P0 = 1 := by
  unfold tf1_12
  (repeat' split) <;> first | exact Or.inl rfl | exact Or.inr rfl | exact tb1_24 P0 | exact tb1_30 P0 | exact tb1_44 P0 | exact tb1_58 P0 | exact tb1_72 P0 | exact tb1_86 P0 | exact tb1_100 P0 | exact tb1_114 P0 | exact tb1_128 P0 | exact tb1_142 P0 | exact tb1_155 P0 | exact tb1_167 P0 | exact tb1_179 P0 | exact tb1_191 P0 | exact tb1_195 P0
def tf1_0 (P0 : Int32) : Int32 := (if P0 < (97 : Int32) then tf1_12 P0 else (if (122 : Int32) < P0 then tf1_12 P0 else tf1_191 P0))
set_option maxRecDepth 65536 in
set_option maxHeartbeats 40000000 in
theorem tl1_0 {p : Program} {l : Launch} {e : Env} {s : State} {m : MethodId} {args : Array Value} {below : List Frame} {meth : Method} {c : Code} {T0 : State} {locs : List Loc} {Z : State} {a0 : Array Value} {h0 : Heap} {n0 : Nat} (P0 : Int32)
    (X0 : Stand p l e ({ frames := 0, cells := 0, slots := 0, locals := 0 } : Room) s m args below meth c T0 locs 0 0) (hx : p.tables.exec = Jvm.exec) (hZ : Z.Warmed39 s.vm) (hw : ∀ d ∈ tables_1, d.before a0 Z = true) (hby : c.code = prog_162_method_3_code) (hml : c.maxLocals = 1) (hown : s.vm.findClass "com/example/postil/postil/rdf/NameCharacters" = some m.cls) (e0 : T0.heap = h0) (N0 : Fr n0 locs) (Z0 : n0 ≤ h0.size) :
    ∃ (T' : State) (pc' : Nat) (L' : Array Slot) (locs' : List Loc), Stand p l e ({ frames := 0, cells := 0, slots := 0, locals := 0 } : Room) s m args below meth c T' locs' 0 0 ∧ Fr n0 locs' ∧ T'.heap = h0 ∧ decode c.code pc' = .ok (.ireturn, 1) ∧ ∀ t, Steps p.tables e below (T'.setTop (mkF m pc' L' [.int (tf1_0 P0)])) t → Steps p.tables e below (T0.setTop (mkF m 0 #[.val (.int P0)] [])) t := by
  have pre0 : ∀ t, Steps p.tables e below (T0.setTop (mkF m 0 #[.val (.int P0)] [])) t → Steps p.tables e below (T0.setTop (mkF m 0 #[.val (.int P0)] [])) t := fun t k => k
  have pre17001 : ∀ t, Steps p.tables e below (T0.setTop (mkF m 3 #[.val (.int P0)] [(.int (97 : Int32)), (.int P0)])) t → Steps p.tables e below (T0.setTop (mkF m 0 #[.val (.int P0)] [])) t := fun t kt => pre0 t (by
      show Steps p.tables e below (T0.setTop (mkF m 0 #[.val (.int P0)] [])) _
      refine XS.iloadN X0.here hx rfl (hb hby d1_0) rfl ?_
      show Steps p.tables e below (T0.setTop (mkF m 1 #[.val (.int P0)] [(.int P0)])) _
      refine XS.bipush X0.here hx rfl (hb hby d1_1) ?_
      exact kt)
  by_cases hc3 : P0 < (97 : Int32)
  · have pre17002 : ∀ t, Steps p.tables e below (T0.setTop (mkF m 12 #[.val (.int P0)] [])) t → Steps p.tables e below (T0.setTop (mkF m 0 #[.val (.int P0)] [])) t := fun t kt => pre17001 t (by
        show Steps p.tables e below (T0.setTop (mkF m 3 #[.val (.int P0)] [(.int (97 : Int32)), (.int P0)])) _
        refine XS.icmpYes X0.here hx rfl (pc0 := 3) (pc' := 12) rfl (hb hby d1_3) rfl (tlt hc3).1 (by decide) (by decide) ?_
        exact kt)
    obtain ⟨T17003, pc17003, L17003, lc17003, X17003, N17003, e17003, dc17003, st17003⟩ := tl1_12 P0 (a0 := a0) (Z := Z) X0 hx hZ hw hby hml hown e0 N0 Z0
    have hv : tf1_0 P0 = tf1_12 P0 := by unfold tf1_0; rw [if_pos hc3]
    rw [hv]
    exact ⟨T17003, pc17003, L17003, lc17003, X17003, N17003, e17003, dc17003, fun t kt => pre17002 t (st17003 t kt)⟩
  · have pre17004 : ∀ t, Steps p.tables e below (T0.setTop (mkF m 9 #[.val (.int P0)] [(.int (122 : Int32)), (.int P0)])) t → Steps p.tables e below (T0.setTop (mkF m 0 #[.val (.int P0)] [])) t := fun t kt => pre17001 t (by
        show Steps p.tables e below (T0.setTop (mkF m 3 #[.val (.int P0)] [(.int (97 : Int32)), (.int P0)])) _
        refine XS.icmpNo X0.here hx rfl (hb hby d1_3) rfl (flt hc3).1 ?_
        show Steps p.tables e below (T0.setTop (mkF m 6 #[.val (.int P0)] [])) _
        refine XS.iloadN X0.here hx rfl (hb hby d1_6) rfl ?_
        show Steps p.tables e below (T0.setTop (mkF m 7 #[.val (.int P0)] [(.int P0)])) _
        refine XS.bipush X0.here hx rfl (hb hby d1_7) ?_
        exact kt)
    by_cases hc9 : (122 : Int32) < P0
    · have pre17005 : ∀ t, Steps p.tables e below (T0.setTop (mkF m 12 #[.val (.int P0)] [])) t → Steps p.tables e below (T0.setTop (mkF m 0 #[.val (.int P0)] [])) t := fun t kt => pre17004 t (by
          show Steps p.tables e below (T0.setTop (mkF m 9 #[.val (.int P0)] [(.int (122 : Int32)), (.int P0)])) _
          refine XS.icmpNo X0.here hx rfl (hb hby d1_9) rfl (tlt hc9).2.2.2 ?_
          exact kt)
      obtain ⟨T17006, pc17006, L17006, lc17006, X17006, N17006, e17006, dc17006, st17006⟩ := tl1_12 P0 (a0 := a0) (Z := Z) X0 hx hZ hw hby hml hown e0 N0 Z0
      have hv : tf1_0 P0 = tf1_12 P0 := by unfold tf1_0; rw [if_neg hc3, if_pos hc9]
      rw [hv]
      exact ⟨T17006, pc17006, L17006, lc17006, X17006, N17006, e17006, dc17006, fun t kt => pre17005 t (st17006 t kt)⟩
    · have pre17007 : ∀ t, Steps p.tables e below (T0.setTop (mkF m 191 #[.val (.int P0)] [])) t → Steps p.tables e below (T0.setTop (mkF m 0 #[.val (.int P0)] [])) t := fun t kt => pre17004 t (by
          show Steps p.tables e below (T0.setTop (mkF m 9 #[.val (.int P0)] [(.int (122 : Int32)), (.int P0)])) _
          refine XS.icmpYes X0.here hx rfl (pc0 := 9) (pc' := 191) rfl (hb hby d1_9) rfl (flt hc9).2.2.2 (by decide) (by decide) ?_
          exact kt)
      obtain ⟨T17008, pc17008, L17008, lc17008, X17008, N17008, e17008, dc17008, st17008⟩ := tl1_191 P0 (a0 := a0) (Z := Z) X0 hx hZ hw hby hml hown e0 N0 Z0
      have hv : tf1_0 P0 = tf1_191 P0 := by unfold tf1_0; rw [if_neg hc3, if_neg hc9]
      rw [hv]
      exact ⟨T17008, pc17008, L17008, lc17008, X17008, N17008, e17008, dc17008, fun t kt => pre17007 t (st17008 t kt)⟩
theorem tb1_0 (P0 : Int32) : tf1_0 P0 = 0 ∨ tf1_0 P0 = 1 := by
  unfold tf1_0
  (repeat' split) <;> first | exact Or.inl rfl | exact Or.inr rfl | exact tb1_12 P0 | exact tb1_24 P0 | exact tb1_30 P0 | exact tb1_44 P0 | exact tb1_58 P0 | exact tb1_72 P0 | exact tb1_86 P0 | exact tb1_100 P0 | exact tb1_114 P0 | exact tb1_128 P0 | exact tb1_142 P0 | exact tb1_155 P0 | exact tb1_167 P0 | exact tb1_179 P0 | exact tb1_191 P0 | exact tb1_195 P0
def Q1 (Z : State) (P0 : Int32) (h0 : Heap) (n0 : Nat) (v : Option Value) (h : Heap) (L : List Loc) : Prop := (v = some (.int (tf1_0 P0))) ∧ (Fr n0 L) ∧ (h = h0)
set_option maxRecDepth 65536 in
set_option maxHeartbeats 40000000 in
theorem rm1 (l : Launch) (Z : State) (a0 : Array Value) (hw : ∀ d ∈ tables_1, d.before a0 Z = true) (ws : List Jvm.Cond) (P0 : Int32) (h0 : Heap) (n0 : Nat) (Z0 : n0 ≤ h0.size) :
    MetFree l (⟨"com/example/postil/postil/rdf/NameCharacters", "isStart", "(I)Z"⟩ : MethodName) (head1 (Jvm.Cond.code (⟨"com/example/postil/postil/rdf/NameCharacters", "isStart", "(I)Z"⟩ : MethodName) prog_162_method_3_code 1 (some .boolean) :: ws) ({ frames := 0, cells := 0, slots := 0, locals := 0 } : Room)) (fun a U => a = #[(.int P0)] ∧ Z.Warmed39 U.vm ∧ U.heap = h0) (fun _ _ _ _ _ => True) (fun _ U o U' => ∃ v L, o = .returned v ∧ Q1 Z P0 h0 n0 v U'.heap L ∧ FrameEnd U o U' L ({ frames := 0, cells := 0, slots := 0, locals := 0 } : Room).cells ({ frames := 0, cells := 0, slots := 0, locals := 0 } : Room).slots) := by
  refine MetFree.of_bodySF (plainFor_of_name pn_1) hisR ?_
  intro p e s m args below meth c s₁ Bd hml0 hP hK
  obtain ⟨rfl, hZ, hh⟩ := hP
  have hx := Bd.exec
  have hby := Bd.bytes
  have hml : c.maxLocals = 1 := hml0
  have hown : s.vm.findClass "com/example/postil/postil/rdf/NameCharacters" = some m.cls := findClass_of_methodNamed Bd.named
  have X0 : Stand p l e ({ frames := 0, cells := 0, slots := 0, locals := 0 } : Room) s m #[(.int P0)] below meth c s₁ [] 0 0 := Stand.of_body Bd
  have e0 : s₁.heap = h0 := by rw [← hh, Bd.state]; rfl
  obtain ⟨T1, pc1, L1, lc1, X1, N1, e1, dc1, st1⟩ := tl1_0 P0 (a0 := a0) (Z := Z) X0 hx hZ hw hby hml hown e0 (Fr.nil n0) Z0
  obtain ⟨fs, hr, hrun, hended, hW, hsame⟩ := X1.leave (v := some (.int (tf1_0 P0))) (fun h => by rw [Bd.returns] at h; cases h)
  refine ⟨_, _, castTop (ef_1 m P0) (st1 _ ?_), hrun, hended, _, _, rfl, ?_, ⟨_, rfl⟩, hW, hsame.mono (by decide) (by decide)⟩
  · refine retN X1 hx (t := .boolean) Bd.returns (by simp) dc1 ?_
    rw [show nar .boolean (tf1_0 P0) = tf1_0 P0 from by rcases tb1_0 P0 with q | q <;> rw [q] <;> rfl]
    exact hr
  · show Q1 Z P0 h0 n0 _ T1.heap _
    rw [e1]
    exact ⟨rfl, N1, rfl⟩
theorem d2_0 : decode method_3_code 0 = .ok (.iload_n 0, 1) := by decide +kernel
theorem d2_1 : decode method_3_code 1 = .ok (.bipush 65, 2) := by decide +kernel
theorem d2_3 : decode method_3_code 3 = .ok (.ldc 7, 2) := by decide +kernel
theorem d2_5 : decode method_3_code 5 = .ok (.invokestatic 8, 3) := by decide +kernel
theorem d2_8 : decode method_3_code 8 = .ok (.ifCond .ne 5, 3) := by decide +kernel
theorem d2_11 : decode method_3_code 11 = .ok (.iconst 0, 1) := by decide +kernel
theorem d2_12 : decode method_3_code 12 = .ok (.ireturn, 1) := by decide +kernel
theorem d2_13 : decode method_3_code 13 = .ok (.iload_n 0, 1) := by decide +kernel
theorem d2_14 : decode method_3_code 14 = .ok (.bipush 91, 2) := by decide +kernel
theorem d2_16 : decode method_3_code 16 = .ok (.bipush 94, 2) := by decide +kernel
theorem d2_18 : decode method_3_code 18 = .ok (.invokestatic 8, 3) := by decide +kernel
theorem d2_21 : decode method_3_code 21 = .ok (.ifCond .ne 140, 3) := by decide +kernel
theorem d2_24 : decode method_3_code 24 = .ok (.iload_n 0, 1) := by decide +kernel
theorem d2_25 : decode method_3_code 25 = .ok (.bipush 96, 2) := by decide +kernel
theorem d2_27 : decode method_3_code 27 = .ok (.if_icmp .eq 134, 3) := by decide +kernel
theorem d2_30 : decode method_3_code 30 = .ok (.iload_n 0, 1) := by decide +kernel
theorem d2_31 : decode method_3_code 31 = .ok (.bipush 123, 2) := by decide +kernel
theorem d2_33 : decode method_3_code 33 = .ok (.sipush 191, 3) := by decide +kernel
theorem d2_36 : decode method_3_code 36 = .ok (.invokestatic 8, 3) := by decide +kernel
theorem d2_39 : decode method_3_code 39 = .ok (.ifCond .ne 122, 3) := by decide +kernel
theorem d2_42 : decode method_3_code 42 = .ok (.iload_n 0, 1) := by decide +kernel
theorem d2_43 : decode method_3_code 43 = .ok (.sipush 215, 3) := by decide +kernel
theorem d2_46 : decode method_3_code 46 = .ok (.if_icmp .eq 115, 3) := by decide +kernel
theorem d2_49 : decode method_3_code 49 = .ok (.iload_n 0, 1) := by decide +kernel
theorem d2_50 : decode method_3_code 50 = .ok (.sipush 247, 3) := by decide +kernel
theorem d2_53 : decode method_3_code 53 = .ok (.if_icmp .eq 108, 3) := by decide +kernel
theorem d2_56 : decode method_3_code 56 = .ok (.iload_n 0, 1) := by decide +kernel
theorem d2_57 : decode method_3_code 57 = .ok (.sipush 768, 3) := by decide +kernel
theorem d2_60 : decode method_3_code 60 = .ok (.sipush 879, 3) := by decide +kernel
theorem d2_63 : decode method_3_code 63 = .ok (.invokestatic 8, 3) := by decide +kernel
theorem d2_66 : decode method_3_code 66 = .ok (.ifCond .ne 95, 3) := by decide +kernel
theorem d2_69 : decode method_3_code 69 = .ok (.iload_n 0, 1) := by decide +kernel
theorem d2_70 : decode method_3_code 70 = .ok (.sipush 894, 3) := by decide +kernel
theorem d2_73 : decode method_3_code 73 = .ok (.if_icmp .eq 88, 3) := by decide +kernel
theorem d2_76 : decode method_3_code 76 = .ok (.iload_n 0, 1) := by decide +kernel
theorem d2_77 : decode method_3_code 77 = .ok (.sipush 8192, 3) := by decide +kernel
theorem d2_80 : decode method_3_code 80 = .ok (.sipush 8203, 3) := by decide +kernel
theorem d2_83 : decode method_3_code 83 = .ok (.invokestatic 8, 3) := by decide +kernel
theorem d2_86 : decode method_3_code 86 = .ok (.ifCond .ne 75, 3) := by decide +kernel
theorem d2_89 : decode method_3_code 89 = .ok (.iload_n 0, 1) := by decide +kernel
theorem d2_90 : decode method_3_code 90 = .ok (.sipush 8206, 3) := by decide +kernel
theorem d2_93 : decode method_3_code 93 = .ok (.sipush 8303, 3) := by decide +kernel
theorem d2_96 : decode method_3_code 96 = .ok (.invokestatic 8, 3) := by decide +kernel
theorem d2_99 : decode method_3_code 99 = .ok (.ifCond .ne 62, 3) := by decide +kernel
theorem d2_102 : decode method_3_code 102 = .ok (.iload_n 0, 1) := by decide +kernel
theorem d2_103 : decode method_3_code 103 = .ok (.sipush 8592, 3) := by decide +kernel
theorem d2_106 : decode method_3_code 106 = .ok (.sipush 11263, 3) := by decide +kernel
theorem d2_109 : decode method_3_code 109 = .ok (.invokestatic 8, 3) := by decide +kernel
theorem d2_112 : decode method_3_code 112 = .ok (.ifCond .ne 49, 3) := by decide +kernel
theorem d2_115 : decode method_3_code 115 = .ok (.iload_n 0, 1) := by decide +kernel
theorem d2_116 : decode method_3_code 116 = .ok (.sipush 12272, 3) := by decide +kernel
theorem d2_119 : decode method_3_code 119 = .ok (.sipush 12288, 3) := by decide +kernel
theorem d2_122 : decode method_3_code 122 = .ok (.invokestatic 8, 3) := by decide +kernel
theorem d2_125 : decode method_3_code 125 = .ok (.ifCond .ne 36, 3) := by decide +kernel
theorem d2_128 : decode method_3_code 128 = .ok (.iload_n 0, 1) := by decide +kernel
theorem d2_129 : decode method_3_code 129 = .ok (.ldc 14, 2) := by decide +kernel
theorem d2_131 : decode method_3_code 131 = .ok (.ldc 15, 2) := by decide +kernel
theorem d2_133 : decode method_3_code 133 = .ok (.invokestatic 8, 3) := by decide +kernel
theorem d2_136 : decode method_3_code 136 = .ok (.ifCond .ne 25, 3) := by decide +kernel
theorem d2_139 : decode method_3_code 139 = .ok (.iload_n 0, 1) := by decide +kernel
theorem d2_140 : decode method_3_code 140 = .ok (.ldc 16, 2) := by decide +kernel
theorem d2_142 : decode method_3_code 142 = .ok (.ldc 17, 2) := by decide +kernel
theorem d2_144 : decode method_3_code 144 = .ok (.invokestatic 8, 3) := by decide +kernel
theorem d2_147 : decode method_3_code 147 = .ok (.ifCond .ne 14, 3) := by decide +kernel
theorem d2_150 : decode method_3_code 150 = .ok (.iload_n 0, 1) := by decide +kernel
theorem d2_151 : decode method_3_code 151 = .ok (.ldc 18, 2) := by decide +kernel
theorem d2_153 : decode method_3_code 153 = .ok (.ldc 19, 2) := by decide +kernel
theorem d2_155 : decode method_3_code 155 = .ok (.invokestatic 8, 3) := by decide +kernel
theorem d2_158 : decode method_3_code 158 = .ok (.ifCond .eq 7, 3) := by decide +kernel
theorem d2_161 : decode method_3_code 161 = .ok (.iconst 1, 1) := by decide +kernel
theorem d2_162 : decode method_3_code 162 = .ok (.goto 4, 3) := by decide +kernel
theorem d2_165 : decode method_3_code 165 = .ok (.iconst 0, 1) := by decide +kernel
theorem d2_166 : decode method_3_code 166 = .ok (.istore_n 1, 1) := by decide +kernel
theorem d2_167 : decode method_3_code 167 = .ok (.iload_n 1, 1) := by decide +kernel
theorem d2_168 : decode method_3_code 168 = .ok (.ifCond .ne 7, 3) := by decide +kernel
theorem d2_171 : decode method_3_code 171 = .ok (.iconst 1, 1) := by decide +kernel
theorem d2_172 : decode method_3_code 172 = .ok (.goto 4, 3) := by decide +kernel
theorem d2_175 : decode method_3_code 175 = .ok (.iconst 0, 1) := by decide +kernel
theorem d2_176 : decode method_3_code 176 = .ok (.ireturn, 1) := by decide +kernel
theorem pn_2 : plainName "com/example/postil/postil/rdf/NameCharactersIsStartPinLaw" = true := by first | (simp [plainName, overriddenIn]; done) | decide +kernel
theorem pd_2_0 : parseMethodDescriptor "(III)Z" = some ⟨[.int, .int, .int], some .boolean⟩ := by decide +kernel
theorem ef_2 (m : MethodId) (P0 : Int32) : entryFrame m #[(.int P0)] 2 = mkF m 0 #[.val (.int P0), .unset] [] := by first | (simp [entryFrame, mkF, argsToLocals, Value.category]; done) | rfl
def tf2_165 (P0 : Int32) : Int32 := (1 : Int32)
set_option maxRecDepth 65536 in
set_option maxHeartbeats 40000000 in
theorem tl2_165 {p : Program} {l : Launch} {e : Env} {s : State} {m : MethodId} {args : Array Value} {below : List Frame} {meth : Method} {c : Code} {T0 : State} {locs : List Loc} {Z : State} {a0 : Array Value} {h0 : Heap} {n0 : Nat} (P0 : Int32)
    (X0 : Stand p l e ({ frames := 1, cells := 0, slots := 0, locals := 14 } : Room) s m args below meth c T0 locs 0 0) (hx : p.tables.exec = Jvm.exec) (hZ : Z.Warmed39 s.vm) (hw : ∀ d ∈ tables_1, d.before a0 Z = true) (hby : c.code = method_3_code) (hml : c.maxLocals = 2) (hown : s.vm.findClass "com/example/postil/postil/rdf/NameCharactersIsStartPinLaw" = some m.cls) (e0 : T0.heap = h0) (N0 : Fr n0 locs) (Z0 : n0 ≤ h0.size) :
    ∃ (T' : State) (pc' : Nat) (L' : Array Slot) (locs' : List Loc), Stand p l e ({ frames := 1, cells := 0, slots := 0, locals := 14 } : Room) s m args below meth c T' locs' 0 0 ∧ Fr n0 locs' ∧ T'.heap = h0 ∧ decode c.code pc' = .ok (.ireturn, 1) ∧ ∀ t, Steps p.tables e below (T'.setTop (mkF m pc' L' [.int (tf2_165 P0)])) t → Steps p.tables e below (T0.setTop (mkF m 165 #[.val (.int P0), .unset] [])) t := by
  have pre0 : ∀ t, Steps p.tables e below (T0.setTop (mkF m 165 #[.val (.int P0), .unset] [])) t → Steps p.tables e below (T0.setTop (mkF m 165 #[.val (.int P0), .unset] [])) t := fun t k => k
  have pre1001 : ∀ t, Steps p.tables e below (T0.setTop (mkF m 176 #[.val (.int P0), .val (.int (0 : Int32))] [(.int (1 : Int32))])) t → Steps p.tables e below (T0.setTop (mkF m 165 #[.val (.int P0), .unset] [])) t := fun t kt => pre0 t (by
      show Steps p.tables e below (T0.setTop (mkF m 165 #[.val (.int P0), .unset] [])) _
      refine XS.iconst X0.here hx rfl (hb hby d2_165) ?_
      show Steps p.tables e below (T0.setTop (mkF m 166 #[.val (.int P0), .unset] [(.int (0 : Int32))])) _
      refine XS.istoreN X0.here hx rfl (hb hby d2_166) rfl (l' := #[.val (.int P0), .val (.int (0 : Int32))]) rfl ?_
      show Steps p.tables e below (T0.setTop (mkF m 167 #[.val (.int P0), .val (.int (0 : Int32))] [])) _
      refine XS.iloadN X0.here hx rfl (hb hby d2_167) rfl ?_
      show Steps p.tables e below (T0.setTop (mkF m 168 #[.val (.int P0), .val (.int (0 : Int32))] [(.int (0 : Int32))])) _
      refine XS.ifNo X0.here hx rfl (hb hby d2_168) rfl ((if0 _ _).trans (teq (show (0 : Int32) = (0 : Int32) from (by decide))).2) ?_
      show Steps p.tables e below (T0.setTop (mkF m 171 #[.val (.int P0), .val (.int (0 : Int32))] [])) _
      refine XS.iconst X0.here hx rfl (hb hby d2_171) ?_
      show Steps p.tables e below (T0.setTop (mkF m 172 #[.val (.int P0), .val (.int (0 : Int32))] [(.int (1 : Int32))])) _
      refine XS.goto X0.here hx rfl (pc0 := 172) (pc' := 176) rfl (hb hby d2_172) (by decide) (by decide) ?_
      exact kt)
  have hv : tf2_165 P0 = (1 : Int32) := rfl
  rw [hv]
  exact ⟨T0, 176, _, _, X0, N0, e0, (hb hby d2_176), pre1001⟩
theorem tb2_165 (P0 : Int32) : tf2_165 P0 = 0 ∨ tf2_165 P0 = 1 := by
  unfold tf2_165
  (repeat' split) <;> first | exact Or.inl rfl | exact Or.inr rfl
def tf2_161 (P0 : Int32) : Int32 := (0 : Int32)
set_option maxRecDepth 65536 in
set_option maxHeartbeats 40000000 in
theorem tl2_161 {p : Program} {l : Launch} {e : Env} {s : State} {m : MethodId} {args : Array Value} {below : List Frame} {meth : Method} {c : Code} {T0 : State} {locs : List Loc} {Z : State} {a0 : Array Value} {h0 : Heap} {n0 : Nat} (P0 : Int32)
    (X0 : Stand p l e ({ frames := 1, cells := 0, slots := 0, locals := 14 } : Room) s m args below meth c T0 locs 0 0) (hx : p.tables.exec = Jvm.exec) (hZ : Z.Warmed39 s.vm) (hw : ∀ d ∈ tables_1, d.before a0 Z = true) (hby : c.code = method_3_code) (hml : c.maxLocals = 2) (hown : s.vm.findClass "com/example/postil/postil/rdf/NameCharactersIsStartPinLaw" = some m.cls) (e0 : T0.heap = h0) (N0 : Fr n0 locs) (Z0 : n0 ≤ h0.size) :
    ∃ (T' : State) (pc' : Nat) (L' : Array Slot) (locs' : List Loc), Stand p l e ({ frames := 1, cells := 0, slots := 0, locals := 14 } : Room) s m args below meth c T' locs' 0 0 ∧ Fr n0 locs' ∧ T'.heap = h0 ∧ decode c.code pc' = .ok (.ireturn, 1) ∧ ∀ t, Steps p.tables e below (T'.setTop (mkF m pc' L' [.int (tf2_161 P0)])) t → Steps p.tables e below (T0.setTop (mkF m 161 #[.val (.int P0), .unset] [])) t := by
  have pre0 : ∀ t, Steps p.tables e below (T0.setTop (mkF m 161 #[.val (.int P0), .unset] [])) t → Steps p.tables e below (T0.setTop (mkF m 161 #[.val (.int P0), .unset] [])) t := fun t k => k
  have pre2001 : ∀ t, Steps p.tables e below (T0.setTop (mkF m 176 #[.val (.int P0), .val (.int (1 : Int32))] [(.int (0 : Int32))])) t → Steps p.tables e below (T0.setTop (mkF m 161 #[.val (.int P0), .unset] [])) t := fun t kt => pre0 t (by
      show Steps p.tables e below (T0.setTop (mkF m 161 #[.val (.int P0), .unset] [])) _
      refine XS.iconst X0.here hx rfl (hb hby d2_161) ?_
      show Steps p.tables e below (T0.setTop (mkF m 162 #[.val (.int P0), .unset] [(.int (1 : Int32))])) _
      refine XS.goto X0.here hx rfl (pc0 := 162) (pc' := 166) rfl (hb hby d2_162) (by decide) (by decide) ?_
      show Steps p.tables e below (T0.setTop (mkF m 166 #[.val (.int P0), .unset] [(.int (1 : Int32))])) _
      refine XS.istoreN X0.here hx rfl (hb hby d2_166) rfl (l' := #[.val (.int P0), .val (.int (1 : Int32))]) rfl ?_
      show Steps p.tables e below (T0.setTop (mkF m 167 #[.val (.int P0), .val (.int (1 : Int32))] [])) _
      refine XS.iloadN X0.here hx rfl (hb hby d2_167) rfl ?_
      show Steps p.tables e below (T0.setTop (mkF m 168 #[.val (.int P0), .val (.int (1 : Int32))] [(.int (1 : Int32))])) _
      refine XS.ifYes X0.here hx rfl (pc0 := 168) (pc' := 175) rfl (hb hby d2_168) rfl ((if0 _ _).trans (feq (show ¬ ((1 : Int32) = (0 : Int32)) from (by decide))).2) (by decide) (by decide) ?_
      show Steps p.tables e below (T0.setTop (mkF m 175 #[.val (.int P0), .val (.int (1 : Int32))] [])) _
      refine XS.iconst X0.here hx rfl (hb hby d2_175) ?_
      exact kt)
  have hv : tf2_161 P0 = (0 : Int32) := rfl
  rw [hv]
  exact ⟨T0, 176, _, _, X0, N0, e0, (hb hby d2_176), pre2001⟩
theorem tb2_161 (P0 : Int32) : tf2_161 P0 = 0 ∨ tf2_161 P0 = 1 := by
  unfold tf2_161
  (repeat' split) <;> first | exact Or.inl rfl | exact Or.inr rfl | exact tb2_165 P0
def tf2_150 (P0 : Int32) : Int32 := (if (¬ (P0 < (65534 : Int32)) ∧ ¬ ((65535 : Int32) < P0)) then tf2_161 P0 else tf2_165 P0)
set_option maxRecDepth 65536 in
set_option maxHeartbeats 40000000 in
theorem tl2_150 {p : Program} {l : Launch} {e : Env} {s : State} {m : MethodId} {args : Array Value} {below : List Frame} {meth : Method} {c : Code} {T0 : State} {locs : List Loc} {Z : State} {a0 : Array Value} {h0 : Heap} {n0 : Nat} (P0 : Int32)
    (X0 : Stand p l e ({ frames := 1, cells := 0, slots := 0, locals := 14 } : Room) s m args below meth c T0 locs 0 0) (hx : p.tables.exec = Jvm.exec) (hZ : Z.Warmed39 s.vm) (hw : ∀ d ∈ tables_1, d.before a0 Z = true) (hby : c.code = method_3_code) (hml : c.maxLocals = 2) (hown : s.vm.findClass "com/example/postil/postil/rdf/NameCharactersIsStartPinLaw" = some m.cls) (e0 : T0.heap = h0) (N0 : Fr n0 locs) (Z0 : n0 ≤ h0.size) :
    ∃ (T' : State) (pc' : Nat) (L' : Array Slot) (locs' : List Loc), Stand p l e ({ frames := 1, cells := 0, slots := 0, locals := 14 } : Room) s m args below meth c T' locs' 0 0 ∧ Fr n0 locs' ∧ T'.heap = h0 ∧ decode c.code pc' = .ok (.ireturn, 1) ∧ ∀ t, Steps p.tables e below (T'.setTop (mkF m pc' L' [.int (tf2_150 P0)])) t → Steps p.tables e below (T0.setTop (mkF m 150 #[.val (.int P0), .unset] [])) t := by
  have pre0 : ∀ t, Steps p.tables e below (T0.setTop (mkF m 150 #[.val (.int P0), .unset] [])) t → Steps p.tables e below (T0.setTop (mkF m 150 #[.val (.int P0), .unset] [])) t := fun t k => k
  obtain ⟨_, _, ⟨T3001, L3001, k3001, n3001⟩, -, X3001, ⟨Lc3001, hQ3001, l3001, y3001, z3001⟩, st3001⟩ := Jvm.LawKit.callS X0 hx (y := (⟨"com/example/postil/postil/rdf/NameCharactersIsStartPinLaw", "in", "(III)Z"⟩ : MethodName)) hown (mvT hZ (hw _ (List.mem_of_getElem? (i := 13) rfl))) (mvT hZ (hw _ (List.mem_of_getElem? (i := 14) rfl))) (mvT hZ (hw _ (List.mem_of_getElem? (i := 10) rfl))) (mvT hZ (hw _ (List.mem_of_getElem? (i := 15) rfl))) (by decide) (backOf (W := 0) (rm3 l Z a0 hw [] P0 (65534 : Int32) (65535 : Int32) h0 n0 Z0 ) hZ (hw _ (List.mem_of_getElem? (i := 15) rfl)) (hw _ (List.mem_of_getElem? (i := 10) rfl)) (by decide) (by decide)) (g := (mkF m 155 #[.val (.int P0), .unset] [(.int (65535 : Int32)), (.int (65534 : Int32)), (.int P0)])) rfl (by rw [hml]; rfl) (argsL := [(.int P0), (.int (65534 : Int32)), (.int (65535 : Int32))]) (rest := []) (lenOf pd_2_0 rfl) rfl (by show 2 * 0 + _ ≤ _; exact Nat.le_of_eq rfl) (hb hby d2_155) (fun _ _ => ⟨rfl, e0, (by decide : 0 + 0 ≤ _), (by decide : 0 + 0 ≤ _)⟩)
  dsimp only [Pt.U, Pt.locs, Pt.cells, Pt.slots] at X3001 l3001 y3001 z3001 st3001 hQ3001
  subst l3001 y3001 z3001
  obtain ⟨rfl, N3001q, K3001⟩ := hQ3001
  have N3001 := Fr.app N0 N3001q
  have pre3002 : ∀ t, Steps p.tables e below (T3001.setTop (mkF m 158 #[.val (.int P0), .unset] [(.int (if (¬ (P0 < (65534 : Int32)) ∧ ¬ ((65535 : Int32) < P0)) then (1 : Int32) else (0 : Int32)))])) t → Steps p.tables e below (T0.setTop (mkF m 150 #[.val (.int P0), .unset] [])) t := fun t kt => pre0 t (by
      show Steps p.tables e below (T0.setTop (mkF m 150 #[.val (.int P0), .unset] [])) _
      refine XS.iloadN X0.here hx rfl (hb hby d2_150) rfl ?_
      show Steps p.tables e below (T0.setTop (mkF m 151 #[.val (.int P0), .unset] [(.int P0)])) _
      refine X0.ldcInt hx hown (mvT hZ (hw _ (List.mem_of_getElem? (i := 20) rfl))) (g := (mkF m 151 #[.val (.int P0), .unset] [(.int P0)])) rfl (hb hby d2_151) _ ?_
      show Steps p.tables e below (T0.setTop (mkF m 153 #[.val (.int P0), .unset] [(.int (65534 : Int32)), (.int P0)])) _
      refine X0.ldcInt hx hown (mvT hZ (hw _ (List.mem_of_getElem? (i := 21) rfl))) (g := (mkF m 153 #[.val (.int P0), .unset] [(.int (65534 : Int32)), (.int P0)])) rfl (hb hby d2_153) _ ?_
      show Steps p.tables e below (T0.setTop (mkF m 155 #[.val (.int P0), .unset] [(.int (65535 : Int32)), (.int (65534 : Int32)), (.int P0)])) _
      refine st3001 _ ?_
      exact kt)
  by_cases hc158 : (¬ (P0 < (65534 : Int32)) ∧ ¬ ((65535 : Int32) < P0))
  · have pre3003 : ∀ t, Steps p.tables e below (T3001.setTop (mkF m 161 #[.val (.int P0), .unset] [])) t → Steps p.tables e below (T0.setTop (mkF m 150 #[.val (.int P0), .unset] [])) t := fun t kt => pre3002 t (by
        show Steps p.tables e below (T3001.setTop (mkF m 158 #[.val (.int P0), .unset] [(.int (if (¬ (P0 < (65534 : Int32)) ∧ ¬ ((65535 : Int32) < P0)) then (1 : Int32) else (0 : Int32)))])) _
        refine XS.ifNo X3001.here hx rfl (hb hby d2_158) rfl ((if0 _ _).trans (feq (show ¬ ((if (¬ (P0 < (65534 : Int32)) ∧ ¬ ((65535 : Int32) < P0)) then (1 : Int32) else (0 : Int32)) = (0 : Int32)) from by rw [if_pos hc158]; decide)).1) ?_
        exact kt)
    obtain ⟨T3004, pc3004, L3004, lc3004, X3004, N3004, e3004, dc3004, st3004⟩ := tl2_161 P0 (a0 := a0) (Z := Z) X3001 hx hZ hw hby hml hown K3001 N3001 Z0
    have hv : tf2_150 P0 = tf2_161 P0 := by unfold tf2_150; rw [if_pos hc158]
    rw [hv]
    exact ⟨T3004, pc3004, L3004, lc3004, X3004, N3004, e3004, dc3004, fun t kt => pre3003 t (st3004 t kt)⟩
  · have pre3005 : ∀ t, Steps p.tables e below (T3001.setTop (mkF m 165 #[.val (.int P0), .unset] [])) t → Steps p.tables e below (T0.setTop (mkF m 150 #[.val (.int P0), .unset] [])) t := fun t kt => pre3002 t (by
        show Steps p.tables e below (T3001.setTop (mkF m 158 #[.val (.int P0), .unset] [(.int (if (¬ (P0 < (65534 : Int32)) ∧ ¬ ((65535 : Int32) < P0)) then (1 : Int32) else (0 : Int32)))])) _
        refine XS.ifYes X3001.here hx rfl (pc0 := 158) (pc' := 165) rfl (hb hby d2_158) rfl ((if0 _ _).trans (teq (show (if (¬ (P0 < (65534 : Int32)) ∧ ¬ ((65535 : Int32) < P0)) then (1 : Int32) else (0 : Int32)) = (0 : Int32) from if_neg hc158)).1) (by decide) (by decide) ?_
        exact kt)
    obtain ⟨T3006, pc3006, L3006, lc3006, X3006, N3006, e3006, dc3006, st3006⟩ := tl2_165 P0 (a0 := a0) (Z := Z) X3001 hx hZ hw hby hml hown K3001 N3001 Z0
    have hv : tf2_150 P0 = tf2_165 P0 := by unfold tf2_150; rw [if_neg hc158]
    rw [hv]
    exact ⟨T3006, pc3006, L3006, lc3006, X3006, N3006, e3006, dc3006, fun t kt => pre3005 t (st3006 t kt)⟩
theorem tb2_150 (P0 : Int32) : tf2_150 P0 = 0 ∨ tf2_150 P0 = 1 := by
  unfold tf2_150
  (repeat' split) <;> first | exact Or.inl rfl | exact Or.inr rfl | exact tb2_161 P0 | exact tb2_165 P0
def tf2_139 (P0 : Int32) : Int32 := (if (¬ (P0 < (64976 : Int32)) ∧ ¬ ((65007 : Int32) < P0)) then tf2_161 P0 else tf2_150 P0)
set_option maxRecDepth 65536 in
set_option maxHeartbeats 40000000 in
theorem tl2_139 {p : Program} {l : Launch} {e : Env} {s : State} {m : MethodId} {args : Array Value} {below : List Frame} {meth : Method} {c : Code} {T0 : State} {locs : List Loc} {Z : State} {a0 : Array Value} {h0 : Heap} {n0 : Nat} (P0 : Int32)
    (X0 : Stand p l e ({ frames := 1, cells := 0, slots := 0, locals := 14 } : Room) s m args below meth c T0 locs 0 0) (hx : p.tables.exec = Jvm.exec) (hZ : Z.Warmed39 s.vm) (hw : ∀ d ∈ tables_1, d.before a0 Z = true) (hby : c.code = method_3_code) (hml : c.maxLocals = 2) (hown : s.vm.findClass "com/example/postil/postil/rdf/NameCharactersIsStartPinLaw" = some m.cls) (e0 : T0.heap = h0) (N0 : Fr n0 locs) (Z0 : n0 ≤ h0.size) :
    ∃ (T' : State) (pc' : Nat) (L' : Array Slot) (locs' : List Loc), Stand p l e ({ frames := 1, cells := 0, slots := 0, locals := 14 } : Room) s m args below meth c T' locs' 0 0 ∧ Fr n0 locs' ∧ T'.heap = h0 ∧ decode c.code pc' = .ok (.ireturn, 1) ∧ ∀ t, Steps p.tables e below (T'.setTop (mkF m pc' L' [.int (tf2_139 P0)])) t → Steps p.tables e below (T0.setTop (mkF m 139 #[.val (.int P0), .unset] [])) t := by
  have pre0 : ∀ t, Steps p.tables e below (T0.setTop (mkF m 139 #[.val (.int P0), .unset] [])) t → Steps p.tables e below (T0.setTop (mkF m 139 #[.val (.int P0), .unset] [])) t := fun t k => k
  obtain ⟨_, _, ⟨T4001, L4001, k4001, n4001⟩, -, X4001, ⟨Lc4001, hQ4001, l4001, y4001, z4001⟩, st4001⟩ := Jvm.LawKit.callS X0 hx (y := (⟨"com/example/postil/postil/rdf/NameCharactersIsStartPinLaw", "in", "(III)Z"⟩ : MethodName)) hown (mvT hZ (hw _ (List.mem_of_getElem? (i := 13) rfl))) (mvT hZ (hw _ (List.mem_of_getElem? (i := 14) rfl))) (mvT hZ (hw _ (List.mem_of_getElem? (i := 10) rfl))) (mvT hZ (hw _ (List.mem_of_getElem? (i := 15) rfl))) (by decide) (backOf (W := 0) (rm3 l Z a0 hw [] P0 (64976 : Int32) (65007 : Int32) h0 n0 Z0 ) hZ (hw _ (List.mem_of_getElem? (i := 15) rfl)) (hw _ (List.mem_of_getElem? (i := 10) rfl)) (by decide) (by decide)) (g := (mkF m 144 #[.val (.int P0), .unset] [(.int (65007 : Int32)), (.int (64976 : Int32)), (.int P0)])) rfl (by rw [hml]; rfl) (argsL := [(.int P0), (.int (64976 : Int32)), (.int (65007 : Int32))]) (rest := []) (lenOf pd_2_0 rfl) rfl (by show 2 * 0 + _ ≤ _; exact Nat.le_of_eq rfl) (hb hby d2_144) (fun _ _ => ⟨rfl, e0, (by decide : 0 + 0 ≤ _), (by decide : 0 + 0 ≤ _)⟩)
  dsimp only [Pt.U, Pt.locs, Pt.cells, Pt.slots] at X4001 l4001 y4001 z4001 st4001 hQ4001
  subst l4001 y4001 z4001
  obtain ⟨rfl, N4001q, K4001⟩ := hQ4001
  have N4001 := Fr.app N0 N4001q
  have pre4002 : ∀ t, Steps p.tables e below (T4001.setTop (mkF m 147 #[.val (.int P0), .unset] [(.int (if (¬ (P0 < (64976 : Int32)) ∧ ¬ ((65007 : Int32) < P0)) then (1 : Int32) else (0 : Int32)))])) t → Steps p.tables e below (T0.setTop (mkF m 139 #[.val (.int P0), .unset] [])) t := fun t kt => pre0 t (by
      show Steps p.tables e below (T0.setTop (mkF m 139 #[.val (.int P0), .unset] [])) _
      refine XS.iloadN X0.here hx rfl (hb hby d2_139) rfl ?_
      show Steps p.tables e below (T0.setTop (mkF m 140 #[.val (.int P0), .unset] [(.int P0)])) _
      refine X0.ldcInt hx hown (mvT hZ (hw _ (List.mem_of_getElem? (i := 18) rfl))) (g := (mkF m 140 #[.val (.int P0), .unset] [(.int P0)])) rfl (hb hby d2_140) _ ?_
      show Steps p.tables e below (T0.setTop (mkF m 142 #[.val (.int P0), .unset] [(.int (64976 : Int32)), (.int P0)])) _
      refine X0.ldcInt hx hown (mvT hZ (hw _ (List.mem_of_getElem? (i := 19) rfl))) (g := (mkF m 142 #[.val (.int P0), .unset] [(.int (64976 : Int32)), (.int P0)])) rfl (hb hby d2_142) _ ?_
      show Steps p.tables e below (T0.setTop (mkF m 144 #[.val (.int P0), .unset] [(.int (65007 : Int32)), (.int (64976 : Int32)), (.int P0)])) _
      refine st4001 _ ?_
      exact kt)
  by_cases hc147 : (¬ (P0 < (64976 : Int32)) ∧ ¬ ((65007 : Int32) < P0))
  · have pre4003 : ∀ t, Steps p.tables e below (T4001.setTop (mkF m 161 #[.val (.int P0), .unset] [])) t → Steps p.tables e below (T0.setTop (mkF m 139 #[.val (.int P0), .unset] [])) t := fun t kt => pre4002 t (by
        show Steps p.tables e below (T4001.setTop (mkF m 147 #[.val (.int P0), .unset] [(.int (if (¬ (P0 < (64976 : Int32)) ∧ ¬ ((65007 : Int32) < P0)) then (1 : Int32) else (0 : Int32)))])) _
        refine XS.ifYes X4001.here hx rfl (pc0 := 147) (pc' := 161) rfl (hb hby d2_147) rfl ((if0 _ _).trans (feq (show ¬ ((if (¬ (P0 < (64976 : Int32)) ∧ ¬ ((65007 : Int32) < P0)) then (1 : Int32) else (0 : Int32)) = (0 : Int32)) from by rw [if_pos hc147]; decide)).2) (by decide) (by decide) ?_
        exact kt)
    obtain ⟨T4004, pc4004, L4004, lc4004, X4004, N4004, e4004, dc4004, st4004⟩ := tl2_161 P0 (a0 := a0) (Z := Z) X4001 hx hZ hw hby hml hown K4001 N4001 Z0
    have hv : tf2_139 P0 = tf2_161 P0 := by unfold tf2_139; rw [if_pos hc147]
    rw [hv]
    exact ⟨T4004, pc4004, L4004, lc4004, X4004, N4004, e4004, dc4004, fun t kt => pre4003 t (st4004 t kt)⟩
  · have pre4005 : ∀ t, Steps p.tables e below (T4001.setTop (mkF m 150 #[.val (.int P0), .unset] [])) t → Steps p.tables e below (T0.setTop (mkF m 139 #[.val (.int P0), .unset] [])) t := fun t kt => pre4002 t (by
        show Steps p.tables e below (T4001.setTop (mkF m 147 #[.val (.int P0), .unset] [(.int (if (¬ (P0 < (64976 : Int32)) ∧ ¬ ((65007 : Int32) < P0)) then (1 : Int32) else (0 : Int32)))])) _
        refine XS.ifNo X4001.here hx rfl (hb hby d2_147) rfl ((if0 _ _).trans (teq (show (if (¬ (P0 < (64976 : Int32)) ∧ ¬ ((65007 : Int32) < P0)) then (1 : Int32) else (0 : Int32)) = (0 : Int32) from if_neg hc147)).2) ?_
        exact kt)
    obtain ⟨T4006, pc4006, L4006, lc4006, X4006, N4006, e4006, dc4006, st4006⟩ := tl2_150 P0 (a0 := a0) (Z := Z) X4001 hx hZ hw hby hml hown K4001 N4001 Z0
    have hv : tf2_139 P0 = tf2_150 P0 := by unfold tf2_139; rw [if_neg hc147]
    rw [hv]
    exact ⟨T4006, pc4006, L4006, lc4006, X4006, N4006, e4006, dc4006, fun t kt => pre4005 t (st4006 t kt)⟩
theorem tb2_139 (P0 : Int32) : tf2_139 P0 = 0 ∨ tf2_139 P0 = 1 := by
  unfold tf2_139
  (repeat' split) <;> first | exact Or.inl rfl | exact Or.inr rfl | exact tb2_150 P0 | exact tb2_161 P0 | exact tb2_165 P0
def tf2_128 (P0 : Int32) : Int32 := (if (¬ (P0 < (55296 : Int32)) ∧ ¬ ((63743 : Int32) < P0)) then tf2_161 P0 else tf2_139 P0)
set_option maxRecDepth 65536 in
set_option maxHeartbeats 40000000 in
theorem tl2_128 {p : Program} {l : Launch} {e : Env} {s : State} {m : MethodId} {args : Array Value} {below : List Frame} {meth : Method} {c : Code} {T0 : State} {locs : List Loc} {Z : State} {a0 : Array Value} {h0 : Heap} {n0 : Nat} (P0 : Int32)
    (X0 : Stand p l e ({ frames := 1, cells := 0, slots := 0, locals := 14 } : Room) s m args below meth c T0 locs 0 0) (hx : p.tables.exec = Jvm.exec) (hZ : Z.Warmed39 s.vm) (hw : ∀ d ∈ tables_1, d.before a0 Z = true) (hby : c.code = method_3_code) (hml : c.maxLocals = 2) (hown : s.vm.findClass "com/example/postil/postil/rdf/NameCharactersIsStartPinLaw" = some m.cls) (e0 : T0.heap = h0) (N0 : Fr n0 locs) (Z0 : n0 ≤ h0.size) :
    ∃ (T' : State) (pc' : Nat) (L' : Array Slot) (locs' : List Loc), Stand p l e ({ frames := 1, cells := 0, slots := 0, locals := 14 } : Room) s m args below meth c T' locs' 0 0 ∧ Fr n0 locs' ∧ T'.heap = h0 ∧ decode c.code pc' = .ok (.ireturn, 1) ∧ ∀ t, Steps p.tables e below (T'.setTop (mkF m pc' L' [.int (tf2_128 P0)])) t → Steps p.tables e below (T0.setTop (mkF m 128 #[.val (.int P0), .unset] [])) t := by
  have pre0 : ∀ t, Steps p.tables e below (T0.setTop (mkF m 128 #[.val (.int P0), .unset] [])) t → Steps p.tables e below (T0.setTop (mkF m 128 #[.val (.int P0), .unset] [])) t := fun t k => k
  obtain ⟨_, _, ⟨T5001, L5001, k5001, n5001⟩, -, X5001, ⟨Lc5001, hQ5001, l5001, y5001, z5001⟩, st5001⟩ := Jvm.LawKit.callS X0 hx (y := (⟨"com/example/postil/postil/rdf/NameCharactersIsStartPinLaw", "in", "(III)Z"⟩ : MethodName)) hown (mvT hZ (hw _ (List.mem_of_getElem? (i := 13) rfl))) (mvT hZ (hw _ (List.mem_of_getElem? (i := 14) rfl))) (mvT hZ (hw _ (List.mem_of_getElem? (i := 10) rfl))) (mvT hZ (hw _ (List.mem_of_getElem? (i := 15) rfl))) (by decide) (backOf (W := 0) (rm3 l Z a0 hw [] P0 (55296 : Int32) (63743 : Int32) h0 n0 Z0 ) hZ (hw _ (List.mem_of_getElem? (i := 15) rfl)) (hw _ (List.mem_of_getElem? (i := 10) rfl)) (by decide) (by decide)) (g := (mkF m 133 #[.val (.int P0), .unset] [(.int (63743 : Int32)), (.int (55296 : Int32)), (.int P0)])) rfl (by rw [hml]; rfl) (argsL := [(.int P0), (.int (55296 : Int32)), (.int (63743 : Int32))]) (rest := []) (lenOf pd_2_0 rfl) rfl (by show 2 * 0 + _ ≤ _; exact Nat.le_of_eq rfl) (hb hby d2_133) (fun _ _ => ⟨rfl, e0, (by decide : 0 + 0 ≤ _), (by decide : 0 + 0 ≤ _)⟩)
  dsimp only [Pt.U, Pt.locs, Pt.cells, Pt.slots] at X5001 l5001 y5001 z5001 st5001 hQ5001
  subst l5001 y5001 z5001
  obtain ⟨rfl, N5001q, K5001⟩ := hQ5001
  have N5001 := Fr.app N0 N5001q
  have pre5002 : ∀ t, Steps p.tables e below (T5001.setTop (mkF m 136 #[.val (.int P0), .unset] [(.int (if (¬ (P0 < (55296 : Int32)) ∧ ¬ ((63743 : Int32) < P0)) then (1 : Int32) else (0 : Int32)))])) t → Steps p.tables e below (T0.setTop (mkF m 128 #[.val (.int P0), .unset] [])) t := fun t kt => pre0 t (by
      show Steps p.tables e below (T0.setTop (mkF m 128 #[.val (.int P0), .unset] [])) _
      refine XS.iloadN X0.here hx rfl (hb hby d2_128) rfl ?_
      show Steps p.tables e below (T0.setTop (mkF m 129 #[.val (.int P0), .unset] [(.int P0)])) _
      refine X0.ldcInt hx hown (mvT hZ (hw _ (List.mem_of_getElem? (i := 16) rfl))) (g := (mkF m 129 #[.val (.int P0), .unset] [(.int P0)])) rfl (hb hby d2_129) _ ?_
      show Steps p.tables e below (T0.setTop (mkF m 131 #[.val (.int P0), .unset] [(.int (55296 : Int32)), (.int P0)])) _
      refine X0.ldcInt hx hown (mvT hZ (hw _ (List.mem_of_getElem? (i := 17) rfl))) (g := (mkF m 131 #[.val (.int P0), .unset] [(.int (55296 : Int32)), (.int P0)])) rfl (hb hby d2_131) _ ?_
      show Steps p.tables e below (T0.setTop (mkF m 133 #[.val (.int P0), .unset] [(.int (63743 : Int32)), (.int (55296 : Int32)), (.int P0)])) _
      refine st5001 _ ?_
      exact kt)
  by_cases hc136 : (¬ (P0 < (55296 : Int32)) ∧ ¬ ((63743 : Int32) < P0))
  · have pre5003 : ∀ t, Steps p.tables e below (T5001.setTop (mkF m 161 #[.val (.int P0), .unset] [])) t → Steps p.tables e below (T0.setTop (mkF m 128 #[.val (.int P0), .unset] [])) t := fun t kt => pre5002 t (by
        show Steps p.tables e below (T5001.setTop (mkF m 136 #[.val (.int P0), .unset] [(.int (if (¬ (P0 < (55296 : Int32)) ∧ ¬ ((63743 : Int32) < P0)) then (1 : Int32) else (0 : Int32)))])) _
        refine XS.ifYes X5001.here hx rfl (pc0 := 136) (pc' := 161) rfl (hb hby d2_136) rfl ((if0 _ _).trans (feq (show ¬ ((if (¬ (P0 < (55296 : Int32)) ∧ ¬ ((63743 : Int32) < P0)) then (1 : Int32) else (0 : Int32)) = (0 : Int32)) from by rw [if_pos hc136]; decide)).2) (by decide) (by decide) ?_
        exact kt)
    obtain ⟨T5004, pc5004, L5004, lc5004, X5004, N5004, e5004, dc5004, st5004⟩ := tl2_161 P0 (a0 := a0) (Z := Z) X5001 hx hZ hw hby hml hown K5001 N5001 Z0
    have hv : tf2_128 P0 = tf2_161 P0 := by unfold tf2_128; rw [if_pos hc136]
    rw [hv]
    exact ⟨T5004, pc5004, L5004, lc5004, X5004, N5004, e5004, dc5004, fun t kt => pre5003 t (st5004 t kt)⟩
  · have pre5005 : ∀ t, Steps p.tables e below (T5001.setTop (mkF m 139 #[.val (.int P0), .unset] [])) t → Steps p.tables e below (T0.setTop (mkF m 128 #[.val (.int P0), .unset] [])) t := fun t kt => pre5002 t (by
        show Steps p.tables e below (T5001.setTop (mkF m 136 #[.val (.int P0), .unset] [(.int (if (¬ (P0 < (55296 : Int32)) ∧ ¬ ((63743 : Int32) < P0)) then (1 : Int32) else (0 : Int32)))])) _
        refine XS.ifNo X5001.here hx rfl (hb hby d2_136) rfl ((if0 _ _).trans (teq (show (if (¬ (P0 < (55296 : Int32)) ∧ ¬ ((63743 : Int32) < P0)) then (1 : Int32) else (0 : Int32)) = (0 : Int32) from if_neg hc136)).2) ?_
        exact kt)
    obtain ⟨T5006, pc5006, L5006, lc5006, X5006, N5006, e5006, dc5006, st5006⟩ := tl2_139 P0 (a0 := a0) (Z := Z) X5001 hx hZ hw hby hml hown K5001 N5001 Z0
    have hv : tf2_128 P0 = tf2_139 P0 := by unfold tf2_128; rw [if_neg hc136]
    rw [hv]
    exact ⟨T5006, pc5006, L5006, lc5006, X5006, N5006, e5006, dc5006, fun t kt => pre5005 t (st5006 t kt)⟩
theorem tb2_128 (P0 : Int32) : tf2_128 P0 = 0 ∨ tf2_128 P0 = 1 := by
  unfold tf2_128
  (repeat' split) <;> first | exact Or.inl rfl | exact Or.inr rfl | exact tb2_139 P0 | exact tb2_150 P0 | exact tb2_161 P0 | exact tb2_165 P0
def tf2_115 (P0 : Int32) : Int32 := (if (¬ (P0 < (12272 : Int32)) ∧ ¬ ((12288 : Int32) < P0)) then tf2_161 P0 else tf2_128 P0)
set_option maxRecDepth 65536 in
set_option maxHeartbeats 40000000 in
theorem tl2_115 {p : Program} {l : Launch} {e : Env} {s : State} {m : MethodId} {args : Array Value} {below : List Frame} {meth : Method} {c : Code} {T0 : State} {locs : List Loc} {Z : State} {a0 : Array Value} {h0 : Heap} {n0 : Nat} (P0 : Int32)
    (X0 : Stand p l e ({ frames := 1, cells := 0, slots := 0, locals := 14 } : Room) s m args below meth c T0 locs 0 0) (hx : p.tables.exec = Jvm.exec) (hZ : Z.Warmed39 s.vm) (hw : ∀ d ∈ tables_1, d.before a0 Z = true) (hby : c.code = method_3_code) (hml : c.maxLocals = 2) (hown : s.vm.findClass "com/example/postil/postil/rdf/NameCharactersIsStartPinLaw" = some m.cls) (e0 : T0.heap = h0) (N0 : Fr n0 locs) (Z0 : n0 ≤ h0.size) :
    ∃ (T' : State) (pc' : Nat) (L' : Array Slot) (locs' : List Loc), Stand p l e ({ frames := 1, cells := 0, slots := 0, locals := 14 } : Room) s m args below meth c T' locs' 0 0 ∧ Fr n0 locs' ∧ T'.heap = h0 ∧ decode c.code pc' = .ok (.ireturn, 1) ∧ ∀ t, Steps p.tables e below (T'.setTop (mkF m pc' L' [.int (tf2_115 P0)])) t → Steps p.tables e below (T0.setTop (mkF m 115 #[.val (.int P0), .unset] [])) t := by
  have pre0 : ∀ t, Steps p.tables e below (T0.setTop (mkF m 115 #[.val (.int P0), .unset] [])) t → Steps p.tables e below (T0.setTop (mkF m 115 #[.val (.int P0), .unset] [])) t := fun t k => k
  obtain ⟨_, _, ⟨T6001, L6001, k6001, n6001⟩, -, X6001, ⟨Lc6001, hQ6001, l6001, y6001, z6001⟩, st6001⟩ := Jvm.LawKit.callS X0 hx (y := (⟨"com/example/postil/postil/rdf/NameCharactersIsStartPinLaw", "in", "(III)Z"⟩ : MethodName)) hown (mvT hZ (hw _ (List.mem_of_getElem? (i := 13) rfl))) (mvT hZ (hw _ (List.mem_of_getElem? (i := 14) rfl))) (mvT hZ (hw _ (List.mem_of_getElem? (i := 10) rfl))) (mvT hZ (hw _ (List.mem_of_getElem? (i := 15) rfl))) (by decide) (backOf (W := 0) (rm3 l Z a0 hw [] P0 (12272 : Int32) (12288 : Int32) h0 n0 Z0 ) hZ (hw _ (List.mem_of_getElem? (i := 15) rfl)) (hw _ (List.mem_of_getElem? (i := 10) rfl)) (by decide) (by decide)) (g := (mkF m 122 #[.val (.int P0), .unset] [(.int (12288 : Int32)), (.int (12272 : Int32)), (.int P0)])) rfl (by rw [hml]; rfl) (argsL := [(.int P0), (.int (12272 : Int32)), (.int (12288 : Int32))]) (rest := []) (lenOf pd_2_0 rfl) rfl (by show 2 * 0 + _ ≤ _; exact Nat.le_of_eq rfl) (hb hby d2_122) (fun _ _ => ⟨rfl, e0, (by decide : 0 + 0 ≤ _), (by decide : 0 + 0 ≤ _)⟩)
  dsimp only [Pt.U, Pt.locs, Pt.cells, Pt.slots] at X6001 l6001 y6001 z6001 st6001 hQ6001
  subst l6001 y6001 z6001
  obtain ⟨rfl, N6001q, K6001⟩ := hQ6001
  have N6001 := Fr.app N0 N6001q
  have pre6002 : ∀ t, Steps p.tables e below (T6001.setTop (mkF m 125 #[.val (.int P0), .unset] [(.int (if (¬ (P0 < (12272 : Int32)) ∧ ¬ ((12288 : Int32) < P0)) then (1 : Int32) else (0 : Int32)))])) t → Steps p.tables e below (T0.setTop (mkF m 115 #[.val (.int P0), .unset] [])) t := fun t kt => pre0 t (by
      show Steps p.tables e below (T0.setTop (mkF m 115 #[.val (.int P0), .unset] [])) _
      refine XS.iloadN X0.here hx rfl (hb hby d2_115) rfl ?_
      show Steps p.tables e below (T0.setTop (mkF m 116 #[.val (.int P0), .unset] [(.int P0)])) _
      refine XS.sipush X0.here hx rfl (hb hby d2_116) ?_
      show Steps p.tables e below (T0.setTop (mkF m 119 #[.val (.int P0), .unset] [(.int (12272 : Int32)), (.int P0)])) _
      refine XS.sipush X0.here hx rfl (hb hby d2_119) ?_
      show Steps p.tables e below (T0.setTop (mkF m 122 #[.val (.int P0), .unset] [(.int (12288 : Int32)), (.int (12272 : Int32)), (.int P0)])) _
      refine st6001 _ ?_
      exact kt)
  by_cases hc125 : (¬ (P0 < (12272 : Int32)) ∧ ¬ ((12288 : Int32) < P0))
  · have pre6003 : ∀ t, Steps p.tables e below (T6001.setTop (mkF m 161 #[.val (.int P0), .unset] [])) t → Steps p.tables e below (T0.setTop (mkF m 115 #[.val (.int P0), .unset] [])) t := fun t kt => pre6002 t (by
        show Steps p.tables e below (T6001.setTop (mkF m 125 #[.val (.int P0), .unset] [(.int (if (¬ (P0 < (12272 : Int32)) ∧ ¬ ((12288 : Int32) < P0)) then (1 : Int32) else (0 : Int32)))])) _
        refine XS.ifYes X6001.here hx rfl (pc0 := 125) (pc' := 161) rfl (hb hby d2_125) rfl ((if0 _ _).trans (feq (show ¬ ((if (¬ (P0 < (12272 : Int32)) ∧ ¬ ((12288 : Int32) < P0)) then (1 : Int32) else (0 : Int32)) = (0 : Int32)) from by rw [if_pos hc125]; decide)).2) (by decide) (by decide) ?_
        exact kt)
    obtain ⟨T6004, pc6004, L6004, lc6004, X6004, N6004, e6004, dc6004, st6004⟩ := tl2_161 P0 (a0 := a0) (Z := Z) X6001 hx hZ hw hby hml hown K6001 N6001 Z0
    have hv : tf2_115 P0 = tf2_161 P0 := by unfold tf2_115; rw [if_pos hc125]
    rw [hv]
    exact ⟨T6004, pc6004, L6004, lc6004, X6004, N6004, e6004, dc6004, fun t kt => pre6003 t (st6004 t kt)⟩
  · have pre6005 : ∀ t, Steps p.tables e below (T6001.setTop (mkF m 128 #[.val (.int P0), .unset] [])) t → Steps p.tables e below (T0.setTop (mkF m 115 #[.val (.int P0), .unset] [])) t := fun t kt => pre6002 t (by
        show Steps p.tables e below (T6001.setTop (mkF m 125 #[.val (.int P0), .unset] [(.int (if (¬ (P0 < (12272 : Int32)) ∧ ¬ ((12288 : Int32) < P0)) then (1 : Int32) else (0 : Int32)))])) _
        refine XS.ifNo X6001.here hx rfl (hb hby d2_125) rfl ((if0 _ _).trans (teq (show (if (¬ (P0 < (12272 : Int32)) ∧ ¬ ((12288 : Int32) < P0)) then (1 : Int32) else (0 : Int32)) = (0 : Int32) from if_neg hc125)).2) ?_
        exact kt)
    obtain ⟨T6006, pc6006, L6006, lc6006, X6006, N6006, e6006, dc6006, st6006⟩ := tl2_128 P0 (a0 := a0) (Z := Z) X6001 hx hZ hw hby hml hown K6001 N6001 Z0
    have hv : tf2_115 P0 = tf2_128 P0 := by unfold tf2_115; rw [if_neg hc125]
    rw [hv]
    exact ⟨T6006, pc6006, L6006, lc6006, X6006, N6006, e6006, dc6006, fun t kt => pre6005 t (st6006 t kt)⟩
theorem tb2_115 (P0 : Int32) : tf2_115 P0 = 0 ∨ tf2_115 P0 = 1 := by
  unfold tf2_115
  (repeat' split) <;> first | exact Or.inl rfl | exact Or.inr rfl | exact tb2_128 P0 | exact tb2_139 P0 | exact tb2_150 P0 | exact tb2_161 P0 | exact tb2_165 P0
def tf2_102 (P0 : Int32) : Int32 := (if (¬ (P0 < (8592 : Int32)) ∧ ¬ ((11263 : Int32) < P0)) then tf2_161 P0 else tf2_115 P0)
set_option maxRecDepth 65536 in
set_option maxHeartbeats 40000000 in
theorem tl2_102 {p : Program} {l : Launch} {e : Env} {s : State} {m : MethodId} {args : Array Value} {below : List Frame} {meth : Method} {c : Code} {T0 : State} {locs : List Loc} {Z : State} {a0 : Array Value} {h0 : Heap} {n0 : Nat} (P0 : Int32)
    (X0 : Stand p l e ({ frames := 1, cells := 0, slots := 0, locals := 14 } : Room) s m args below meth c T0 locs 0 0) (hx : p.tables.exec = Jvm.exec) (hZ : Z.Warmed39 s.vm) (hw : ∀ d ∈ tables_1, d.before a0 Z = true) (hby : c.code = method_3_code) (hml : c.maxLocals = 2) (hown : s.vm.findClass "com/example/postil/postil/rdf/NameCharactersIsStartPinLaw" = some m.cls) (e0 : T0.heap = h0) (N0 : Fr n0 locs) (Z0 : n0 ≤ h0.size) :
    ∃ (T' : State) (pc' : Nat) (L' : Array Slot) (locs' : List Loc), Stand p l e ({ frames := 1, cells := 0, slots := 0, locals := 14 } : Room) s m args below meth c T' locs' 0 0 ∧ Fr n0 locs' ∧ T'.heap = h0 ∧ decode c.code pc' = .ok (.ireturn, 1) ∧ ∀ t, Steps p.tables e below (T'.setTop (mkF m pc' L' [.int (tf2_102 P0)])) t → Steps p.tables e below (T0.setTop (mkF m 102 #[.val (.int P0), .unset] [])) t := by
  have pre0 : ∀ t, Steps p.tables e below (T0.setTop (mkF m 102 #[.val (.int P0), .unset] [])) t → Steps p.tables e below (T0.setTop (mkF m 102 #[.val (.int P0), .unset] [])) t := fun t k => k
  obtain ⟨_, _, ⟨T7001, L7001, k7001, n7001⟩, -, X7001, ⟨Lc7001, hQ7001, l7001, y7001, z7001⟩, st7001⟩ := Jvm.LawKit.callS X0 hx (y := (⟨"com/example/postil/postil/rdf/NameCharactersIsStartPinLaw", "in", "(III)Z"⟩ : MethodName)) hown (mvT hZ (hw _ (List.mem_of_getElem? (i := 13) rfl))) (mvT hZ (hw _ (List.mem_of_getElem? (i := 14) rfl))) (mvT hZ (hw _ (List.mem_of_getElem? (i := 10) rfl))) (mvT hZ (hw _ (List.mem_of_getElem? (i := 15) rfl))) (by decide) (backOf (W := 0) (rm3 l Z a0 hw [] P0 (8592 : Int32) (11263 : Int32) h0 n0 Z0 ) hZ (hw _ (List.mem_of_getElem? (i := 15) rfl)) (hw _ (List.mem_of_getElem? (i := 10) rfl)) (by decide) (by decide)) (g := (mkF m 109 #[.val (.int P0), .unset] [(.int (11263 : Int32)), (.int (8592 : Int32)), (.int P0)])) rfl (by rw [hml]; rfl) (argsL := [(.int P0), (.int (8592 : Int32)), (.int (11263 : Int32))]) (rest := []) (lenOf pd_2_0 rfl) rfl (by show 2 * 0 + _ ≤ _; exact Nat.le_of_eq rfl) (hb hby d2_109) (fun _ _ => ⟨rfl, e0, (by decide : 0 + 0 ≤ _), (by decide : 0 + 0 ≤ _)⟩)
  dsimp only [Pt.U, Pt.locs, Pt.cells, Pt.slots] at X7001 l7001 y7001 z7001 st7001 hQ7001
  subst l7001 y7001 z7001
  obtain ⟨rfl, N7001q, K7001⟩ := hQ7001
  have N7001 := Fr.app N0 N7001q
  have pre7002 : ∀ t, Steps p.tables e below (T7001.setTop (mkF m 112 #[.val (.int P0), .unset] [(.int (if (¬ (P0 < (8592 : Int32)) ∧ ¬ ((11263 : Int32) < P0)) then (1 : Int32) else (0 : Int32)))])) t → Steps p.tables e below (T0.setTop (mkF m 102 #[.val (.int P0), .unset] [])) t := fun t kt => pre0 t (by
      show Steps p.tables e below (T0.setTop (mkF m 102 #[.val (.int P0), .unset] [])) _
      refine XS.iloadN X0.here hx rfl (hb hby d2_102) rfl ?_
      show Steps p.tables e below (T0.setTop (mkF m 103 #[.val (.int P0), .unset] [(.int P0)])) _
      refine XS.sipush X0.here hx rfl (hb hby d2_103) ?_
      show Steps p.tables e below (T0.setTop (mkF m 106 #[.val (.int P0), .unset] [(.int (8592 : Int32)), (.int P0)])) _
      refine XS.sipush X0.here hx rfl (hb hby d2_106) ?_
      show Steps p.tables e below (T0.setTop (mkF m 109 #[.val (.int P0), .unset] [(.int (11263 : Int32)), (.int (8592 : Int32)), (.int P0)])) _
      refine st7001 _ ?_
      exact kt)
  by_cases hc112 : (¬ (P0 < (8592 : Int32)) ∧ ¬ ((11263 : Int32) < P0))
  · have pre7003 : ∀ t, Steps p.tables e below (T7001.setTop (mkF m 161 #[.val (.int P0), .unset] [])) t → Steps p.tables e below (T0.setTop (mkF m 102 #[.val (.int P0), .unset] [])) t := fun t kt => pre7002 t (by
        show Steps p.tables e below (T7001.setTop (mkF m 112 #[.val (.int P0), .unset] [(.int (if (¬ (P0 < (8592 : Int32)) ∧ ¬ ((11263 : Int32) < P0)) then (1 : Int32) else (0 : Int32)))])) _
        refine XS.ifYes X7001.here hx rfl (pc0 := 112) (pc' := 161) rfl (hb hby d2_112) rfl ((if0 _ _).trans (feq (show ¬ ((if (¬ (P0 < (8592 : Int32)) ∧ ¬ ((11263 : Int32) < P0)) then (1 : Int32) else (0 : Int32)) = (0 : Int32)) from by rw [if_pos hc112]; decide)).2) (by decide) (by decide) ?_
        exact kt)
    obtain ⟨T7004, pc7004, L7004, lc7004, X7004, N7004, e7004, dc7004, st7004⟩ := tl2_161 P0 (a0 := a0) (Z := Z) X7001 hx hZ hw hby hml hown K7001 N7001 Z0
    have hv : tf2_102 P0 = tf2_161 P0 := by unfold tf2_102; rw [if_pos hc112]
    rw [hv]
    exact ⟨T7004, pc7004, L7004, lc7004, X7004, N7004, e7004, dc7004, fun t kt => pre7003 t (st7004 t kt)⟩
  · have pre7005 : ∀ t, Steps p.tables e below (T7001.setTop (mkF m 115 #[.val (.int P0), .unset] [])) t → Steps p.tables e below (T0.setTop (mkF m 102 #[.val (.int P0), .unset] [])) t := fun t kt => pre7002 t (by
        show Steps p.tables e below (T7001.setTop (mkF m 112 #[.val (.int P0), .unset] [(.int (if (¬ (P0 < (8592 : Int32)) ∧ ¬ ((11263 : Int32) < P0)) then (1 : Int32) else (0 : Int32)))])) _
        refine XS.ifNo X7001.here hx rfl (hb hby d2_112) rfl ((if0 _ _).trans (teq (show (if (¬ (P0 < (8592 : Int32)) ∧ ¬ ((11263 : Int32) < P0)) then (1 : Int32) else (0 : Int32)) = (0 : Int32) from if_neg hc112)).2) ?_
        exact kt)
    obtain ⟨T7006, pc7006, L7006, lc7006, X7006, N7006, e7006, dc7006, st7006⟩ := tl2_115 P0 (a0 := a0) (Z := Z) X7001 hx hZ hw hby hml hown K7001 N7001 Z0
    have hv : tf2_102 P0 = tf2_115 P0 := by unfold tf2_102; rw [if_neg hc112]
    rw [hv]
    exact ⟨T7006, pc7006, L7006, lc7006, X7006, N7006, e7006, dc7006, fun t kt => pre7005 t (st7006 t kt)⟩
theorem tb2_102 (P0 : Int32) : tf2_102 P0 = 0 ∨ tf2_102 P0 = 1 := by
  unfold tf2_102
  (repeat' split) <;> first | exact Or.inl rfl | exact Or.inr rfl | exact tb2_115 P0 | exact tb2_128 P0 | exact tb2_139 P0 | exact tb2_150 P0 | exact tb2_161 P0 | exact tb2_165 P0
def tf2_89 (P0 : Int32) : Int32 := (if (¬ (P0 < (8206 : Int32)) ∧ ¬ ((8303 : Int32) < P0)) then tf2_161 P0 else tf2_102 P0)
set_option maxRecDepth 65536 in
set_option maxHeartbeats 40000000 in
theorem tl2_89 {p : Program} {l : Launch} {e : Env} {s : State} {m : MethodId} {args : Array Value} {below : List Frame} {meth : Method} {c : Code} {T0 : State} {locs : List Loc} {Z : State} {a0 : Array Value} {h0 : Heap} {n0 : Nat} (P0 : Int32)
    (X0 : Stand p l e ({ frames := 1, cells := 0, slots := 0, locals := 14 } : Room) s m args below meth c T0 locs 0 0) (hx : p.tables.exec = Jvm.exec) (hZ : Z.Warmed39 s.vm) (hw : ∀ d ∈ tables_1, d.before a0 Z = true) (hby : c.code = method_3_code) (hml : c.maxLocals = 2) (hown : s.vm.findClass "com/example/postil/postil/rdf/NameCharactersIsStartPinLaw" = some m.cls) (e0 : T0.heap = h0) (N0 : Fr n0 locs) (Z0 : n0 ≤ h0.size) :
    ∃ (T' : State) (pc' : Nat) (L' : Array Slot) (locs' : List Loc), Stand p l e ({ frames := 1, cells := 0, slots := 0, locals := 14 } : Room) s m args below meth c T' locs' 0 0 ∧ Fr n0 locs' ∧ T'.heap = h0 ∧ decode c.code pc' = .ok (.ireturn, 1) ∧ ∀ t, Steps p.tables e below (T'.setTop (mkF m pc' L' [.int (tf2_89 P0)])) t → Steps p.tables e below (T0.setTop (mkF m 89 #[.val (.int P0), .unset] [])) t := by
  have pre0 : ∀ t, Steps p.tables e below (T0.setTop (mkF m 89 #[.val (.int P0), .unset] [])) t → Steps p.tables e below (T0.setTop (mkF m 89 #[.val (.int P0), .unset] [])) t := fun t k => k
  obtain ⟨_, _, ⟨T8001, L8001, k8001, n8001⟩, -, X8001, ⟨Lc8001, hQ8001, l8001, y8001, z8001⟩, st8001⟩ := Jvm.LawKit.callS X0 hx (y := (⟨"com/example/postil/postil/rdf/NameCharactersIsStartPinLaw", "in", "(III)Z"⟩ : MethodName)) hown (mvT hZ (hw _ (List.mem_of_getElem? (i := 13) rfl))) (mvT hZ (hw _ (List.mem_of_getElem? (i := 14) rfl))) (mvT hZ (hw _ (List.mem_of_getElem? (i := 10) rfl))) (mvT hZ (hw _ (List.mem_of_getElem? (i := 15) rfl))) (by decide) (backOf (W := 0) (rm3 l Z a0 hw [] P0 (8206 : Int32) (8303 : Int32) h0 n0 Z0 ) hZ (hw _ (List.mem_of_getElem? (i := 15) rfl)) (hw _ (List.mem_of_getElem? (i := 10) rfl)) (by decide) (by decide)) (g := (mkF m 96 #[.val (.int P0), .unset] [(.int (8303 : Int32)), (.int (8206 : Int32)), (.int P0)])) rfl (by rw [hml]; rfl) (argsL := [(.int P0), (.int (8206 : Int32)), (.int (8303 : Int32))]) (rest := []) (lenOf pd_2_0 rfl) rfl (by show 2 * 0 + _ ≤ _; exact Nat.le_of_eq rfl) (hb hby d2_96) (fun _ _ => ⟨rfl, e0, (by decide : 0 + 0 ≤ _), (by decide : 0 + 0 ≤ _)⟩)
  dsimp only [Pt.U, Pt.locs, Pt.cells, Pt.slots] at X8001 l8001 y8001 z8001 st8001 hQ8001
  subst l8001 y8001 z8001
  obtain ⟨rfl, N8001q, K8001⟩ := hQ8001
  have N8001 := Fr.app N0 N8001q
  have pre8002 : ∀ t, Steps p.tables e below (T8001.setTop (mkF m 99 #[.val (.int P0), .unset] [(.int (if (¬ (P0 < (8206 : Int32)) ∧ ¬ ((8303 : Int32) < P0)) then (1 : Int32) else (0 : Int32)))])) t → Steps p.tables e below (T0.setTop (mkF m 89 #[.val (.int P0), .unset] [])) t := fun t kt => pre0 t (by
      show Steps p.tables e below (T0.setTop (mkF m 89 #[.val (.int P0), .unset] [])) _
      refine XS.iloadN X0.here hx rfl (hb hby d2_89) rfl ?_
      show Steps p.tables e below (T0.setTop (mkF m 90 #[.val (.int P0), .unset] [(.int P0)])) _
      refine XS.sipush X0.here hx rfl (hb hby d2_90) ?_
      show Steps p.tables e below (T0.setTop (mkF m 93 #[.val (.int P0), .unset] [(.int (8206 : Int32)), (.int P0)])) _
      refine XS.sipush X0.here hx rfl (hb hby d2_93) ?_
      show Steps p.tables e below (T0.setTop (mkF m 96 #[.val (.int P0), .unset] [(.int (8303 : Int32)), (.int (8206 : Int32)), (.int P0)])) _
      refine st8001 _ ?_
      exact kt)
  by_cases hc99 : (¬ (P0 < (8206 : Int32)) ∧ ¬ ((8303 : Int32) < P0))
  · have pre8003 : ∀ t, Steps p.tables e below (T8001.setTop (mkF m 161 #[.val (.int P0), .unset] [])) t → Steps p.tables e below (T0.setTop (mkF m 89 #[.val (.int P0), .unset] [])) t := fun t kt => pre8002 t (by
        show Steps p.tables e below (T8001.setTop (mkF m 99 #[.val (.int P0), .unset] [(.int (if (¬ (P0 < (8206 : Int32)) ∧ ¬ ((8303 : Int32) < P0)) then (1 : Int32) else (0 : Int32)))])) _
        refine XS.ifYes X8001.here hx rfl (pc0 := 99) (pc' := 161) rfl (hb hby d2_99) rfl ((if0 _ _).trans (feq (show ¬ ((if (¬ (P0 < (8206 : Int32)) ∧ ¬ ((8303 : Int32) < P0)) then (1 : Int32) else (0 : Int32)) = (0 : Int32)) from by rw [if_pos hc99]; decide)).2) (by decide) (by decide) ?_
        exact kt)
    obtain ⟨T8004, pc8004, L8004, lc8004, X8004, N8004, e8004, dc8004, st8004⟩ := tl2_161 P0 (a0 := a0) (Z := Z) X8001 hx hZ hw hby hml hown K8001 N8001 Z0
    have hv : tf2_89 P0 = tf2_161 P0 := by unfold tf2_89; rw [if_pos hc99]
    rw [hv]
    exact ⟨T8004, pc8004, L8004, lc8004, X8004, N8004, e8004, dc8004, fun t kt => pre8003 t (st8004 t kt)⟩
  · have pre8005 : ∀ t, Steps p.tables e below (T8001.setTop (mkF m 102 #[.val (.int P0), .unset] [])) t → Steps p.tables e below (T0.setTop (mkF m 89 #[.val (.int P0), .unset] [])) t := fun t kt => pre8002 t (by
        show Steps p.tables e below (T8001.setTop (mkF m 99 #[.val (.int P0), .unset] [(.int (if (¬ (P0 < (8206 : Int32)) ∧ ¬ ((8303 : Int32) < P0)) then (1 : Int32) else (0 : Int32)))])) _
        refine XS.ifNo X8001.here hx rfl (hb hby d2_99) rfl ((if0 _ _).trans (teq (show (if (¬ (P0 < (8206 : Int32)) ∧ ¬ ((8303 : Int32) < P0)) then (1 : Int32) else (0 : Int32)) = (0 : Int32) from if_neg hc99)).2) ?_
        exact kt)
    obtain ⟨T8006, pc8006, L8006, lc8006, X8006, N8006, e8006, dc8006, st8006⟩ := tl2_102 P0 (a0 := a0) (Z := Z) X8001 hx hZ hw hby hml hown K8001 N8001 Z0
    have hv : tf2_89 P0 = tf2_102 P0 := by unfold tf2_89; rw [if_neg hc99]
    rw [hv]
    exact ⟨T8006, pc8006, L8006, lc8006, X8006, N8006, e8006, dc8006, fun t kt => pre8005 t (st8006 t kt)⟩
theorem tb2_89 (P0 : Int32) : tf2_89 P0 = 0 ∨ tf2_89 P0 = 1 := by
  unfold tf2_89
  (repeat' split) <;> first | exact Or.inl rfl | exact Or.inr rfl | exact tb2_102 P0 | exact tb2_115 P0 | exact tb2_128 P0 | exact tb2_139 P0 | exact tb2_150 P0 | exact tb2_161 P0 | exact tb2_165 P0
def tf2_76 (P0 : Int32) : Int32 := (if (¬ (P0 < (8192 : Int32)) ∧ ¬ ((8203 : Int32) < P0)) then tf2_161 P0 else tf2_89 P0)
set_option maxRecDepth 65536 in
set_option maxHeartbeats 40000000 in
theorem tl2_76 {p : Program} {l : Launch} {e : Env} {s : State} {m : MethodId} {args : Array Value} {below : List Frame} {meth : Method} {c : Code} {T0 : State} {locs : List Loc} {Z : State} {a0 : Array Value} {h0 : Heap} {n0 : Nat} (P0 : Int32)
    (X0 : Stand p l e ({ frames := 1, cells := 0, slots := 0, locals := 14 } : Room) s m args below meth c T0 locs 0 0) (hx : p.tables.exec = Jvm.exec) (hZ : Z.Warmed39 s.vm) (hw : ∀ d ∈ tables_1, d.before a0 Z = true) (hby : c.code = method_3_code) (hml : c.maxLocals = 2) (hown : s.vm.findClass "com/example/postil/postil/rdf/NameCharactersIsStartPinLaw" = some m.cls) (e0 : T0.heap = h0) (N0 : Fr n0 locs) (Z0 : n0 ≤ h0.size) :
    ∃ (T' : State) (pc' : Nat) (L' : Array Slot) (locs' : List Loc), Stand p l e ({ frames := 1, cells := 0, slots := 0, locals := 14 } : Room) s m args below meth c T' locs' 0 0 ∧ Fr n0 locs' ∧ T'.heap = h0 ∧ decode c.code pc' = .ok (.ireturn, 1) ∧ ∀ t, Steps p.tables e below (T'.setTop (mkF m pc' L' [.int (tf2_76 P0)])) t → Steps p.tables e below (T0.setTop (mkF m 76 #[.val (.int P0), .unset] [])) t := by
  have pre0 : ∀ t, Steps p.tables e below (T0.setTop (mkF m 76 #[.val (.int P0), .unset] [])) t → Steps p.tables e below (T0.setTop (mkF m 76 #[.val (.int P0), .unset] [])) t := fun t k => k
  obtain ⟨_, _, ⟨T9001, L9001, k9001, n9001⟩, -, X9001, ⟨Lc9001, hQ9001, l9001, y9001, z9001⟩, st9001⟩ := Jvm.LawKit.callS X0 hx (y := (⟨"com/example/postil/postil/rdf/NameCharactersIsStartPinLaw", "in", "(III)Z"⟩ : MethodName)) hown (mvT hZ (hw _ (List.mem_of_getElem? (i := 13) rfl))) (mvT hZ (hw _ (List.mem_of_getElem? (i := 14) rfl))) (mvT hZ (hw _ (List.mem_of_getElem? (i := 10) rfl))) (mvT hZ (hw _ (List.mem_of_getElem? (i := 15) rfl))) (by decide) (backOf (W := 0) (rm3 l Z a0 hw [] P0 (8192 : Int32) (8203 : Int32) h0 n0 Z0 ) hZ (hw _ (List.mem_of_getElem? (i := 15) rfl)) (hw _ (List.mem_of_getElem? (i := 10) rfl)) (by decide) (by decide)) (g := (mkF m 83 #[.val (.int P0), .unset] [(.int (8203 : Int32)), (.int (8192 : Int32)), (.int P0)])) rfl (by rw [hml]; rfl) (argsL := [(.int P0), (.int (8192 : Int32)), (.int (8203 : Int32))]) (rest := []) (lenOf pd_2_0 rfl) rfl (by show 2 * 0 + _ ≤ _; exact Nat.le_of_eq rfl) (hb hby d2_83) (fun _ _ => ⟨rfl, e0, (by decide : 0 + 0 ≤ _), (by decide : 0 + 0 ≤ _)⟩)
  dsimp only [Pt.U, Pt.locs, Pt.cells, Pt.slots] at X9001 l9001 y9001 z9001 st9001 hQ9001
  subst l9001 y9001 z9001
  obtain ⟨rfl, N9001q, K9001⟩ := hQ9001
  have N9001 := Fr.app N0 N9001q
  have pre9002 : ∀ t, Steps p.tables e below (T9001.setTop (mkF m 86 #[.val (.int P0), .unset] [(.int (if (¬ (P0 < (8192 : Int32)) ∧ ¬ ((8203 : Int32) < P0)) then (1 : Int32) else (0 : Int32)))])) t → Steps p.tables e below (T0.setTop (mkF m 76 #[.val (.int P0), .unset] [])) t := fun t kt => pre0 t (by
      show Steps p.tables e below (T0.setTop (mkF m 76 #[.val (.int P0), .unset] [])) _
      refine XS.iloadN X0.here hx rfl (hb hby d2_76) rfl ?_
      show Steps p.tables e below (T0.setTop (mkF m 77 #[.val (.int P0), .unset] [(.int P0)])) _
      refine XS.sipush X0.here hx rfl (hb hby d2_77) ?_
      show Steps p.tables e below (T0.setTop (mkF m 80 #[.val (.int P0), .unset] [(.int (8192 : Int32)), (.int P0)])) _
      refine XS.sipush X0.here hx rfl (hb hby d2_80) ?_
      show Steps p.tables e below (T0.setTop (mkF m 83 #[.val (.int P0), .unset] [(.int (8203 : Int32)), (.int (8192 : Int32)), (.int P0)])) _
      refine st9001 _ ?_
      exact kt)
  by_cases hc86 : (¬ (P0 < (8192 : Int32)) ∧ ¬ ((8203 : Int32) < P0))
  · have pre9003 : ∀ t, Steps p.tables e below (T9001.setTop (mkF m 161 #[.val (.int P0), .unset] [])) t → Steps p.tables e below (T0.setTop (mkF m 76 #[.val (.int P0), .unset] [])) t := fun t kt => pre9002 t (by
        show Steps p.tables e below (T9001.setTop (mkF m 86 #[.val (.int P0), .unset] [(.int (if (¬ (P0 < (8192 : Int32)) ∧ ¬ ((8203 : Int32) < P0)) then (1 : Int32) else (0 : Int32)))])) _
        refine XS.ifYes X9001.here hx rfl (pc0 := 86) (pc' := 161) rfl (hb hby d2_86) rfl ((if0 _ _).trans (feq (show ¬ ((if (¬ (P0 < (8192 : Int32)) ∧ ¬ ((8203 : Int32) < P0)) then (1 : Int32) else (0 : Int32)) = (0 : Int32)) from by rw [if_pos hc86]; decide)).2) (by decide) (by decide) ?_
        exact kt)
    obtain ⟨T9004, pc9004, L9004, lc9004, X9004, N9004, e9004, dc9004, st9004⟩ := tl2_161 P0 (a0 := a0) (Z := Z) X9001 hx hZ hw hby hml hown K9001 N9001 Z0
    have hv : tf2_76 P0 = tf2_161 P0 := by unfold tf2_76; rw [if_pos hc86]
    rw [hv]
    exact ⟨T9004, pc9004, L9004, lc9004, X9004, N9004, e9004, dc9004, fun t kt => pre9003 t (st9004 t kt)⟩
  · have pre9005 : ∀ t, Steps p.tables e below (T9001.setTop (mkF m 89 #[.val (.int P0), .unset] [])) t → Steps p.tables e below (T0.setTop (mkF m 76 #[.val (.int P0), .unset] [])) t := fun t kt => pre9002 t (by
        show Steps p.tables e below (T9001.setTop (mkF m 86 #[.val (.int P0), .unset] [(.int (if (¬ (P0 < (8192 : Int32)) ∧ ¬ ((8203 : Int32) < P0)) then (1 : Int32) else (0 : Int32)))])) _
        refine XS.ifNo X9001.here hx rfl (hb hby d2_86) rfl ((if0 _ _).trans (teq (show (if (¬ (P0 < (8192 : Int32)) ∧ ¬ ((8203 : Int32) < P0)) then (1 : Int32) else (0 : Int32)) = (0 : Int32) from if_neg hc86)).2) ?_
        exact kt)
    obtain ⟨T9006, pc9006, L9006, lc9006, X9006, N9006, e9006, dc9006, st9006⟩ := tl2_89 P0 (a0 := a0) (Z := Z) X9001 hx hZ hw hby hml hown K9001 N9001 Z0
    have hv : tf2_76 P0 = tf2_89 P0 := by unfold tf2_76; rw [if_neg hc86]
    rw [hv]
    exact ⟨T9006, pc9006, L9006, lc9006, X9006, N9006, e9006, dc9006, fun t kt => pre9005 t (st9006 t kt)⟩
theorem tb2_76 (P0 : Int32) : tf2_76 P0 = 0 ∨ tf2_76 P0 = 1 := by
  unfold tf2_76
  (repeat' split) <;> first | exact Or.inl rfl | exact Or.inr rfl | exact tb2_89 P0 | exact tb2_102 P0 | exact tb2_115 P0 | exact tb2_128 P0 | exact tb2_139 P0 | exact tb2_150 P0 | exact tb2_161 P0 | exact tb2_165 P0
def tf2_69 (P0 : Int32) : Int32 := (if P0 = (894 : Int32) then tf2_161 P0 else tf2_76 P0)
set_option maxRecDepth 65536 in
set_option maxHeartbeats 40000000 in
theorem tl2_69 {p : Program} {l : Launch} {e : Env} {s : State} {m : MethodId} {args : Array Value} {below : List Frame} {meth : Method} {c : Code} {T0 : State} {locs : List Loc} {Z : State} {a0 : Array Value} {h0 : Heap} {n0 : Nat} (P0 : Int32)
    (X0 : Stand p l e ({ frames := 1, cells := 0, slots := 0, locals := 14 } : Room) s m args below meth c T0 locs 0 0) (hx : p.tables.exec = Jvm.exec) (hZ : Z.Warmed39 s.vm) (hw : ∀ d ∈ tables_1, d.before a0 Z = true) (hby : c.code = method_3_code) (hml : c.maxLocals = 2) (hown : s.vm.findClass "com/example/postil/postil/rdf/NameCharactersIsStartPinLaw" = some m.cls) (e0 : T0.heap = h0) (N0 : Fr n0 locs) (Z0 : n0 ≤ h0.size) :
    ∃ (T' : State) (pc' : Nat) (L' : Array Slot) (locs' : List Loc), Stand p l e ({ frames := 1, cells := 0, slots := 0, locals := 14 } : Room) s m args below meth c T' locs' 0 0 ∧ Fr n0 locs' ∧ T'.heap = h0 ∧ decode c.code pc' = .ok (.ireturn, 1) ∧ ∀ t, Steps p.tables e below (T'.setTop (mkF m pc' L' [.int (tf2_69 P0)])) t → Steps p.tables e below (T0.setTop (mkF m 69 #[.val (.int P0), .unset] [])) t := by
  have pre0 : ∀ t, Steps p.tables e below (T0.setTop (mkF m 69 #[.val (.int P0), .unset] [])) t → Steps p.tables e below (T0.setTop (mkF m 69 #[.val (.int P0), .unset] [])) t := fun t k => k
  have pre10001 : ∀ t, Steps p.tables e below (T0.setTop (mkF m 73 #[.val (.int P0), .unset] [(.int (894 : Int32)), (.int P0)])) t → Steps p.tables e below (T0.setTop (mkF m 69 #[.val (.int P0), .unset] [])) t := fun t kt => pre0 t (by
      show Steps p.tables e below (T0.setTop (mkF m 69 #[.val (.int P0), .unset] [])) _
      refine XS.iloadN X0.here hx rfl (hb hby d2_69) rfl ?_
      show Steps p.tables e below (T0.setTop (mkF m 70 #[.val (.int P0), .unset] [(.int P0)])) _
      refine XS.sipush X0.here hx rfl (hb hby d2_70) ?_
      exact kt)
  by_cases hc73 : P0 = (894 : Int32)
  · have pre10002 : ∀ t, Steps p.tables e below (T0.setTop (mkF m 161 #[.val (.int P0), .unset] [])) t → Steps p.tables e below (T0.setTop (mkF m 69 #[.val (.int P0), .unset] [])) t := fun t kt => pre10001 t (by
        show Steps p.tables e below (T0.setTop (mkF m 73 #[.val (.int P0), .unset] [(.int (894 : Int32)), (.int P0)])) _
        refine XS.icmpYes X0.here hx rfl (pc0 := 73) (pc' := 161) rfl (hb hby d2_73) rfl (teq hc73).1 (by decide) (by decide) ?_
        exact kt)
    obtain ⟨T10003, pc10003, L10003, lc10003, X10003, N10003, e10003, dc10003, st10003⟩ := tl2_161 P0 (a0 := a0) (Z := Z) X0 hx hZ hw hby hml hown e0 N0 Z0
    have hv : tf2_69 P0 = tf2_161 P0 := by unfold tf2_69; rw [if_pos hc73]
    rw [hv]
    exact ⟨T10003, pc10003, L10003, lc10003, X10003, N10003, e10003, dc10003, fun t kt => pre10002 t (st10003 t kt)⟩
  · have pre10004 : ∀ t, Steps p.tables e below (T0.setTop (mkF m 76 #[.val (.int P0), .unset] [])) t → Steps p.tables e below (T0.setTop (mkF m 69 #[.val (.int P0), .unset] [])) t := fun t kt => pre10001 t (by
        show Steps p.tables e below (T0.setTop (mkF m 73 #[.val (.int P0), .unset] [(.int (894 : Int32)), (.int P0)])) _
        refine XS.icmpNo X0.here hx rfl (hb hby d2_73) rfl (feq hc73).1 ?_
        exact kt)
    obtain ⟨T10005, pc10005, L10005, lc10005, X10005, N10005, e10005, dc10005, st10005⟩ := tl2_76 P0 (a0 := a0) (Z := Z) X0 hx hZ hw hby hml hown e0 N0 Z0
    have hv : tf2_69 P0 = tf2_76 P0 := by unfold tf2_69; rw [if_neg hc73]
    rw [hv]
    exact ⟨T10005, pc10005, L10005, lc10005, X10005, N10005, e10005, dc10005, fun t kt => pre10004 t (st10005 t kt)⟩
theorem tb2_69 (P0 : Int32) : tf2_69 P0 = 0 ∨ tf2_69 P0 = 1 := by
  unfold tf2_69
  (repeat' split) <;> first | exact Or.inl rfl | exact Or.inr rfl | exact tb2_76 P0 | exact tb2_89 P0 | exact tb2_102 P0 | exact tb2_115 P0 | exact tb2_128 P0 | exact tb2_139 P0 | exact tb2_150 P0 | exact tb2_161 P0 | exact tb2_165 P0
def tf2_56 (P0 : Int32) : Int32 := (if (¬ (P0 < (768 : Int32)) ∧ ¬ ((879 : Int32) < P0)) then tf2_161 P0 else tf2_69 P0)
set_option maxRecDepth 65536 in
set_option maxHeartbeats 40000000 in
theorem tl2_56 {p : Program} {l : Launch} {e : Env} {s : State} {m : MethodId} {args : Array Value} {below : List Frame} {meth : Method} {c : Code} {T0 : State} {locs : List Loc} {Z : State} {a0 : Array Value} {h0 : Heap} {n0 : Nat} (P0 : Int32)
    (X0 : Stand p l e ({ frames := 1, cells := 0, slots := 0, locals := 14 } : Room) s m args below meth c T0 locs 0 0) (hx : p.tables.exec = Jvm.exec) (hZ : Z.Warmed39 s.vm) (hw : ∀ d ∈ tables_1, d.before a0 Z = true) (hby : c.code = method_3_code) (hml : c.maxLocals = 2) (hown : s.vm.findClass "com/example/postil/postil/rdf/NameCharactersIsStartPinLaw" = some m.cls) (e0 : T0.heap = h0) (N0 : Fr n0 locs) (Z0 : n0 ≤ h0.size) :
    ∃ (T' : State) (pc' : Nat) (L' : Array Slot) (locs' : List Loc), Stand p l e ({ frames := 1, cells := 0, slots := 0, locals := 14 } : Room) s m args below meth c T' locs' 0 0 ∧ Fr n0 locs' ∧ T'.heap = h0 ∧ decode c.code pc' = .ok (.ireturn, 1) ∧ ∀ t, Steps p.tables e below (T'.setTop (mkF m pc' L' [.int (tf2_56 P0)])) t → Steps p.tables e below (T0.setTop (mkF m 56 #[.val (.int P0), .unset] [])) t := by
  have pre0 : ∀ t, Steps p.tables e below (T0.setTop (mkF m 56 #[.val (.int P0), .unset] [])) t → Steps p.tables e below (T0.setTop (mkF m 56 #[.val (.int P0), .unset] [])) t := fun t k => k
  obtain ⟨_, _, ⟨T11001, L11001, k11001, n11001⟩, -, X11001, ⟨Lc11001, hQ11001, l11001, y11001, z11001⟩, st11001⟩ := Jvm.LawKit.callS X0 hx (y := (⟨"com/example/postil/postil/rdf/NameCharactersIsStartPinLaw", "in", "(III)Z"⟩ : MethodName)) hown (mvT hZ (hw _ (List.mem_of_getElem? (i := 13) rfl))) (mvT hZ (hw _ (List.mem_of_getElem? (i := 14) rfl))) (mvT hZ (hw _ (List.mem_of_getElem? (i := 10) rfl))) (mvT hZ (hw _ (List.mem_of_getElem? (i := 15) rfl))) (by decide) (backOf (W := 0) (rm3 l Z a0 hw [] P0 (768 : Int32) (879 : Int32) h0 n0 Z0 ) hZ (hw _ (List.mem_of_getElem? (i := 15) rfl)) (hw _ (List.mem_of_getElem? (i := 10) rfl)) (by decide) (by decide)) (g := (mkF m 63 #[.val (.int P0), .unset] [(.int (879 : Int32)), (.int (768 : Int32)), (.int P0)])) rfl (by rw [hml]; rfl) (argsL := [(.int P0), (.int (768 : Int32)), (.int (879 : Int32))]) (rest := []) (lenOf pd_2_0 rfl) rfl (by show 2 * 0 + _ ≤ _; exact Nat.le_of_eq rfl) (hb hby d2_63) (fun _ _ => ⟨rfl, e0, (by decide : 0 + 0 ≤ _), (by decide : 0 + 0 ≤ _)⟩)
  dsimp only [Pt.U, Pt.locs, Pt.cells, Pt.slots] at X11001 l11001 y11001 z11001 st11001 hQ11001
  subst l11001 y11001 z11001
  obtain ⟨rfl, N11001q, K11001⟩ := hQ11001
  have N11001 := Fr.app N0 N11001q
  have pre11002 : ∀ t, Steps p.tables e below (T11001.setTop (mkF m 66 #[.val (.int P0), .unset] [(.int (if (¬ (P0 < (768 : Int32)) ∧ ¬ ((879 : Int32) < P0)) then (1 : Int32) else (0 : Int32)))])) t → Steps p.tables e below (T0.setTop (mkF m 56 #[.val (.int P0), .unset] [])) t := fun t kt => pre0 t (by
      show Steps p.tables e below (T0.setTop (mkF m 56 #[.val (.int P0), .unset] [])) _
      refine XS.iloadN X0.here hx rfl (hb hby d2_56) rfl ?_
      show Steps p.tables e below (T0.setTop (mkF m 57 #[.val (.int P0), .unset] [(.int P0)])) _
      refine XS.sipush X0.here hx rfl (hb hby d2_57) ?_
      show Steps p.tables e below (T0.setTop (mkF m 60 #[.val (.int P0), .unset] [(.int (768 : Int32)), (.int P0)])) _
      refine XS.sipush X0.here hx rfl (hb hby d2_60) ?_
      show Steps p.tables e below (T0.setTop (mkF m 63 #[.val (.int P0), .unset] [(.int (879 : Int32)), (.int (768 : Int32)), (.int P0)])) _
      refine st11001 _ ?_
      exact kt)
  by_cases hc66 : (¬ (P0 < (768 : Int32)) ∧ ¬ ((879 : Int32) < P0))
  · have pre11003 : ∀ t, Steps p.tables e below (T11001.setTop (mkF m 161 #[.val (.int P0), .unset] [])) t → Steps p.tables e below (T0.setTop (mkF m 56 #[.val (.int P0), .unset] [])) t := fun t kt => pre11002 t (by
        show Steps p.tables e below (T11001.setTop (mkF m 66 #[.val (.int P0), .unset] [(.int (if (¬ (P0 < (768 : Int32)) ∧ ¬ ((879 : Int32) < P0)) then (1 : Int32) else (0 : Int32)))])) _
        refine XS.ifYes X11001.here hx rfl (pc0 := 66) (pc' := 161) rfl (hb hby d2_66) rfl ((if0 _ _).trans (feq (show ¬ ((if (¬ (P0 < (768 : Int32)) ∧ ¬ ((879 : Int32) < P0)) then (1 : Int32) else (0 : Int32)) = (0 : Int32)) from by rw [if_pos hc66]; decide)).2) (by decide) (by decide) ?_
        exact kt)
    obtain ⟨T11004, pc11004, L11004, lc11004, X11004, N11004, e11004, dc11004, st11004⟩ := tl2_161 P0 (a0 := a0) (Z := Z) X11001 hx hZ hw hby hml hown K11001 N11001 Z0
    have hv : tf2_56 P0 = tf2_161 P0 := by unfold tf2_56; rw [if_pos hc66]
    rw [hv]
    exact ⟨T11004, pc11004, L11004, lc11004, X11004, N11004, e11004, dc11004, fun t kt => pre11003 t (st11004 t kt)⟩
  · have pre11005 : ∀ t, Steps p.tables e below (T11001.setTop (mkF m 69 #[.val (.int P0), .unset] [])) t → Steps p.tables e below (T0.setTop (mkF m 56 #[.val (.int P0), .unset] [])) t := fun t kt => pre11002 t (by
        show Steps p.tables e below (T11001.setTop (mkF m 66 #[.val (.int P0), .unset] [(.int (if (¬ (P0 < (768 : Int32)) ∧ ¬ ((879 : Int32) < P0)) then (1 : Int32) else (0 : Int32)))])) _
        refine XS.ifNo X11001.here hx rfl (hb hby d2_66) rfl ((if0 _ _).trans (teq (show (if (¬ (P0 < (768 : Int32)) ∧ ¬ ((879 : Int32) < P0)) then (1 : Int32) else (0 : Int32)) = (0 : Int32) from if_neg hc66)).2) ?_
        exact kt)
    obtain ⟨T11006, pc11006, L11006, lc11006, X11006, N11006, e11006, dc11006, st11006⟩ := tl2_69 P0 (a0 := a0) (Z := Z) X11001 hx hZ hw hby hml hown K11001 N11001 Z0
    have hv : tf2_56 P0 = tf2_69 P0 := by unfold tf2_56; rw [if_neg hc66]
    rw [hv]
    exact ⟨T11006, pc11006, L11006, lc11006, X11006, N11006, e11006, dc11006, fun t kt => pre11005 t (st11006 t kt)⟩
theorem tb2_56 (P0 : Int32) : tf2_56 P0 = 0 ∨ tf2_56 P0 = 1 := by
  unfold tf2_56
  (repeat' split) <;> first | exact Or.inl rfl | exact Or.inr rfl | exact tb2_69 P0 | exact tb2_76 P0 | exact tb2_89 P0 | exact tb2_102 P0 | exact tb2_115 P0 | exact tb2_128 P0 | exact tb2_139 P0 | exact tb2_150 P0 | exact tb2_161 P0 | exact tb2_165 P0
def tf2_49 (P0 : Int32) : Int32 := (if P0 = (247 : Int32) then tf2_161 P0 else tf2_56 P0)
set_option maxRecDepth 65536 in
set_option maxHeartbeats 40000000 in
theorem tl2_49 {p : Program} {l : Launch} {e : Env} {s : State} {m : MethodId} {args : Array Value} {below : List Frame} {meth : Method} {c : Code} {T0 : State} {locs : List Loc} {Z : State} {a0 : Array Value} {h0 : Heap} {n0 : Nat} (P0 : Int32)
    (X0 : Stand p l e ({ frames := 1, cells := 0, slots := 0, locals := 14 } : Room) s m args below meth c T0 locs 0 0) (hx : p.tables.exec = Jvm.exec) (hZ : Z.Warmed39 s.vm) (hw : ∀ d ∈ tables_1, d.before a0 Z = true) (hby : c.code = method_3_code) (hml : c.maxLocals = 2) (hown : s.vm.findClass "com/example/postil/postil/rdf/NameCharactersIsStartPinLaw" = some m.cls) (e0 : T0.heap = h0) (N0 : Fr n0 locs) (Z0 : n0 ≤ h0.size) :
    ∃ (T' : State) (pc' : Nat) (L' : Array Slot) (locs' : List Loc), Stand p l e ({ frames := 1, cells := 0, slots := 0, locals := 14 } : Room) s m args below meth c T' locs' 0 0 ∧ Fr n0 locs' ∧ T'.heap = h0 ∧ decode c.code pc' = .ok (.ireturn, 1) ∧ ∀ t, Steps p.tables e below (T'.setTop (mkF m pc' L' [.int (tf2_49 P0)])) t → Steps p.tables e below (T0.setTop (mkF m 49 #[.val (.int P0), .unset] [])) t := by
  have pre0 : ∀ t, Steps p.tables e below (T0.setTop (mkF m 49 #[.val (.int P0), .unset] [])) t → Steps p.tables e below (T0.setTop (mkF m 49 #[.val (.int P0), .unset] [])) t := fun t k => k
  have pre12001 : ∀ t, Steps p.tables e below (T0.setTop (mkF m 53 #[.val (.int P0), .unset] [(.int (247 : Int32)), (.int P0)])) t → Steps p.tables e below (T0.setTop (mkF m 49 #[.val (.int P0), .unset] [])) t := fun t kt => pre0 t (by
      show Steps p.tables e below (T0.setTop (mkF m 49 #[.val (.int P0), .unset] [])) _
      refine XS.iloadN X0.here hx rfl (hb hby d2_49) rfl ?_
      show Steps p.tables e below (T0.setTop (mkF m 50 #[.val (.int P0), .unset] [(.int P0)])) _
      refine XS.sipush X0.here hx rfl (hb hby d2_50) ?_
      exact kt)
  by_cases hc53 : P0 = (247 : Int32)
  · have pre12002 : ∀ t, Steps p.tables e below (T0.setTop (mkF m 161 #[.val (.int P0), .unset] [])) t → Steps p.tables e below (T0.setTop (mkF m 49 #[.val (.int P0), .unset] [])) t := fun t kt => pre12001 t (by
        show Steps p.tables e below (T0.setTop (mkF m 53 #[.val (.int P0), .unset] [(.int (247 : Int32)), (.int P0)])) _
        refine XS.icmpYes X0.here hx rfl (pc0 := 53) (pc' := 161) rfl (hb hby d2_53) rfl (teq hc53).1 (by decide) (by decide) ?_
        exact kt)
    obtain ⟨T12003, pc12003, L12003, lc12003, X12003, N12003, e12003, dc12003, st12003⟩ := tl2_161 P0 (a0 := a0) (Z := Z) X0 hx hZ hw hby hml hown e0 N0 Z0
    have hv : tf2_49 P0 = tf2_161 P0 := by unfold tf2_49; rw [if_pos hc53]
    rw [hv]
    exact ⟨T12003, pc12003, L12003, lc12003, X12003, N12003, e12003, dc12003, fun t kt => pre12002 t (st12003 t kt)⟩
  · have pre12004 : ∀ t, Steps p.tables e below (T0.setTop (mkF m 56 #[.val (.int P0), .unset] [])) t → Steps p.tables e below (T0.setTop (mkF m 49 #[.val (.int P0), .unset] [])) t := fun t kt => pre12001 t (by
        show Steps p.tables e below (T0.setTop (mkF m 53 #[.val (.int P0), .unset] [(.int (247 : Int32)), (.int P0)])) _
        refine XS.icmpNo X0.here hx rfl (hb hby d2_53) rfl (feq hc53).1 ?_
        exact kt)
    obtain ⟨T12005, pc12005, L12005, lc12005, X12005, N12005, e12005, dc12005, st12005⟩ := tl2_56 P0 (a0 := a0) (Z := Z) X0 hx hZ hw hby hml hown e0 N0 Z0
    have hv : tf2_49 P0 = tf2_56 P0 := by unfold tf2_49; rw [if_neg hc53]
    rw [hv]
    exact ⟨T12005, pc12005, L12005, lc12005, X12005, N12005, e12005, dc12005, fun t kt => pre12004 t (st12005 t kt)⟩
theorem tb2_49 (P0 : Int32) : tf2_49 P0 = 0 ∨ tf2_49 P0 = 1 := by
  unfold tf2_49
  (repeat' split) <;> first | exact Or.inl rfl | exact Or.inr rfl | exact tb2_56 P0 | exact tb2_69 P0 | exact tb2_76 P0 | exact tb2_89 P0 | exact tb2_102 P0 | exact tb2_115 P0 | exact tb2_128 P0 | exact tb2_139 P0 | exact tb2_150 P0 | exact tb2_161 P0 | exact tb2_165 P0
def tf2_42 (P0 : Int32) : Int32 := (if P0 = (215 : Int32) then tf2_161 P0 else tf2_49 P0)
set_option maxRecDepth 65536 in
set_option maxHeartbeats 40000000 in
theorem tl2_42 {p : Program} {l : Launch} {e : Env} {s : State} {m : MethodId} {args : Array Value} {below : List Frame} {meth : Method} {c : Code} {T0 : State} {locs : List Loc} {Z : State} {a0 : Array Value} {h0 : Heap} {n0 : Nat} (P0 : Int32)
    (X0 : Stand p l e ({ frames := 1, cells := 0, slots := 0, locals := 14 } : Room) s m args below meth c T0 locs 0 0) (hx : p.tables.exec = Jvm.exec) (hZ : Z.Warmed39 s.vm) (hw : ∀ d ∈ tables_1, d.before a0 Z = true) (hby : c.code = method_3_code) (hml : c.maxLocals = 2) (hown : s.vm.findClass "com/example/postil/postil/rdf/NameCharactersIsStartPinLaw" = some m.cls) (e0 : T0.heap = h0) (N0 : Fr n0 locs) (Z0 : n0 ≤ h0.size) :
    ∃ (T' : State) (pc' : Nat) (L' : Array Slot) (locs' : List Loc), Stand p l e ({ frames := 1, cells := 0, slots := 0, locals := 14 } : Room) s m args below meth c T' locs' 0 0 ∧ Fr n0 locs' ∧ T'.heap = h0 ∧ decode c.code pc' = .ok (.ireturn, 1) ∧ ∀ t, Steps p.tables e below (T'.setTop (mkF m pc' L' [.int (tf2_42 P0)])) t → Steps p.tables e below (T0.setTop (mkF m 42 #[.val (.int P0), .unset] [])) t := by
  have pre0 : ∀ t, Steps p.tables e below (T0.setTop (mkF m 42 #[.val (.int P0), .unset] [])) t → Steps p.tables e below (T0.setTop (mkF m 42 #[.val (.int P0), .unset] [])) t := fun t k => k
  have pre13001 : ∀ t, Steps p.tables e below (T0.setTop (mkF m 46 #[.val (.int P0), .unset] [(.int (215 : Int32)), (.int P0)])) t → Steps p.tables e below (T0.setTop (mkF m 42 #[.val (.int P0), .unset] [])) t := fun t kt => pre0 t (by
      show Steps p.tables e below (T0.setTop (mkF m 42 #[.val (.int P0), .unset] [])) _
      refine XS.iloadN X0.here hx rfl (hb hby d2_42) rfl ?_
      show Steps p.tables e below (T0.setTop (mkF m 43 #[.val (.int P0), .unset] [(.int P0)])) _
      refine XS.sipush X0.here hx rfl (hb hby d2_43) ?_
      exact kt)
  by_cases hc46 : P0 = (215 : Int32)
  · have pre13002 : ∀ t, Steps p.tables e below (T0.setTop (mkF m 161 #[.val (.int P0), .unset] [])) t → Steps p.tables e below (T0.setTop (mkF m 42 #[.val (.int P0), .unset] [])) t := fun t kt => pre13001 t (by
        show Steps p.tables e below (T0.setTop (mkF m 46 #[.val (.int P0), .unset] [(.int (215 : Int32)), (.int P0)])) _
        refine XS.icmpYes X0.here hx rfl (pc0 := 46) (pc' := 161) rfl (hb hby d2_46) rfl (teq hc46).1 (by decide) (by decide) ?_
        exact kt)
    obtain ⟨T13003, pc13003, L13003, lc13003, X13003, N13003, e13003, dc13003, st13003⟩ := tl2_161 P0 (a0 := a0) (Z := Z) X0 hx hZ hw hby hml hown e0 N0 Z0
    have hv : tf2_42 P0 = tf2_161 P0 := by unfold tf2_42; rw [if_pos hc46]
    rw [hv]
    exact ⟨T13003, pc13003, L13003, lc13003, X13003, N13003, e13003, dc13003, fun t kt => pre13002 t (st13003 t kt)⟩
  · have pre13004 : ∀ t, Steps p.tables e below (T0.setTop (mkF m 49 #[.val (.int P0), .unset] [])) t → Steps p.tables e below (T0.setTop (mkF m 42 #[.val (.int P0), .unset] [])) t := fun t kt => pre13001 t (by
        show Steps p.tables e below (T0.setTop (mkF m 46 #[.val (.int P0), .unset] [(.int (215 : Int32)), (.int P0)])) _
        refine XS.icmpNo X0.here hx rfl (hb hby d2_46) rfl (feq hc46).1 ?_
        exact kt)
    obtain ⟨T13005, pc13005, L13005, lc13005, X13005, N13005, e13005, dc13005, st13005⟩ := tl2_49 P0 (a0 := a0) (Z := Z) X0 hx hZ hw hby hml hown e0 N0 Z0
    have hv : tf2_42 P0 = tf2_49 P0 := by unfold tf2_42; rw [if_neg hc46]
    rw [hv]
    exact ⟨T13005, pc13005, L13005, lc13005, X13005, N13005, e13005, dc13005, fun t kt => pre13004 t (st13005 t kt)⟩
theorem tb2_42 (P0 : Int32) : tf2_42 P0 = 0 ∨ tf2_42 P0 = 1 := by
  unfold tf2_42
  (repeat' split) <;> first | exact Or.inl rfl | exact Or.inr rfl | exact tb2_49 P0 | exact tb2_56 P0 | exact tb2_69 P0 | exact tb2_76 P0 | exact tb2_89 P0 | exact tb2_102 P0 | exact tb2_115 P0 | exact tb2_128 P0 | exact tb2_139 P0 | exact tb2_150 P0 | exact tb2_161 P0 | exact tb2_165 P0
def tf2_30 (P0 : Int32) : Int32 := (if (¬ (P0 < (123 : Int32)) ∧ ¬ ((191 : Int32) < P0)) then tf2_161 P0 else tf2_42 P0)
set_option maxRecDepth 65536 in
set_option maxHeartbeats 40000000 in
theorem tl2_30 {p : Program} {l : Launch} {e : Env} {s : State} {m : MethodId} {args : Array Value} {below : List Frame} {meth : Method} {c : Code} {T0 : State} {locs : List Loc} {Z : State} {a0 : Array Value} {h0 : Heap} {n0 : Nat} (P0 : Int32)
    (X0 : Stand p l e ({ frames := 1, cells := 0, slots := 0, locals := 14 } : Room) s m args below meth c T0 locs 0 0) (hx : p.tables.exec = Jvm.exec) (hZ : Z.Warmed39 s.vm) (hw : ∀ d ∈ tables_1, d.before a0 Z = true) (hby : c.code = method_3_code) (hml : c.maxLocals = 2) (hown : s.vm.findClass "com/example/postil/postil/rdf/NameCharactersIsStartPinLaw" = some m.cls) (e0 : T0.heap = h0) (N0 : Fr n0 locs) (Z0 : n0 ≤ h0.size) :
    ∃ (T' : State) (pc' : Nat) (L' : Array Slot) (locs' : List Loc), Stand p l e ({ frames := 1, cells := 0, slots := 0, locals := 14 } : Room) s m args below meth c T' locs' 0 0 ∧ Fr n0 locs' ∧ T'.heap = h0 ∧ decode c.code pc' = .ok (.ireturn, 1) ∧ ∀ t, Steps p.tables e below (T'.setTop (mkF m pc' L' [.int (tf2_30 P0)])) t → Steps p.tables e below (T0.setTop (mkF m 30 #[.val (.int P0), .unset] [])) t := by
  have pre0 : ∀ t, Steps p.tables e below (T0.setTop (mkF m 30 #[.val (.int P0), .unset] [])) t → Steps p.tables e below (T0.setTop (mkF m 30 #[.val (.int P0), .unset] [])) t := fun t k => k
  obtain ⟨_, _, ⟨T14001, L14001, k14001, n14001⟩, -, X14001, ⟨Lc14001, hQ14001, l14001, y14001, z14001⟩, st14001⟩ := Jvm.LawKit.callS X0 hx (y := (⟨"com/example/postil/postil/rdf/NameCharactersIsStartPinLaw", "in", "(III)Z"⟩ : MethodName)) hown (mvT hZ (hw _ (List.mem_of_getElem? (i := 13) rfl))) (mvT hZ (hw _ (List.mem_of_getElem? (i := 14) rfl))) (mvT hZ (hw _ (List.mem_of_getElem? (i := 10) rfl))) (mvT hZ (hw _ (List.mem_of_getElem? (i := 15) rfl))) (by decide) (backOf (W := 0) (rm3 l Z a0 hw [] P0 (123 : Int32) (191 : Int32) h0 n0 Z0 ) hZ (hw _ (List.mem_of_getElem? (i := 15) rfl)) (hw _ (List.mem_of_getElem? (i := 10) rfl)) (by decide) (by decide)) (g := (mkF m 36 #[.val (.int P0), .unset] [(.int (191 : Int32)), (.int (123 : Int32)), (.int P0)])) rfl (by rw [hml]; rfl) (argsL := [(.int P0), (.int (123 : Int32)), (.int (191 : Int32))]) (rest := []) (lenOf pd_2_0 rfl) rfl (by show 2 * 0 + _ ≤ _; exact Nat.le_of_eq rfl) (hb hby d2_36) (fun _ _ => ⟨rfl, e0, (by decide : 0 + 0 ≤ _), (by decide : 0 + 0 ≤ _)⟩)
  dsimp only [Pt.U, Pt.locs, Pt.cells, Pt.slots] at X14001 l14001 y14001 z14001 st14001 hQ14001
  subst l14001 y14001 z14001
  obtain ⟨rfl, N14001q, K14001⟩ := hQ14001
  have N14001 := Fr.app N0 N14001q
  have pre14002 : ∀ t, Steps p.tables e below (T14001.setTop (mkF m 39 #[.val (.int P0), .unset] [(.int (if (¬ (P0 < (123 : Int32)) ∧ ¬ ((191 : Int32) < P0)) then (1 : Int32) else (0 : Int32)))])) t → Steps p.tables e below (T0.setTop (mkF m 30 #[.val (.int P0), .unset] [])) t := fun t kt => pre0 t (by
      show Steps p.tables e below (T0.setTop (mkF m 30 #[.val (.int P0), .unset] [])) _
      refine XS.iloadN X0.here hx rfl (hb hby d2_30) rfl ?_
      show Steps p.tables e below (T0.setTop (mkF m 31 #[.val (.int P0), .unset] [(.int P0)])) _
      refine XS.bipush X0.here hx rfl (hb hby d2_31) ?_
      show Steps p.tables e below (T0.setTop (mkF m 33 #[.val (.int P0), .unset] [(.int (123 : Int32)), (.int P0)])) _
      refine XS.sipush X0.here hx rfl (hb hby d2_33) ?_
      show Steps p.tables e below (T0.setTop (mkF m 36 #[.val (.int P0), .unset] [(.int (191 : Int32)), (.int (123 : Int32)), (.int P0)])) _
      refine st14001 _ ?_
      exact kt)
  by_cases hc39 : (¬ (P0 < (123 : Int32)) ∧ ¬ ((191 : Int32) < P0))
  · have pre14003 : ∀ t, Steps p.tables e below (T14001.setTop (mkF m 161 #[.val (.int P0), .unset] [])) t → Steps p.tables e below (T0.setTop (mkF m 30 #[.val (.int P0), .unset] [])) t := fun t kt => pre14002 t (by
        show Steps p.tables e below (T14001.setTop (mkF m 39 #[.val (.int P0), .unset] [(.int (if (¬ (P0 < (123 : Int32)) ∧ ¬ ((191 : Int32) < P0)) then (1 : Int32) else (0 : Int32)))])) _
        refine XS.ifYes X14001.here hx rfl (pc0 := 39) (pc' := 161) rfl (hb hby d2_39) rfl ((if0 _ _).trans (feq (show ¬ ((if (¬ (P0 < (123 : Int32)) ∧ ¬ ((191 : Int32) < P0)) then (1 : Int32) else (0 : Int32)) = (0 : Int32)) from by rw [if_pos hc39]; decide)).2) (by decide) (by decide) ?_
        exact kt)
    obtain ⟨T14004, pc14004, L14004, lc14004, X14004, N14004, e14004, dc14004, st14004⟩ := tl2_161 P0 (a0 := a0) (Z := Z) X14001 hx hZ hw hby hml hown K14001 N14001 Z0
    have hv : tf2_30 P0 = tf2_161 P0 := by unfold tf2_30; rw [if_pos hc39]
    rw [hv]
    exact ⟨T14004, pc14004, L14004, lc14004, X14004, N14004, e14004, dc14004, fun t kt => pre14003 t (st14004 t kt)⟩
  · have pre14005 : ∀ t, Steps p.tables e below (T14001.setTop (mkF m 42 #[.val (.int P0), .unset] [])) t → Steps p.tables e below (T0.setTop (mkF m 30 #[.val (.int P0), .unset] [])) t := fun t kt => pre14002 t (by
        show Steps p.tables e below (T14001.setTop (mkF m 39 #[.val (.int P0), .unset] [(.int (if (¬ (P0 < (123 : Int32)) ∧ ¬ ((191 : Int32) < P0)) then (1 : Int32) else (0 : Int32)))])) _
        refine XS.ifNo X14001.here hx rfl (hb hby d2_39) rfl ((if0 _ _).trans (teq (show (if (¬ (P0 < (123 : Int32)) ∧ ¬ ((191 : Int32) < P0)) then (1 : Int32) else (0 : Int32)) = (0 : Int32) from if_neg hc39)).2) ?_
        exact kt)
    obtain ⟨T14006, pc14006, L14006, lc14006, X14006, N14006, e14006, dc14006, st14006⟩ := tl2_42 P0 (a0 := a0) (Z := Z) X14001 hx hZ hw hby hml hown K14001 N14001 Z0
    have hv : tf2_30 P0 = tf2_42 P0 := by unfold tf2_30; rw [if_neg hc39]
    rw [hv]
    exact ⟨T14006, pc14006, L14006, lc14006, X14006, N14006, e14006, dc14006, fun t kt => pre14005 t (st14006 t kt)⟩
theorem tb2_30 (P0 : Int32) : tf2_30 P0 = 0 ∨ tf2_30 P0 = 1 := by
  unfold tf2_30
  (repeat' split) <;> first | exact Or.inl rfl | exact Or.inr rfl | exact tb2_42 P0 | exact tb2_49 P0 | exact tb2_56 P0 | exact tb2_69 P0 | exact tb2_76 P0 | exact tb2_89 P0 | exact tb2_102 P0 | exact tb2_115 P0 | exact tb2_128 P0 | exact tb2_139 P0 | exact tb2_150 P0 | exact tb2_161 P0 | exact tb2_165 P0
def tf2_24 (P0 : Int32) : Int32 := (if P0 = (96 : Int32) then tf2_161 P0 else tf2_30 P0)
set_option maxRecDepth 65536 in
set_option maxHeartbeats 40000000 in
theorem tl2_24 {p : Program} {l : Launch} {e : Env} {s : State} {m : MethodId} {args : Array Value} {below : List Frame} {meth : Method} {c : Code} {T0 : State} {locs : List Loc} {Z : State} {a0 : Array Value} {h0 : Heap} {n0 : Nat} (P0 : Int32)
    (X0 : Stand p l e ({ frames := 1, cells := 0, slots := 0, locals := 14 } : Room) s m args below meth c T0 locs 0 0) (hx : p.tables.exec = Jvm.exec) (hZ : Z.Warmed39 s.vm) (hw : ∀ d ∈ tables_1, d.before a0 Z = true) (hby : c.code = method_3_code) (hml : c.maxLocals = 2) (hown : s.vm.findClass "com/example/postil/postil/rdf/NameCharactersIsStartPinLaw" = some m.cls) (e0 : T0.heap = h0) (N0 : Fr n0 locs) (Z0 : n0 ≤ h0.size) :
    ∃ (T' : State) (pc' : Nat) (L' : Array Slot) (locs' : List Loc), Stand p l e ({ frames := 1, cells := 0, slots := 0, locals := 14 } : Room) s m args below meth c T' locs' 0 0 ∧ Fr n0 locs' ∧ T'.heap = h0 ∧ decode c.code pc' = .ok (.ireturn, 1) ∧ ∀ t, Steps p.tables e below (T'.setTop (mkF m pc' L' [.int (tf2_24 P0)])) t → Steps p.tables e below (T0.setTop (mkF m 24 #[.val (.int P0), .unset] [])) t := by
  have pre0 : ∀ t, Steps p.tables e below (T0.setTop (mkF m 24 #[.val (.int P0), .unset] [])) t → Steps p.tables e below (T0.setTop (mkF m 24 #[.val (.int P0), .unset] [])) t := fun t k => k
  have pre15001 : ∀ t, Steps p.tables e below (T0.setTop (mkF m 27 #[.val (.int P0), .unset] [(.int (96 : Int32)), (.int P0)])) t → Steps p.tables e below (T0.setTop (mkF m 24 #[.val (.int P0), .unset] [])) t := fun t kt => pre0 t (by
      show Steps p.tables e below (T0.setTop (mkF m 24 #[.val (.int P0), .unset] [])) _
      refine XS.iloadN X0.here hx rfl (hb hby d2_24) rfl ?_
      show Steps p.tables e below (T0.setTop (mkF m 25 #[.val (.int P0), .unset] [(.int P0)])) _
      refine XS.bipush X0.here hx rfl (hb hby d2_25) ?_
      exact kt)
  by_cases hc27 : P0 = (96 : Int32)
  · have pre15002 : ∀ t, Steps p.tables e below (T0.setTop (mkF m 161 #[.val (.int P0), .unset] [])) t → Steps p.tables e below (T0.setTop (mkF m 24 #[.val (.int P0), .unset] [])) t := fun t kt => pre15001 t (by
        show Steps p.tables e below (T0.setTop (mkF m 27 #[.val (.int P0), .unset] [(.int (96 : Int32)), (.int P0)])) _
        refine XS.icmpYes X0.here hx rfl (pc0 := 27) (pc' := 161) rfl (hb hby d2_27) rfl (teq hc27).1 (by decide) (by decide) ?_
        exact kt)
    obtain ⟨T15003, pc15003, L15003, lc15003, X15003, N15003, e15003, dc15003, st15003⟩ := tl2_161 P0 (a0 := a0) (Z := Z) X0 hx hZ hw hby hml hown e0 N0 Z0
    have hv : tf2_24 P0 = tf2_161 P0 := by unfold tf2_24; rw [if_pos hc27]
    rw [hv]
    exact ⟨T15003, pc15003, L15003, lc15003, X15003, N15003, e15003, dc15003, fun t kt => pre15002 t (st15003 t kt)⟩
  · have pre15004 : ∀ t, Steps p.tables e below (T0.setTop (mkF m 30 #[.val (.int P0), .unset] [])) t → Steps p.tables e below (T0.setTop (mkF m 24 #[.val (.int P0), .unset] [])) t := fun t kt => pre15001 t (by
        show Steps p.tables e below (T0.setTop (mkF m 27 #[.val (.int P0), .unset] [(.int (96 : Int32)), (.int P0)])) _
        refine XS.icmpNo X0.here hx rfl (hb hby d2_27) rfl (feq hc27).1 ?_
        exact kt)
    obtain ⟨T15005, pc15005, L15005, lc15005, X15005, N15005, e15005, dc15005, st15005⟩ := tl2_30 P0 (a0 := a0) (Z := Z) X0 hx hZ hw hby hml hown e0 N0 Z0
    have hv : tf2_24 P0 = tf2_30 P0 := by unfold tf2_24; rw [if_neg hc27]
    rw [hv]
    exact ⟨T15005, pc15005, L15005, lc15005, X15005, N15005, e15005, dc15005, fun t kt => pre15004 t (st15005 t kt)⟩
theorem tb2_24 (P0 : Int32) : tf2_24 P0 = 0 ∨ tf2_24 P0 = 1 := by
  unfold tf2_24
  (repeat' split) <;> first | exact Or.inl rfl | exact Or.inr rfl | exact tb2_30 P0 | exact tb2_42 P0 | exact tb2_49 P0 | exact tb2_56 P0 | exact tb2_69 P0 | exact tb2_76 P0 | exact tb2_89 P0 | exact tb2_102 P0 | exact tb2_115 P0 | exact tb2_128 P0 | exact tb2_139 P0 | exact tb2_150 P0 | exact tb2_161 P0 | exact tb2_165 P0
def tf2_13 (P0 : Int32) : Int32 := (if (¬ (P0 < (91 : Int32)) ∧ ¬ ((94 : Int32) < P0)) then tf2_161 P0 else tf2_24 P0)
set_option maxRecDepth 65536 in
set_option maxHeartbeats 40000000 in
theorem tl2_13 {p : Program} {l : Launch} {e : Env} {s : State} {m : MethodId} {args : Array Value} {below : List Frame} {meth : Method} {c : Code} {T0 : State} {locs : List Loc} {Z : State} {a0 : Array Value} {h0 : Heap} {n0 : Nat} (P0 : Int32)
    (X0 : Stand p l e ({ frames := 1, cells := 0, slots := 0, locals := 14 } : Room) s m args below meth c T0 locs 0 0) (hx : p.tables.exec = Jvm.exec) (hZ : Z.Warmed39 s.vm) (hw : ∀ d ∈ tables_1, d.before a0 Z = true) (hby : c.code = method_3_code) (hml : c.maxLocals = 2) (hown : s.vm.findClass "com/example/postil/postil/rdf/NameCharactersIsStartPinLaw" = some m.cls) (e0 : T0.heap = h0) (N0 : Fr n0 locs) (Z0 : n0 ≤ h0.size) :
    ∃ (T' : State) (pc' : Nat) (L' : Array Slot) (locs' : List Loc), Stand p l e ({ frames := 1, cells := 0, slots := 0, locals := 14 } : Room) s m args below meth c T' locs' 0 0 ∧ Fr n0 locs' ∧ T'.heap = h0 ∧ decode c.code pc' = .ok (.ireturn, 1) ∧ ∀ t, Steps p.tables e below (T'.setTop (mkF m pc' L' [.int (tf2_13 P0)])) t → Steps p.tables e below (T0.setTop (mkF m 13 #[.val (.int P0), .unset] [])) t := by
  have pre0 : ∀ t, Steps p.tables e below (T0.setTop (mkF m 13 #[.val (.int P0), .unset] [])) t → Steps p.tables e below (T0.setTop (mkF m 13 #[.val (.int P0), .unset] [])) t := fun t k => k
  obtain ⟨_, _, ⟨T16001, L16001, k16001, n16001⟩, -, X16001, ⟨Lc16001, hQ16001, l16001, y16001, z16001⟩, st16001⟩ := Jvm.LawKit.callS X0 hx (y := (⟨"com/example/postil/postil/rdf/NameCharactersIsStartPinLaw", "in", "(III)Z"⟩ : MethodName)) hown (mvT hZ (hw _ (List.mem_of_getElem? (i := 13) rfl))) (mvT hZ (hw _ (List.mem_of_getElem? (i := 14) rfl))) (mvT hZ (hw _ (List.mem_of_getElem? (i := 10) rfl))) (mvT hZ (hw _ (List.mem_of_getElem? (i := 15) rfl))) (by decide) (backOf (W := 0) (rm3 l Z a0 hw [] P0 (91 : Int32) (94 : Int32) h0 n0 Z0 ) hZ (hw _ (List.mem_of_getElem? (i := 15) rfl)) (hw _ (List.mem_of_getElem? (i := 10) rfl)) (by decide) (by decide)) (g := (mkF m 18 #[.val (.int P0), .unset] [(.int (94 : Int32)), (.int (91 : Int32)), (.int P0)])) rfl (by rw [hml]; rfl) (argsL := [(.int P0), (.int (91 : Int32)), (.int (94 : Int32))]) (rest := []) (lenOf pd_2_0 rfl) rfl (by show 2 * 0 + _ ≤ _; exact Nat.le_of_eq rfl) (hb hby d2_18) (fun _ _ => ⟨rfl, e0, (by decide : 0 + 0 ≤ _), (by decide : 0 + 0 ≤ _)⟩)
  dsimp only [Pt.U, Pt.locs, Pt.cells, Pt.slots] at X16001 l16001 y16001 z16001 st16001 hQ16001
  subst l16001 y16001 z16001
  obtain ⟨rfl, N16001q, K16001⟩ := hQ16001
  have N16001 := Fr.app N0 N16001q
  have pre16002 : ∀ t, Steps p.tables e below (T16001.setTop (mkF m 21 #[.val (.int P0), .unset] [(.int (if (¬ (P0 < (91 : Int32)) ∧ ¬ ((94 : Int32) < P0)) then (1 : Int32) else (0 : Int32)))])) t → Steps p.tables e below (T0.setTop (mkF m 13 #[.val (.int P0), .unset] [])) t := fun t kt => pre0 t (by
      show Steps p.tables e below (T0.setTop (mkF m 13 #[.val (.int P0), .unset] [])) _
      refine XS.iloadN X0.here hx rfl (hb hby d2_13) rfl ?_
      show Steps p.tables e below (T0.setTop (mkF m 14 #[.val (.int P0), .unset] [(.int P0)])) _
      refine XS.bipush X0.here hx rfl (hb hby d2_14) ?_
      show Steps p.tables e below (T0.setTop (mkF m 16 #[.val (.int P0), .unset] [(.int (91 : Int32)), (.int P0)])) _
      refine XS.bipush X0.here hx rfl (hb hby d2_16) ?_
      show Steps p.tables e below (T0.setTop (mkF m 18 #[.val (.int P0), .unset] [(.int (94 : Int32)), (.int (91 : Int32)), (.int P0)])) _
      refine st16001 _ ?_
      exact kt)
  by_cases hc21 : (¬ (P0 < (91 : Int32)) ∧ ¬ ((94 : Int32) < P0))
  · have pre16003 : ∀ t, Steps p.tables e below (T16001.setTop (mkF m 161 #[.val (.int P0), .unset] [])) t → Steps p.tables e below (T0.setTop (mkF m 13 #[.val (.int P0), .unset] [])) t := fun t kt => pre16002 t (by
        show Steps p.tables e below (T16001.setTop (mkF m 21 #[.val (.int P0), .unset] [(.int (if (¬ (P0 < (91 : Int32)) ∧ ¬ ((94 : Int32) < P0)) then (1 : Int32) else (0 : Int32)))])) _
        refine XS.ifYes X16001.here hx rfl (pc0 := 21) (pc' := 161) rfl (hb hby d2_21) rfl ((if0 _ _).trans (feq (show ¬ ((if (¬ (P0 < (91 : Int32)) ∧ ¬ ((94 : Int32) < P0)) then (1 : Int32) else (0 : Int32)) = (0 : Int32)) from by rw [if_pos hc21]; decide)).2) (by decide) (by decide) ?_
        exact kt)
    obtain ⟨T16004, pc16004, L16004, lc16004, X16004, N16004, e16004, dc16004, st16004⟩ := tl2_161 P0 (a0 := a0) (Z := Z) X16001 hx hZ hw hby hml hown K16001 N16001 Z0
    have hv : tf2_13 P0 = tf2_161 P0 := by unfold tf2_13; rw [if_pos hc21]
    rw [hv]
    exact ⟨T16004, pc16004, L16004, lc16004, X16004, N16004, e16004, dc16004, fun t kt => pre16003 t (st16004 t kt)⟩
  · have pre16005 : ∀ t, Steps p.tables e below (T16001.setTop (mkF m 24 #[.val (.int P0), .unset] [])) t → Steps p.tables e below (T0.setTop (mkF m 13 #[.val (.int P0), .unset] [])) t := fun t kt => pre16002 t (by
        show Steps p.tables e below (T16001.setTop (mkF m 21 #[.val (.int P0), .unset] [(.int (if (¬ (P0 < (91 : Int32)) ∧ ¬ ((94 : Int32) < P0)) then (1 : Int32) else (0 : Int32)))])) _
        refine XS.ifNo X16001.here hx rfl (hb hby d2_21) rfl ((if0 _ _).trans (teq (show (if (¬ (P0 < (91 : Int32)) ∧ ¬ ((94 : Int32) < P0)) then (1 : Int32) else (0 : Int32)) = (0 : Int32) from if_neg hc21)).2) ?_
        exact kt)
    obtain ⟨T16006, pc16006, L16006, lc16006, X16006, N16006, e16006, dc16006, st16006⟩ := tl2_24 P0 (a0 := a0) (Z := Z) X16001 hx hZ hw hby hml hown K16001 N16001 Z0
    have hv : tf2_13 P0 = tf2_24 P0 := by unfold tf2_13; rw [if_neg hc21]
    rw [hv]
    exact ⟨T16006, pc16006, L16006, lc16006, X16006, N16006, e16006, dc16006, fun t kt => pre16005 t (st16006 t kt)⟩
theorem tb2_13 (P0 : Int32) : tf2_13 P0 = 0 ∨ tf2_13 P0 = 1 := by
  unfold tf2_13
  (repeat' split) <;> first | exact Or.inl rfl | exact Or.inr rfl | exact tb2_24 P0 | exact tb2_30 P0 | exact tb2_42 P0 | exact tb2_49 P0 | exact tb2_56 P0 | exact tb2_69 P0 | exact tb2_76 P0 | exact tb2_89 P0 | exact tb2_102 P0 | exact tb2_115 P0 | exact tb2_128 P0 | exact tb2_139 P0 | exact tb2_150 P0 | exact tb2_161 P0 | exact tb2_165 P0
def tf2_0 (P0 : Int32) : Int32 := (if (¬ (P0 < (65 : Int32)) ∧ ¬ ((983039 : Int32) < P0)) then tf2_13 P0 else (0 : Int32))
set_option maxRecDepth 65536 in
set_option maxHeartbeats 40000000 in
theorem tl2_0 {p : Program} {l : Launch} {e : Env} {s : State} {m : MethodId} {args : Array Value} {below : List Frame} {meth : Method} {c : Code} {T0 : State} {locs : List Loc} {Z : State} {a0 : Array Value} {h0 : Heap} {n0 : Nat} (P0 : Int32)
    (X0 : Stand p l e ({ frames := 1, cells := 0, slots := 0, locals := 14 } : Room) s m args below meth c T0 locs 0 0) (hx : p.tables.exec = Jvm.exec) (hZ : Z.Warmed39 s.vm) (hw : ∀ d ∈ tables_1, d.before a0 Z = true) (hby : c.code = method_3_code) (hml : c.maxLocals = 2) (hown : s.vm.findClass "com/example/postil/postil/rdf/NameCharactersIsStartPinLaw" = some m.cls) (e0 : T0.heap = h0) (N0 : Fr n0 locs) (Z0 : n0 ≤ h0.size) :
    ∃ (T' : State) (pc' : Nat) (L' : Array Slot) (locs' : List Loc), Stand p l e ({ frames := 1, cells := 0, slots := 0, locals := 14 } : Room) s m args below meth c T' locs' 0 0 ∧ Fr n0 locs' ∧ T'.heap = h0 ∧ decode c.code pc' = .ok (.ireturn, 1) ∧ ∀ t, Steps p.tables e below (T'.setTop (mkF m pc' L' [.int (tf2_0 P0)])) t → Steps p.tables e below (T0.setTop (mkF m 0 #[.val (.int P0), .unset] [])) t := by
  have pre0 : ∀ t, Steps p.tables e below (T0.setTop (mkF m 0 #[.val (.int P0), .unset] [])) t → Steps p.tables e below (T0.setTop (mkF m 0 #[.val (.int P0), .unset] [])) t := fun t k => k
  obtain ⟨_, _, ⟨T17001, L17001, k17001, n17001⟩, -, X17001, ⟨Lc17001, hQ17001, l17001, y17001, z17001⟩, st17001⟩ := Jvm.LawKit.callS X0 hx (y := (⟨"com/example/postil/postil/rdf/NameCharactersIsStartPinLaw", "in", "(III)Z"⟩ : MethodName)) hown (mvT hZ (hw _ (List.mem_of_getElem? (i := 13) rfl))) (mvT hZ (hw _ (List.mem_of_getElem? (i := 14) rfl))) (mvT hZ (hw _ (List.mem_of_getElem? (i := 10) rfl))) (mvT hZ (hw _ (List.mem_of_getElem? (i := 15) rfl))) (by decide) (backOf (W := 0) (rm3 l Z a0 hw [] P0 (65 : Int32) (983039 : Int32) h0 n0 Z0 ) hZ (hw _ (List.mem_of_getElem? (i := 15) rfl)) (hw _ (List.mem_of_getElem? (i := 10) rfl)) (by decide) (by decide)) (g := (mkF m 5 #[.val (.int P0), .unset] [(.int (983039 : Int32)), (.int (65 : Int32)), (.int P0)])) rfl (by rw [hml]; rfl) (argsL := [(.int P0), (.int (65 : Int32)), (.int (983039 : Int32))]) (rest := []) (lenOf pd_2_0 rfl) rfl (by show 2 * 0 + _ ≤ _; exact Nat.le_of_eq rfl) (hb hby d2_5) (fun _ _ => ⟨rfl, e0, (by decide : 0 + 0 ≤ _), (by decide : 0 + 0 ≤ _)⟩)
  dsimp only [Pt.U, Pt.locs, Pt.cells, Pt.slots] at X17001 l17001 y17001 z17001 st17001 hQ17001
  subst l17001 y17001 z17001
  obtain ⟨rfl, N17001q, K17001⟩ := hQ17001
  have N17001 := Fr.app N0 N17001q
  have pre17002 : ∀ t, Steps p.tables e below (T17001.setTop (mkF m 8 #[.val (.int P0), .unset] [(.int (if (¬ (P0 < (65 : Int32)) ∧ ¬ ((983039 : Int32) < P0)) then (1 : Int32) else (0 : Int32)))])) t → Steps p.tables e below (T0.setTop (mkF m 0 #[.val (.int P0), .unset] [])) t := fun t kt => pre0 t (by
      show Steps p.tables e below (T0.setTop (mkF m 0 #[.val (.int P0), .unset] [])) _
      refine XS.iloadN X0.here hx rfl (hb hby d2_0) rfl ?_
      show Steps p.tables e below (T0.setTop (mkF m 1 #[.val (.int P0), .unset] [(.int P0)])) _
      refine XS.bipush X0.here hx rfl (hb hby d2_1) ?_
      show Steps p.tables e below (T0.setTop (mkF m 3 #[.val (.int P0), .unset] [(.int (65 : Int32)), (.int P0)])) _
      refine X0.ldcInt hx hown (mvT hZ (hw _ (List.mem_of_getElem? (i := 12) rfl))) (g := (mkF m 3 #[.val (.int P0), .unset] [(.int (65 : Int32)), (.int P0)])) rfl (hb hby d2_3) _ ?_
      show Steps p.tables e below (T0.setTop (mkF m 5 #[.val (.int P0), .unset] [(.int (983039 : Int32)), (.int (65 : Int32)), (.int P0)])) _
      refine st17001 _ ?_
      exact kt)
  by_cases hc8 : (¬ (P0 < (65 : Int32)) ∧ ¬ ((983039 : Int32) < P0))
  · have pre17003 : ∀ t, Steps p.tables e below (T17001.setTop (mkF m 13 #[.val (.int P0), .unset] [])) t → Steps p.tables e below (T0.setTop (mkF m 0 #[.val (.int P0), .unset] [])) t := fun t kt => pre17002 t (by
        show Steps p.tables e below (T17001.setTop (mkF m 8 #[.val (.int P0), .unset] [(.int (if (¬ (P0 < (65 : Int32)) ∧ ¬ ((983039 : Int32) < P0)) then (1 : Int32) else (0 : Int32)))])) _
        refine XS.ifYes X17001.here hx rfl (pc0 := 8) (pc' := 13) rfl (hb hby d2_8) rfl ((if0 _ _).trans (feq (show ¬ ((if (¬ (P0 < (65 : Int32)) ∧ ¬ ((983039 : Int32) < P0)) then (1 : Int32) else (0 : Int32)) = (0 : Int32)) from by rw [if_pos hc8]; decide)).2) (by decide) (by decide) ?_
        exact kt)
    obtain ⟨T17004, pc17004, L17004, lc17004, X17004, N17004, e17004, dc17004, st17004⟩ := tl2_13 P0 (a0 := a0) (Z := Z) X17001 hx hZ hw hby hml hown K17001 N17001 Z0
    have hv : tf2_0 P0 = tf2_13 P0 := by unfold tf2_0; rw [if_pos hc8]
    rw [hv]
    exact ⟨T17004, pc17004, L17004, lc17004, X17004, N17004, e17004, dc17004, fun t kt => pre17003 t (st17004 t kt)⟩
  · have pre17005 : ∀ t, Steps p.tables e below (T17001.setTop (mkF m 12 #[.val (.int P0), .unset] [(.int (0 : Int32))])) t → Steps p.tables e below (T0.setTop (mkF m 0 #[.val (.int P0), .unset] [])) t := fun t kt => pre17002 t (by
        show Steps p.tables e below (T17001.setTop (mkF m 8 #[.val (.int P0), .unset] [(.int (if (¬ (P0 < (65 : Int32)) ∧ ¬ ((983039 : Int32) < P0)) then (1 : Int32) else (0 : Int32)))])) _
        refine XS.ifNo X17001.here hx rfl (hb hby d2_8) rfl ((if0 _ _).trans (teq (show (if (¬ (P0 < (65 : Int32)) ∧ ¬ ((983039 : Int32) < P0)) then (1 : Int32) else (0 : Int32)) = (0 : Int32) from if_neg hc8)).2) ?_
        show Steps p.tables e below (T17001.setTop (mkF m 11 #[.val (.int P0), .unset] [])) _
        refine XS.iconst X17001.here hx rfl (hb hby d2_11) ?_
        exact kt)
    have hv : tf2_0 P0 = (0 : Int32) := by unfold tf2_0; rw [if_neg hc8]
    rw [hv]
    exact ⟨T17001, 12, _, _, X17001, N17001, K17001, (hb hby d2_12), pre17005⟩
theorem tb2_0 (P0 : Int32) : tf2_0 P0 = 0 ∨ tf2_0 P0 = 1 := by
  unfold tf2_0
  (repeat' split) <;> first | exact Or.inl rfl | exact Or.inr rfl | exact tb2_13 P0 | exact tb2_24 P0 | exact tb2_30 P0 | exact tb2_42 P0 | exact tb2_49 P0 | exact tb2_56 P0 | exact tb2_69 P0 | exact tb2_76 P0 | exact tb2_89 P0 | exact tb2_102 P0 | exact tb2_115 P0 | exact tb2_128 P0 | exact tb2_139 P0 | exact tb2_150 P0 | exact tb2_161 P0 | exact tb2_165 P0
def Q2 (Z : State) (P0 : Int32) (h0 : Heap) (n0 : Nat) (v : Option Value) (h : Heap) (L : List Loc) : Prop := (v = some (.int (tf2_0 P0))) ∧ (Fr n0 L) ∧ (h = h0)
set_option maxRecDepth 65536 in
set_option maxHeartbeats 40000000 in
theorem rm2 (l : Launch) (Z : State) (a0 : Array Value) (hw : ∀ d ∈ tables_1, d.before a0 Z = true) (ws : List Jvm.Cond) (P0 : Int32) (h0 : Heap) (n0 : Nat) (Z0 : n0 ≤ h0.size) :
    MetFree l (⟨"com/example/postil/postil/rdf/NameCharactersIsStartPinLaw", "expected", "(I)Z"⟩ : MethodName) (head1 (Jvm.Cond.code (⟨"com/example/postil/postil/rdf/NameCharactersIsStartPinLaw", "expected", "(I)Z"⟩ : MethodName) method_3_code 2 (some .boolean) :: ws) ({ frames := 1, cells := 0, slots := 0, locals := 14 } : Room)) (fun a U => a = #[(.int P0)] ∧ Z.Warmed39 U.vm ∧ U.heap = h0) (fun _ _ _ _ _ => True) (fun _ U o U' => ∃ v L, o = .returned v ∧ Q2 Z P0 h0 n0 v U'.heap L ∧ FrameEnd U o U' L ({ frames := 1, cells := 0, slots := 0, locals := 14 } : Room).cells ({ frames := 1, cells := 0, slots := 0, locals := 14 } : Room).slots) := by
  refine MetFree.of_bodySF (plainFor_of_name pn_2) hisR ?_
  intro p e s m args below meth c s₁ Bd hml0 hP hK
  obtain ⟨rfl, hZ, hh⟩ := hP
  have hx := Bd.exec
  have hby := Bd.bytes
  have hml : c.maxLocals = 2 := hml0
  have hown : s.vm.findClass "com/example/postil/postil/rdf/NameCharactersIsStartPinLaw" = some m.cls := findClass_of_methodNamed Bd.named
  have X0 : Stand p l e ({ frames := 1, cells := 0, slots := 0, locals := 14 } : Room) s m #[(.int P0)] below meth c s₁ [] 0 0 := Stand.of_body Bd
  have e0 : s₁.heap = h0 := by rw [← hh, Bd.state]; rfl
  obtain ⟨T1, pc1, L1, lc1, X1, N1, e1, dc1, st1⟩ := tl2_0 P0 (a0 := a0) (Z := Z) X0 hx hZ hw hby hml hown e0 (Fr.nil n0) Z0
  obtain ⟨fs, hr, hrun, hended, hW, hsame⟩ := X1.leave (v := some (.int (tf2_0 P0))) (fun h => by rw [Bd.returns] at h; cases h)
  refine ⟨_, _, castTop (ef_2 m P0) (st1 _ ?_), hrun, hended, _, _, rfl, ?_, ⟨_, rfl⟩, hW, hsame.mono (by decide) (by decide)⟩
  · refine retN X1 hx (t := .boolean) Bd.returns (by simp) dc1 ?_
    rw [show nar .boolean (tf2_0 P0) = tf2_0 P0 from by rcases tb2_0 P0 with q | q <;> rw [q] <;> rfl]
    exact hr
  · show Q2 Z P0 h0 n0 _ T1.heap _
    rw [e1]
    exact ⟨rfl, N1, rfl⟩
theorem own_rng (c lo hi : Int32) (P : Prop) [Decidable P] : (if c < lo then (if P then (1 : Int32) else (0 : Int32)) else (if hi < c then (if P then (1 : Int32) else (0 : Int32)) else (1 : Int32))) = if ((¬ (c < lo) ∧ ¬ (hi < c)) ∨ P) then (1 : Int32) else (0 : Int32) := by
  by_cases h1 : c < lo <;> by_cases h2 : hi < c <;> by_cases h3 : P <;> simp [h1, h2, h3]
theorem own_rng0 (c lo hi : Int32) : (if c < lo then (0 : Int32) else (if hi < c then (0 : Int32) else (1 : Int32))) = if (¬ (c < lo) ∧ ¬ (hi < c)) then (1 : Int32) else (0 : Int32) := by
  by_cases h1 : c < lo <;> by_cases h2 : hi < c <;> simp [h1, h2]
theorem own_one (c v : Int32) (P : Prop) [Decidable P] : (if c = v then (1 : Int32) else (if P then (1 : Int32) else (0 : Int32))) = if (c = v ∨ P) then (1 : Int32) else (0 : Int32) := by
  by_cases h1 : c = v <;> by_cases h3 : P <;> simp [h1, h3]
theorem own_gap (G P : Prop) [Decidable G] [Decidable P] : (if G then (0 : Int32) else (if P then (0 : Int32) else (1 : Int32))) = if (G ∨ P) then (0 : Int32) else (1 : Int32) := by
  by_cases h1 : G <;> by_cases h3 : P <;> simp [h1, h3]
theorem own_A179 (c : Int32) : tf1_179 c = if (¬ (c < (65536 : Int32)) ∧ ¬ ((983039 : Int32) < c)) then (1 : Int32) else (0 : Int32) := (show tf1_179 c = _ from rfl).trans (own_rng0 c 65536 983039)
theorem own_A167 (c : Int32) : tf1_167 c = if ((¬ (c < (65008 : Int32)) ∧ ¬ ((65533 : Int32) < c)) ∨ (¬ (c < (65536 : Int32)) ∧ ¬ ((983039 : Int32) < c))) then (1 : Int32) else (0 : Int32) := by
  unfold tf1_167
  rw [own_A179 c]
  exact own_rng c 65008 65533 _
theorem own_A155 (c : Int32) : tf1_155 c = if ((¬ (c < (63744 : Int32)) ∧ ¬ ((64975 : Int32) < c)) ∨ ((¬ (c < (65008 : Int32)) ∧ ¬ ((65533 : Int32) < c)) ∨ (¬ (c < (65536 : Int32)) ∧ ¬ ((983039 : Int32) < c)))) then (1 : Int32) else (0 : Int32) := by
  unfold tf1_155
  rw [own_A167 c]
  exact own_rng c 63744 64975 _
theorem own_A142 (c : Int32) : tf1_142 c = if ((¬ (c < (12289 : Int32)) ∧ ¬ ((55295 : Int32) < c)) ∨ ((¬ (c < (63744 : Int32)) ∧ ¬ ((64975 : Int32) < c)) ∨ ((¬ (c < (65008 : Int32)) ∧ ¬ ((65533 : Int32) < c)) ∨ (¬ (c < (65536 : Int32)) ∧ ¬ ((983039 : Int32) < c))))) then (1 : Int32) else (0 : Int32) := by
  unfold tf1_142
  rw [own_A155 c]
  exact own_rng c 12289 55295 _
theorem own_A128 (c : Int32) : tf1_128 c = if ((¬ (c < (11264 : Int32)) ∧ ¬ ((12271 : Int32) < c)) ∨ ((¬ (c < (12289 : Int32)) ∧ ¬ ((55295 : Int32) < c)) ∨ ((¬ (c < (63744 : Int32)) ∧ ¬ ((64975 : Int32) < c)) ∨ ((¬ (c < (65008 : Int32)) ∧ ¬ ((65533 : Int32) < c)) ∨ (¬ (c < (65536 : Int32)) ∧ ¬ ((983039 : Int32) < c)))))) then (1 : Int32) else (0 : Int32) := by
  unfold tf1_128
  rw [own_A142 c]
  exact own_rng c 11264 12271 _
theorem own_A114 (c : Int32) : tf1_114 c = if ((¬ (c < (8304 : Int32)) ∧ ¬ ((8591 : Int32) < c)) ∨ ((¬ (c < (11264 : Int32)) ∧ ¬ ((12271 : Int32) < c)) ∨ ((¬ (c < (12289 : Int32)) ∧ ¬ ((55295 : Int32) < c)) ∨ ((¬ (c < (63744 : Int32)) ∧ ¬ ((64975 : Int32) < c)) ∨ ((¬ (c < (65008 : Int32)) ∧ ¬ ((65533 : Int32) < c)) ∨ (¬ (c < (65536 : Int32)) ∧ ¬ ((983039 : Int32) < c))))))) then (1 : Int32) else (0 : Int32) := by
  unfold tf1_114
  rw [own_A128 c]
  exact own_rng c 8304 8591 _
theorem own_A100 (c : Int32) : tf1_100 c = if ((¬ (c < (8204 : Int32)) ∧ ¬ ((8205 : Int32) < c)) ∨ ((¬ (c < (8304 : Int32)) ∧ ¬ ((8591 : Int32) < c)) ∨ ((¬ (c < (11264 : Int32)) ∧ ¬ ((12271 : Int32) < c)) ∨ ((¬ (c < (12289 : Int32)) ∧ ¬ ((55295 : Int32) < c)) ∨ ((¬ (c < (63744 : Int32)) ∧ ¬ ((64975 : Int32) < c)) ∨ ((¬ (c < (65008 : Int32)) ∧ ¬ ((65533 : Int32) < c)) ∨ (¬ (c < (65536 : Int32)) ∧ ¬ ((983039 : Int32) < c)))))))) then (1 : Int32) else (0 : Int32) := by
  unfold tf1_100
  rw [own_A114 c]
  exact own_rng c 8204 8205 _
theorem own_A86 (c : Int32) : tf1_86 c = if ((¬ (c < (895 : Int32)) ∧ ¬ ((8191 : Int32) < c)) ∨ ((¬ (c < (8204 : Int32)) ∧ ¬ ((8205 : Int32) < c)) ∨ ((¬ (c < (8304 : Int32)) ∧ ¬ ((8591 : Int32) < c)) ∨ ((¬ (c < (11264 : Int32)) ∧ ¬ ((12271 : Int32) < c)) ∨ ((¬ (c < (12289 : Int32)) ∧ ¬ ((55295 : Int32) < c)) ∨ ((¬ (c < (63744 : Int32)) ∧ ¬ ((64975 : Int32) < c)) ∨ ((¬ (c < (65008 : Int32)) ∧ ¬ ((65533 : Int32) < c)) ∨ (¬ (c < (65536 : Int32)) ∧ ¬ ((983039 : Int32) < c))))))))) then (1 : Int32) else (0 : Int32) := by
  unfold tf1_86
  rw [own_A100 c]
  exact own_rng c 895 8191 _
theorem own_A72 (c : Int32) : tf1_72 c = if ((¬ (c < (880 : Int32)) ∧ ¬ ((893 : Int32) < c)) ∨ ((¬ (c < (895 : Int32)) ∧ ¬ ((8191 : Int32) < c)) ∨ ((¬ (c < (8204 : Int32)) ∧ ¬ ((8205 : Int32) < c)) ∨ ((¬ (c < (8304 : Int32)) ∧ ¬ ((8591 : Int32) < c)) ∨ ((¬ (c < (11264 : Int32)) ∧ ¬ ((12271 : Int32) < c)) ∨ ((¬ (c < (12289 : Int32)) ∧ ¬ ((55295 : Int32) < c)) ∨ ((¬ (c < (63744 : Int32)) ∧ ¬ ((64975 : Int32) < c)) ∨ ((¬ (c < (65008 : Int32)) ∧ ¬ ((65533 : Int32) < c)) ∨ (¬ (c < (65536 : Int32)) ∧ ¬ ((983039 : Int32) < c)))))))))) then (1 : Int32) else (0 : Int32) := by
  unfold tf1_72
  rw [own_A86 c]
  exact own_rng c 880 893 _
theorem own_A58 (c : Int32) : tf1_58 c = if ((¬ (c < (248 : Int32)) ∧ ¬ ((767 : Int32) < c)) ∨ ((¬ (c < (880 : Int32)) ∧ ¬ ((893 : Int32) < c)) ∨ ((¬ (c < (895 : Int32)) ∧ ¬ ((8191 : Int32) < c)) ∨ ((¬ (c < (8204 : Int32)) ∧ ¬ ((8205 : Int32) < c)) ∨ ((¬ (c < (8304 : Int32)) ∧ ¬ ((8591 : Int32) < c)) ∨ ((¬ (c < (11264 : Int32)) ∧ ¬ ((12271 : Int32) < c)) ∨ ((¬ (c < (12289 : Int32)) ∧ ¬ ((55295 : Int32) < c)) ∨ ((¬ (c < (63744 : Int32)) ∧ ¬ ((64975 : Int32) < c)) ∨ ((¬ (c < (65008 : Int32)) ∧ ¬ ((65533 : Int32) < c)) ∨ (¬ (c < (65536 : Int32)) ∧ ¬ ((983039 : Int32) < c))))))))))) then (1 : Int32) else (0 : Int32) := by
  unfold tf1_58
  rw [own_A72 c]
  exact own_rng c 248 767 _
theorem own_A44 (c : Int32) : tf1_44 c = if ((¬ (c < (216 : Int32)) ∧ ¬ ((246 : Int32) < c)) ∨ ((¬ (c < (248 : Int32)) ∧ ¬ ((767 : Int32) < c)) ∨ ((¬ (c < (880 : Int32)) ∧ ¬ ((893 : Int32) < c)) ∨ ((¬ (c < (895 : Int32)) ∧ ¬ ((8191 : Int32) < c)) ∨ ((¬ (c < (8204 : Int32)) ∧ ¬ ((8205 : Int32) < c)) ∨ ((¬ (c < (8304 : Int32)) ∧ ¬ ((8591 : Int32) < c)) ∨ ((¬ (c < (11264 : Int32)) ∧ ¬ ((12271 : Int32) < c)) ∨ ((¬ (c < (12289 : Int32)) ∧ ¬ ((55295 : Int32) < c)) ∨ ((¬ (c < (63744 : Int32)) ∧ ¬ ((64975 : Int32) < c)) ∨ ((¬ (c < (65008 : Int32)) ∧ ¬ ((65533 : Int32) < c)) ∨ (¬ (c < (65536 : Int32)) ∧ ¬ ((983039 : Int32) < c)))))))))))) then (1 : Int32) else (0 : Int32) := by
  unfold tf1_44
  rw [own_A58 c]
  exact own_rng c 216 246 _
theorem own_A30 (c : Int32) : tf1_30 c = if ((¬ (c < (192 : Int32)) ∧ ¬ ((214 : Int32) < c)) ∨ ((¬ (c < (216 : Int32)) ∧ ¬ ((246 : Int32) < c)) ∨ ((¬ (c < (248 : Int32)) ∧ ¬ ((767 : Int32) < c)) ∨ ((¬ (c < (880 : Int32)) ∧ ¬ ((893 : Int32) < c)) ∨ ((¬ (c < (895 : Int32)) ∧ ¬ ((8191 : Int32) < c)) ∨ ((¬ (c < (8204 : Int32)) ∧ ¬ ((8205 : Int32) < c)) ∨ ((¬ (c < (8304 : Int32)) ∧ ¬ ((8591 : Int32) < c)) ∨ ((¬ (c < (11264 : Int32)) ∧ ¬ ((12271 : Int32) < c)) ∨ ((¬ (c < (12289 : Int32)) ∧ ¬ ((55295 : Int32) < c)) ∨ ((¬ (c < (63744 : Int32)) ∧ ¬ ((64975 : Int32) < c)) ∨ ((¬ (c < (65008 : Int32)) ∧ ¬ ((65533 : Int32) < c)) ∨ (¬ (c < (65536 : Int32)) ∧ ¬ ((983039 : Int32) < c))))))))))))) then (1 : Int32) else (0 : Int32) := by
  unfold tf1_30
  rw [own_A44 c]
  exact own_rng c 192 214 _
theorem own_A24 (c : Int32) : tf1_24 c = if ((c = (95 : Int32)) ∨ ((¬ (c < (192 : Int32)) ∧ ¬ ((214 : Int32) < c)) ∨ ((¬ (c < (216 : Int32)) ∧ ¬ ((246 : Int32) < c)) ∨ ((¬ (c < (248 : Int32)) ∧ ¬ ((767 : Int32) < c)) ∨ ((¬ (c < (880 : Int32)) ∧ ¬ ((893 : Int32) < c)) ∨ ((¬ (c < (895 : Int32)) ∧ ¬ ((8191 : Int32) < c)) ∨ ((¬ (c < (8204 : Int32)) ∧ ¬ ((8205 : Int32) < c)) ∨ ((¬ (c < (8304 : Int32)) ∧ ¬ ((8591 : Int32) < c)) ∨ ((¬ (c < (11264 : Int32)) ∧ ¬ ((12271 : Int32) < c)) ∨ ((¬ (c < (12289 : Int32)) ∧ ¬ ((55295 : Int32) < c)) ∨ ((¬ (c < (63744 : Int32)) ∧ ¬ ((64975 : Int32) < c)) ∨ ((¬ (c < (65008 : Int32)) ∧ ¬ ((65533 : Int32) < c)) ∨ (¬ (c < (65536 : Int32)) ∧ ¬ ((983039 : Int32) < c)))))))))))))) then (1 : Int32) else (0 : Int32) := by
  unfold tf1_24
  rw [own_A30 c]
  exact own_one c 95 _
theorem own_A12 (c : Int32) : tf1_12 c = if ((¬ (c < (65 : Int32)) ∧ ¬ ((90 : Int32) < c)) ∨ ((c = (95 : Int32)) ∨ ((¬ (c < (192 : Int32)) ∧ ¬ ((214 : Int32) < c)) ∨ ((¬ (c < (216 : Int32)) ∧ ¬ ((246 : Int32) < c)) ∨ ((¬ (c < (248 : Int32)) ∧ ¬ ((767 : Int32) < c)) ∨ ((¬ (c < (880 : Int32)) ∧ ¬ ((893 : Int32) < c)) ∨ ((¬ (c < (895 : Int32)) ∧ ¬ ((8191 : Int32) < c)) ∨ ((¬ (c < (8204 : Int32)) ∧ ¬ ((8205 : Int32) < c)) ∨ ((¬ (c < (8304 : Int32)) ∧ ¬ ((8591 : Int32) < c)) ∨ ((¬ (c < (11264 : Int32)) ∧ ¬ ((12271 : Int32) < c)) ∨ ((¬ (c < (12289 : Int32)) ∧ ¬ ((55295 : Int32) < c)) ∨ ((¬ (c < (63744 : Int32)) ∧ ¬ ((64975 : Int32) < c)) ∨ ((¬ (c < (65008 : Int32)) ∧ ¬ ((65533 : Int32) < c)) ∨ (¬ (c < (65536 : Int32)) ∧ ¬ ((983039 : Int32) < c))))))))))))))) then (1 : Int32) else (0 : Int32) := by
  unfold tf1_12
  rw [own_A24 c]
  exact own_rng c 65 90 _
theorem own_A0 (c : Int32) : tf1_0 c = if ((¬ (c < (97 : Int32)) ∧ ¬ ((122 : Int32) < c)) ∨ ((¬ (c < (65 : Int32)) ∧ ¬ ((90 : Int32) < c)) ∨ ((c = (95 : Int32)) ∨ ((¬ (c < (192 : Int32)) ∧ ¬ ((214 : Int32) < c)) ∨ ((¬ (c < (216 : Int32)) ∧ ¬ ((246 : Int32) < c)) ∨ ((¬ (c < (248 : Int32)) ∧ ¬ ((767 : Int32) < c)) ∨ ((¬ (c < (880 : Int32)) ∧ ¬ ((893 : Int32) < c)) ∨ ((¬ (c < (895 : Int32)) ∧ ¬ ((8191 : Int32) < c)) ∨ ((¬ (c < (8204 : Int32)) ∧ ¬ ((8205 : Int32) < c)) ∨ ((¬ (c < (8304 : Int32)) ∧ ¬ ((8591 : Int32) < c)) ∨ ((¬ (c < (11264 : Int32)) ∧ ¬ ((12271 : Int32) < c)) ∨ ((¬ (c < (12289 : Int32)) ∧ ¬ ((55295 : Int32) < c)) ∨ ((¬ (c < (63744 : Int32)) ∧ ¬ ((64975 : Int32) < c)) ∨ ((¬ (c < (65008 : Int32)) ∧ ¬ ((65533 : Int32) < c)) ∨ (¬ (c < (65536 : Int32)) ∧ ¬ ((983039 : Int32) < c)))))))))))))))) then (1 : Int32) else (0 : Int32) := by
  unfold tf1_0
  rw [own_A12 c]
  exact own_rng c 97 122 _
theorem own_B150 (c : Int32) : tf2_150 c = if (¬ (c < (65534 : Int32)) ∧ ¬ ((65535 : Int32) < c)) then (0 : Int32) else (1 : Int32) := rfl
theorem own_B139 (c : Int32) : tf2_139 c = if ((¬ (c < (64976 : Int32)) ∧ ¬ ((65007 : Int32) < c)) ∨ (¬ (c < (65534 : Int32)) ∧ ¬ ((65535 : Int32) < c))) then (0 : Int32) else (1 : Int32) := by
  unfold tf2_139
  rw [own_B150 c]
  exact own_gap _ _
theorem own_B128 (c : Int32) : tf2_128 c = if ((¬ (c < (55296 : Int32)) ∧ ¬ ((63743 : Int32) < c)) ∨ ((¬ (c < (64976 : Int32)) ∧ ¬ ((65007 : Int32) < c)) ∨ (¬ (c < (65534 : Int32)) ∧ ¬ ((65535 : Int32) < c)))) then (0 : Int32) else (1 : Int32) := by
  unfold tf2_128
  rw [own_B139 c]
  exact own_gap _ _
theorem own_B115 (c : Int32) : tf2_115 c = if ((¬ (c < (12272 : Int32)) ∧ ¬ ((12288 : Int32) < c)) ∨ ((¬ (c < (55296 : Int32)) ∧ ¬ ((63743 : Int32) < c)) ∨ ((¬ (c < (64976 : Int32)) ∧ ¬ ((65007 : Int32) < c)) ∨ (¬ (c < (65534 : Int32)) ∧ ¬ ((65535 : Int32) < c))))) then (0 : Int32) else (1 : Int32) := by
  unfold tf2_115
  rw [own_B128 c]
  exact own_gap _ _
theorem own_B102 (c : Int32) : tf2_102 c = if ((¬ (c < (8592 : Int32)) ∧ ¬ ((11263 : Int32) < c)) ∨ ((¬ (c < (12272 : Int32)) ∧ ¬ ((12288 : Int32) < c)) ∨ ((¬ (c < (55296 : Int32)) ∧ ¬ ((63743 : Int32) < c)) ∨ ((¬ (c < (64976 : Int32)) ∧ ¬ ((65007 : Int32) < c)) ∨ (¬ (c < (65534 : Int32)) ∧ ¬ ((65535 : Int32) < c)))))) then (0 : Int32) else (1 : Int32) := by
  unfold tf2_102
  rw [own_B115 c]
  exact own_gap _ _
theorem own_B89 (c : Int32) : tf2_89 c = if ((¬ (c < (8206 : Int32)) ∧ ¬ ((8303 : Int32) < c)) ∨ ((¬ (c < (8592 : Int32)) ∧ ¬ ((11263 : Int32) < c)) ∨ ((¬ (c < (12272 : Int32)) ∧ ¬ ((12288 : Int32) < c)) ∨ ((¬ (c < (55296 : Int32)) ∧ ¬ ((63743 : Int32) < c)) ∨ ((¬ (c < (64976 : Int32)) ∧ ¬ ((65007 : Int32) < c)) ∨ (¬ (c < (65534 : Int32)) ∧ ¬ ((65535 : Int32) < c))))))) then (0 : Int32) else (1 : Int32) := by
  unfold tf2_89
  rw [own_B102 c]
  exact own_gap _ _
theorem own_B76 (c : Int32) : tf2_76 c = if ((¬ (c < (8192 : Int32)) ∧ ¬ ((8203 : Int32) < c)) ∨ ((¬ (c < (8206 : Int32)) ∧ ¬ ((8303 : Int32) < c)) ∨ ((¬ (c < (8592 : Int32)) ∧ ¬ ((11263 : Int32) < c)) ∨ ((¬ (c < (12272 : Int32)) ∧ ¬ ((12288 : Int32) < c)) ∨ ((¬ (c < (55296 : Int32)) ∧ ¬ ((63743 : Int32) < c)) ∨ ((¬ (c < (64976 : Int32)) ∧ ¬ ((65007 : Int32) < c)) ∨ (¬ (c < (65534 : Int32)) ∧ ¬ ((65535 : Int32) < c)))))))) then (0 : Int32) else (1 : Int32) := by
  unfold tf2_76
  rw [own_B89 c]
  exact own_gap _ _
theorem own_B69 (c : Int32) : tf2_69 c = if ((c = (894 : Int32)) ∨ ((¬ (c < (8192 : Int32)) ∧ ¬ ((8203 : Int32) < c)) ∨ ((¬ (c < (8206 : Int32)) ∧ ¬ ((8303 : Int32) < c)) ∨ ((¬ (c < (8592 : Int32)) ∧ ¬ ((11263 : Int32) < c)) ∨ ((¬ (c < (12272 : Int32)) ∧ ¬ ((12288 : Int32) < c)) ∨ ((¬ (c < (55296 : Int32)) ∧ ¬ ((63743 : Int32) < c)) ∨ ((¬ (c < (64976 : Int32)) ∧ ¬ ((65007 : Int32) < c)) ∨ (¬ (c < (65534 : Int32)) ∧ ¬ ((65535 : Int32) < c))))))))) then (0 : Int32) else (1 : Int32) := by
  unfold tf2_69
  rw [own_B76 c]
  exact own_gap _ _
theorem own_B56 (c : Int32) : tf2_56 c = if ((¬ (c < (768 : Int32)) ∧ ¬ ((879 : Int32) < c)) ∨ ((c = (894 : Int32)) ∨ ((¬ (c < (8192 : Int32)) ∧ ¬ ((8203 : Int32) < c)) ∨ ((¬ (c < (8206 : Int32)) ∧ ¬ ((8303 : Int32) < c)) ∨ ((¬ (c < (8592 : Int32)) ∧ ¬ ((11263 : Int32) < c)) ∨ ((¬ (c < (12272 : Int32)) ∧ ¬ ((12288 : Int32) < c)) ∨ ((¬ (c < (55296 : Int32)) ∧ ¬ ((63743 : Int32) < c)) ∨ ((¬ (c < (64976 : Int32)) ∧ ¬ ((65007 : Int32) < c)) ∨ (¬ (c < (65534 : Int32)) ∧ ¬ ((65535 : Int32) < c)))))))))) then (0 : Int32) else (1 : Int32) := by
  unfold tf2_56
  rw [own_B69 c]
  exact own_gap _ _
theorem own_B49 (c : Int32) : tf2_49 c = if ((c = (247 : Int32)) ∨ ((¬ (c < (768 : Int32)) ∧ ¬ ((879 : Int32) < c)) ∨ ((c = (894 : Int32)) ∨ ((¬ (c < (8192 : Int32)) ∧ ¬ ((8203 : Int32) < c)) ∨ ((¬ (c < (8206 : Int32)) ∧ ¬ ((8303 : Int32) < c)) ∨ ((¬ (c < (8592 : Int32)) ∧ ¬ ((11263 : Int32) < c)) ∨ ((¬ (c < (12272 : Int32)) ∧ ¬ ((12288 : Int32) < c)) ∨ ((¬ (c < (55296 : Int32)) ∧ ¬ ((63743 : Int32) < c)) ∨ ((¬ (c < (64976 : Int32)) ∧ ¬ ((65007 : Int32) < c)) ∨ (¬ (c < (65534 : Int32)) ∧ ¬ ((65535 : Int32) < c))))))))))) then (0 : Int32) else (1 : Int32) := by
  unfold tf2_49
  rw [own_B56 c]
  exact own_gap _ _
theorem own_B42 (c : Int32) : tf2_42 c = if ((c = (215 : Int32)) ∨ ((c = (247 : Int32)) ∨ ((¬ (c < (768 : Int32)) ∧ ¬ ((879 : Int32) < c)) ∨ ((c = (894 : Int32)) ∨ ((¬ (c < (8192 : Int32)) ∧ ¬ ((8203 : Int32) < c)) ∨ ((¬ (c < (8206 : Int32)) ∧ ¬ ((8303 : Int32) < c)) ∨ ((¬ (c < (8592 : Int32)) ∧ ¬ ((11263 : Int32) < c)) ∨ ((¬ (c < (12272 : Int32)) ∧ ¬ ((12288 : Int32) < c)) ∨ ((¬ (c < (55296 : Int32)) ∧ ¬ ((63743 : Int32) < c)) ∨ ((¬ (c < (64976 : Int32)) ∧ ¬ ((65007 : Int32) < c)) ∨ (¬ (c < (65534 : Int32)) ∧ ¬ ((65535 : Int32) < c)))))))))))) then (0 : Int32) else (1 : Int32) := by
  unfold tf2_42
  rw [own_B49 c]
  exact own_gap _ _
theorem own_B30 (c : Int32) : tf2_30 c = if ((¬ (c < (123 : Int32)) ∧ ¬ ((191 : Int32) < c)) ∨ ((c = (215 : Int32)) ∨ ((c = (247 : Int32)) ∨ ((¬ (c < (768 : Int32)) ∧ ¬ ((879 : Int32) < c)) ∨ ((c = (894 : Int32)) ∨ ((¬ (c < (8192 : Int32)) ∧ ¬ ((8203 : Int32) < c)) ∨ ((¬ (c < (8206 : Int32)) ∧ ¬ ((8303 : Int32) < c)) ∨ ((¬ (c < (8592 : Int32)) ∧ ¬ ((11263 : Int32) < c)) ∨ ((¬ (c < (12272 : Int32)) ∧ ¬ ((12288 : Int32) < c)) ∨ ((¬ (c < (55296 : Int32)) ∧ ¬ ((63743 : Int32) < c)) ∨ ((¬ (c < (64976 : Int32)) ∧ ¬ ((65007 : Int32) < c)) ∨ (¬ (c < (65534 : Int32)) ∧ ¬ ((65535 : Int32) < c))))))))))))) then (0 : Int32) else (1 : Int32) := by
  unfold tf2_30
  rw [own_B42 c]
  exact own_gap _ _
theorem own_B24 (c : Int32) : tf2_24 c = if ((c = (96 : Int32)) ∨ ((¬ (c < (123 : Int32)) ∧ ¬ ((191 : Int32) < c)) ∨ ((c = (215 : Int32)) ∨ ((c = (247 : Int32)) ∨ ((¬ (c < (768 : Int32)) ∧ ¬ ((879 : Int32) < c)) ∨ ((c = (894 : Int32)) ∨ ((¬ (c < (8192 : Int32)) ∧ ¬ ((8203 : Int32) < c)) ∨ ((¬ (c < (8206 : Int32)) ∧ ¬ ((8303 : Int32) < c)) ∨ ((¬ (c < (8592 : Int32)) ∧ ¬ ((11263 : Int32) < c)) ∨ ((¬ (c < (12272 : Int32)) ∧ ¬ ((12288 : Int32) < c)) ∨ ((¬ (c < (55296 : Int32)) ∧ ¬ ((63743 : Int32) < c)) ∨ ((¬ (c < (64976 : Int32)) ∧ ¬ ((65007 : Int32) < c)) ∨ (¬ (c < (65534 : Int32)) ∧ ¬ ((65535 : Int32) < c)))))))))))))) then (0 : Int32) else (1 : Int32) := by
  unfold tf2_24
  rw [own_B30 c]
  exact own_gap _ _
theorem own_B13 (c : Int32) : tf2_13 c = if ((¬ (c < (91 : Int32)) ∧ ¬ ((94 : Int32) < c)) ∨ ((c = (96 : Int32)) ∨ ((¬ (c < (123 : Int32)) ∧ ¬ ((191 : Int32) < c)) ∨ ((c = (215 : Int32)) ∨ ((c = (247 : Int32)) ∨ ((¬ (c < (768 : Int32)) ∧ ¬ ((879 : Int32) < c)) ∨ ((c = (894 : Int32)) ∨ ((¬ (c < (8192 : Int32)) ∧ ¬ ((8203 : Int32) < c)) ∨ ((¬ (c < (8206 : Int32)) ∧ ¬ ((8303 : Int32) < c)) ∨ ((¬ (c < (8592 : Int32)) ∧ ¬ ((11263 : Int32) < c)) ∨ ((¬ (c < (12272 : Int32)) ∧ ¬ ((12288 : Int32) < c)) ∨ ((¬ (c < (55296 : Int32)) ∧ ¬ ((63743 : Int32) < c)) ∨ ((¬ (c < (64976 : Int32)) ∧ ¬ ((65007 : Int32) < c)) ∨ (¬ (c < (65534 : Int32)) ∧ ¬ ((65535 : Int32) < c))))))))))))))) then (0 : Int32) else (1 : Int32) := by
  unfold tf2_13
  rw [own_B24 c]
  exact own_gap _ _
theorem own_iff (z : Int) : ((¬ (z < 97) ∧ ¬ (122 < z)) ∨ ((¬ (z < 65) ∧ ¬ (90 < z)) ∨ ((z = 95) ∨ ((¬ (z < 192) ∧ ¬ (214 < z)) ∨ ((¬ (z < 216) ∧ ¬ (246 < z)) ∨ ((¬ (z < 248) ∧ ¬ (767 < z)) ∨ ((¬ (z < 880) ∧ ¬ (893 < z)) ∨ ((¬ (z < 895) ∧ ¬ (8191 < z)) ∨ ((¬ (z < 8204) ∧ ¬ (8205 < z)) ∨ ((¬ (z < 8304) ∧ ¬ (8591 < z)) ∨ ((¬ (z < 11264) ∧ ¬ (12271 < z)) ∨ ((¬ (z < 12289) ∧ ¬ (55295 < z)) ∨ ((¬ (z < 63744) ∧ ¬ (64975 < z)) ∨ ((¬ (z < 65008) ∧ ¬ (65533 < z)) ∨ (¬ (z < 65536) ∧ ¬ (983039 < z)))))))))))))))) ↔ (¬ (z < 65) ∧ ¬ (983039 < z)) ∧ ¬ ((¬ (z < 91) ∧ ¬ (94 < z)) ∨ ((z = 96) ∨ ((¬ (z < 123) ∧ ¬ (191 < z)) ∨ ((z = 215) ∨ ((z = 247) ∨ ((¬ (z < 768) ∧ ¬ (879 < z)) ∨ ((z = 894) ∨ ((¬ (z < 8192) ∧ ¬ (8203 < z)) ∨ ((¬ (z < 8206) ∧ ¬ (8303 < z)) ∨ ((¬ (z < 8592) ∧ ¬ (11263 < z)) ∨ ((¬ (z < 12272) ∧ ¬ (12288 < z)) ∨ ((¬ (z < 55296) ∧ ¬ (63743 < z)) ∨ ((¬ (z < 64976) ∧ ¬ (65007 < z)) ∨ (¬ (z < 65534) ∧ ¬ (65535 < z))))))))))))))) := by
  omega
theorem own_same (c : Int32) : tf1_0 c = tf2_0 c := by
  rw [own_A0 c]
  unfold tf2_0
  rw [own_B13 c]
  have h := own_iff c.toInt
  have hA : (((¬ (c < (97 : Int32)) ∧ ¬ ((122 : Int32) < c)) ∨ ((¬ (c < (65 : Int32)) ∧ ¬ ((90 : Int32) < c)) ∨ ((c = (95 : Int32)) ∨ ((¬ (c < (192 : Int32)) ∧ ¬ ((214 : Int32) < c)) ∨ ((¬ (c < (216 : Int32)) ∧ ¬ ((246 : Int32) < c)) ∨ ((¬ (c < (248 : Int32)) ∧ ¬ ((767 : Int32) < c)) ∨ ((¬ (c < (880 : Int32)) ∧ ¬ ((893 : Int32) < c)) ∨ ((¬ (c < (895 : Int32)) ∧ ¬ ((8191 : Int32) < c)) ∨ ((¬ (c < (8204 : Int32)) ∧ ¬ ((8205 : Int32) < c)) ∨ ((¬ (c < (8304 : Int32)) ∧ ¬ ((8591 : Int32) < c)) ∨ ((¬ (c < (11264 : Int32)) ∧ ¬ ((12271 : Int32) < c)) ∨ ((¬ (c < (12289 : Int32)) ∧ ¬ ((55295 : Int32) < c)) ∨ ((¬ (c < (63744 : Int32)) ∧ ¬ ((64975 : Int32) < c)) ∨ ((¬ (c < (65008 : Int32)) ∧ ¬ ((65533 : Int32) < c)) ∨ (¬ (c < (65536 : Int32)) ∧ ¬ ((983039 : Int32) < c))))))))))))))))) ↔ (¬ (c < (65 : Int32)) ∧ ¬ ((983039 : Int32) < c)) ∧ ¬ ((¬ (c < (91 : Int32)) ∧ ¬ ((94 : Int32) < c)) ∨ ((c = (96 : Int32)) ∨ ((¬ (c < (123 : Int32)) ∧ ¬ ((191 : Int32) < c)) ∨ ((c = (215 : Int32)) ∨ ((c = (247 : Int32)) ∨ ((¬ (c < (768 : Int32)) ∧ ¬ ((879 : Int32) < c)) ∨ ((c = (894 : Int32)) ∨ ((¬ (c < (8192 : Int32)) ∧ ¬ ((8203 : Int32) < c)) ∨ ((¬ (c < (8206 : Int32)) ∧ ¬ ((8303 : Int32) < c)) ∨ ((¬ (c < (8592 : Int32)) ∧ ¬ ((11263 : Int32) < c)) ∨ ((¬ (c < (12272 : Int32)) ∧ ¬ ((12288 : Int32) < c)) ∨ ((¬ (c < (55296 : Int32)) ∧ ¬ ((63743 : Int32) < c)) ∨ ((¬ (c < (64976 : Int32)) ∧ ¬ ((65007 : Int32) < c)) ∨ (¬ (c < (65534 : Int32)) ∧ ¬ ((65535 : Int32) < c))))))))))))))) := by
    simp only [Int32.lt_iff_toInt_lt, ← Int32.toInt_inj, show (65 : Int32).toInt = 65 from rfl, show (90 : Int32).toInt = 90 from rfl, show (91 : Int32).toInt = 91 from rfl, show (94 : Int32).toInt = 94 from rfl, show (95 : Int32).toInt = 95 from rfl, show (96 : Int32).toInt = 96 from rfl, show (97 : Int32).toInt = 97 from rfl, show (122 : Int32).toInt = 122 from rfl, show (123 : Int32).toInt = 123 from rfl, show (191 : Int32).toInt = 191 from rfl, show (192 : Int32).toInt = 192 from rfl, show (214 : Int32).toInt = 214 from rfl, show (215 : Int32).toInt = 215 from rfl, show (216 : Int32).toInt = 216 from rfl, show (246 : Int32).toInt = 246 from rfl, show (247 : Int32).toInt = 247 from rfl, show (248 : Int32).toInt = 248 from rfl, show (767 : Int32).toInt = 767 from rfl, show (768 : Int32).toInt = 768 from rfl, show (879 : Int32).toInt = 879 from rfl, show (880 : Int32).toInt = 880 from rfl, show (893 : Int32).toInt = 893 from rfl, show (894 : Int32).toInt = 894 from rfl, show (895 : Int32).toInt = 895 from rfl, show (8191 : Int32).toInt = 8191 from rfl, show (8192 : Int32).toInt = 8192 from rfl, show (8203 : Int32).toInt = 8203 from rfl, show (8204 : Int32).toInt = 8204 from rfl, show (8205 : Int32).toInt = 8205 from rfl, show (8206 : Int32).toInt = 8206 from rfl, show (8303 : Int32).toInt = 8303 from rfl, show (8304 : Int32).toInt = 8304 from rfl, show (8591 : Int32).toInt = 8591 from rfl, show (8592 : Int32).toInt = 8592 from rfl, show (11263 : Int32).toInt = 11263 from rfl, show (11264 : Int32).toInt = 11264 from rfl, show (12271 : Int32).toInt = 12271 from rfl, show (12272 : Int32).toInt = 12272 from rfl, show (12288 : Int32).toInt = 12288 from rfl, show (12289 : Int32).toInt = 12289 from rfl, show (55295 : Int32).toInt = 55295 from rfl, show (55296 : Int32).toInt = 55296 from rfl, show (63743 : Int32).toInt = 63743 from rfl, show (63744 : Int32).toInt = 63744 from rfl, show (64975 : Int32).toInt = 64975 from rfl, show (64976 : Int32).toInt = 64976 from rfl, show (65007 : Int32).toInt = 65007 from rfl, show (65008 : Int32).toInt = 65008 from rfl, show (65533 : Int32).toInt = 65533 from rfl, show (65534 : Int32).toInt = 65534 from rfl, show (65535 : Int32).toInt = 65535 from rfl, show (65536 : Int32).toInt = 65536 from rfl, show (983039 : Int32).toInt = 983039 from rfl]
    exact h
  by_cases k1 : (¬ (c < (65 : Int32)) ∧ ¬ ((983039 : Int32) < c))
  · by_cases k2 : ((¬ (c < (91 : Int32)) ∧ ¬ ((94 : Int32) < c)) ∨ ((c = (96 : Int32)) ∨ ((¬ (c < (123 : Int32)) ∧ ¬ ((191 : Int32) < c)) ∨ ((c = (215 : Int32)) ∨ ((c = (247 : Int32)) ∨ ((¬ (c < (768 : Int32)) ∧ ¬ ((879 : Int32) < c)) ∨ ((c = (894 : Int32)) ∨ ((¬ (c < (8192 : Int32)) ∧ ¬ ((8203 : Int32) < c)) ∨ ((¬ (c < (8206 : Int32)) ∧ ¬ ((8303 : Int32) < c)) ∨ ((¬ (c < (8592 : Int32)) ∧ ¬ ((11263 : Int32) < c)) ∨ ((¬ (c < (12272 : Int32)) ∧ ¬ ((12288 : Int32) < c)) ∨ ((¬ (c < (55296 : Int32)) ∧ ¬ ((63743 : Int32) < c)) ∨ ((¬ (c < (64976 : Int32)) ∧ ¬ ((65007 : Int32) < c)) ∨ (¬ (c < (65534 : Int32)) ∧ ¬ ((65535 : Int32) < c)))))))))))))))
    · rw [if_neg (fun q => (hA.mp q).2 k2), if_pos k1, if_pos k2]
    · rw [if_pos (hA.mpr ⟨k1, k2⟩), if_pos k1, if_neg k2]
  · rw [if_neg (fun q => k1 (hA.mp q).1), if_neg k1]
theorem pn_0 : plainName "com/example/postil/postil/rdf/NameCharactersIsStartPinLaw" = true := by first | (simp [plainName, overriddenIn]; done) | decide +kernel
theorem pd_0_0 : parseMethodDescriptor "(I)Z" = some ⟨[.int], some .boolean⟩ := by decide +kernel
theorem ef_0 (m : MethodId) (P0 : Int32) (P1 : Int32) : entryFrame m #[(.int P0), (.int P1)] maxLocals = mkF m 0 #[.val (.int P0), .val (.int P1), .unset, .unset] [] := by first | (simp [entryFrame, mkF, argsToLocals, Value.category, maxLocals]; done) | rfl
def Q0 (Z : State) (P0 : Int32) (P1 : Int32) (h0 : Heap) (n0 : Nat) (v : Option Value) (h : Heap) (L : List Loc) : Prop := v = some (.int (1 : Int32)) ∧ Fr n0 L
set_option maxRecDepth 65536 in
set_option maxHeartbeats 40000000 in
theorem rm0 (l : Launch) (Z : State) (a0 : Array Value) (hw : ∀ d ∈ tables_1, d.before a0 Z = true) (ws : List Jvm.Cond) (P0 : Int32) (P1 : Int32) (h0 : Heap) (n0 : Nat) (Z0 : n0 ≤ h0.size) :
    MetFree l x (head1 (Jvm.Cond.code x code maxLocals ret :: ws) room_1) (fun a U => a = #[(.int P0), (.int P1)] ∧ Z.Warmed39 U.vm ∧ U.heap = h0) (fun _ _ _ _ _ => True) (fun _ U o U' => ∃ v L, o = .returned v ∧ Q0 Z P0 P1 h0 n0 v U'.heap L ∧ FrameEnd U o U' L 0 0) := by
  refine MetFree.of_bodySF (plainFor_of_name pn_0) hisR ?_
  intro p e s m args below meth c s₁ Bd hml0 hP hK
  obtain ⟨rfl, hZ, hh⟩ := hP
  have hx := Bd.exec
  have hby := Bd.bytes
  have hml : c.maxLocals = 4 := hml0
  have hown : s.vm.findClass "com/example/postil/postil/rdf/NameCharactersIsStartPinLaw" = some m.cls := findClass_of_methodNamed Bd.named
  have hnm := (name_of_methodNamed Bd.named Bd.method).1
  have X0 : Stand p l e room_1 s m #[(.int P0), (.int P1)] below meth c s₁ [] 0 0 := Stand.of_body Bd
  have e0 : s₁.heap = h0 := by rw [← hh, Bd.state]; rfl
  have N0 := Fr.nil n0
  have pre0 : ∀ t, Steps p.tables e below (s₁.setTop (mkF m 0 #[.val (.int P0), .val (.int P1), .unset, .unset] [])) t → Steps p.tables e below (s₁.setTop (entryFrame m #[(.int P0), (.int P1)] maxLocals)) t := fun t k => castTop (ef_0 m P0 P1) k
  have pre101 : ∀ t, Steps p.tables e below (s₁.setTop (mkF m 5 #[.val (.int P0), .val (.int P1), .val (.int (P1 &&& (3 : Int32))), .unset] [(.int (P1 &&& (3 : Int32)))])) t → Steps p.tables e below (s₁.setTop (entryFrame m #[(.int P0), (.int P1)] maxLocals)) t := fun t kt => pre0 t (by
      show Steps p.tables e below (s₁.setTop (mkF m 0 #[.val (.int P0), .val (.int P1), .unset, .unset] [])) _
      refine XS.iloadN X0.here hx rfl (hb hby at_0) rfl ?_
      show Steps p.tables e below (s₁.setTop (mkF m 1 #[.val (.int P0), .val (.int P1), .unset, .unset] [(.int P1)])) _
      refine XS.iconst X0.here hx rfl (hb hby at_1) ?_
      show Steps p.tables e below (s₁.setTop (mkF m 2 #[.val (.int P0), .val (.int P1), .unset, .unset] [(.int (3 : Int32)), (.int P1)])) _
      refine XS.iand X0.here hx rfl (hb hby at_2) rfl ?_
      show Steps p.tables e below (s₁.setTop (mkF m 3 #[.val (.int P0), .val (.int P1), .unset, .unset] [(.int (P1 &&& (3 : Int32)))])) _
      refine XS.istoreN X0.here hx rfl (hb hby at_3) rfl (l' := #[.val (.int P0), .val (.int P1), .val (.int (P1 &&& (3 : Int32))), .unset]) rfl ?_
      show Steps p.tables e below (s₁.setTop (mkF m 4 #[.val (.int P0), .val (.int P1), .val (.int (P1 &&& (3 : Int32))), .unset] [])) _
      refine XS.iloadN X0.here hx rfl (hb hby at_4) rfl ?_
      exact kt)
  by_cases hc5 : (P1 &&& (3 : Int32)) = (0 : Int32)
  · obtain ⟨_, _, ⟨T102, L102, k102, n102⟩, -, X102, ⟨Lc102, hQ102, l102, y102, z102⟩, st102⟩ := Jvm.LawKit.callS X0 hx (y := (⟨"com/example/postil/postil/rdf/NameCharacters", "isStart", "(I)Z"⟩ : MethodName)) hown (mvT hZ (hw _ (List.mem_of_getElem? (i := 1) rfl))) (mvT hZ (hw _ (List.mem_of_getElem? (i := 2) rfl))) (mvT hZ (hw _ (List.mem_of_getElem? (i := 3) rfl))) (mvT hZ (hw _ (List.mem_of_getElem? (i := 4) rfl))) (by decide) (backOf (W := 0) (rm1 l Z a0 hw [] P0 h0 n0 Z0 ) hZ (hw _ (List.mem_of_getElem? (i := 4) rfl)) (hw _ (List.mem_of_getElem? (i := 3) rfl)) (by decide) (by decide)) (g := (mkF m 46 #[.val (.int P0), .val (.int P1), .val (.int (P1 &&& (3 : Int32))), .val (.int P0)] [(.int P0)])) rfl (by rw [hml]; rfl) (argsL := [(.int P0)]) (rest := []) (lenOf pd_0_0 rfl) rfl (by show 2 * 0 + _ ≤ _; exact Nat.le_of_eq rfl) (hb hby at_46) (fun _ _ => ⟨rfl, e0, (by decide : 0 + 0 ≤ _), (by decide : 0 + 0 ≤ _)⟩)
    dsimp only [Pt.U, Pt.locs, Pt.cells, Pt.slots] at X102 l102 y102 z102 st102 hQ102
    subst l102 y102 z102
    obtain ⟨rfl, N102q, K102⟩ := hQ102
    have N102 := Fr.app N0 N102q
    obtain ⟨_, _, ⟨T103, L103, k103, n103⟩, -, X103, ⟨Lc103, hQ103, l103, y103, z103⟩, st103⟩ := Jvm.LawKit.callS X102 hx (y := (⟨"com/example/postil/postil/rdf/NameCharactersIsStartPinLaw", "expected", "(I)Z"⟩ : MethodName)) hown (mvT hZ (hw _ (List.mem_of_getElem? (i := 8) rfl))) (mvT hZ (hw _ (List.mem_of_getElem? (i := 9) rfl))) (mvT hZ (hw _ (List.mem_of_getElem? (i := 10) rfl))) (mvT hZ (hw _ (List.mem_of_getElem? (i := 11) rfl))) (by decide) (backOf (W := 1) (rm2 l Z a0 hw [] P0 h0 n0 Z0 ) hZ (hw _ (List.mem_of_getElem? (i := 11) rfl)) (hw _ (List.mem_of_getElem? (i := 10) rfl)) (by decide) (by decide)) (g := (mkF m 50 #[.val (.int P0), .val (.int P1), .val (.int (P1 &&& (3 : Int32))), .val (.int P0)] [(.int P0), (.int (tf1_0 P0))])) rfl (by rw [hml]; rfl) (argsL := [(.int P0)]) (rest := [(.int (tf1_0 P0))]) (lenOf pd_0_0 rfl) rfl (by show 2 * 0 + _ ≤ _; exact Nat.le_of_eq rfl) (hb hby at_50) (fun _ _ => ⟨rfl, K102, (by decide : 0 + 0 ≤ _), (by decide : 0 + 0 ≤ _)⟩)
    dsimp only [Pt.U, Pt.locs, Pt.cells, Pt.slots] at X103 l103 y103 z103 st103 hQ103
    subst l103 y103 z103
    obtain ⟨rfl, N103q, K103⟩ := hQ103
    have N103 := Fr.app N102 N103q
    have pre104 : ∀ t, Steps p.tables e below (T103.setTop (mkF m 61 #[.val (.int P0), .val (.int P1), .val (.int (P1 &&& (3 : Int32))), .val (.int P0)] [(.int (1 : Int32))])) t → Steps p.tables e below (s₁.setTop (entryFrame m #[(.int P0), (.int P1)] maxLocals)) t := fun t kt => pre101 t (by
        show Steps p.tables e below (s₁.setTop (mkF m 5 #[.val (.int P0), .val (.int P1), .val (.int (P1 &&& (3 : Int32))), .unset] [(.int (P1 &&& (3 : Int32)))])) _
        refine XS.ifNo X0.here hx rfl (hb hby at_5) rfl ((if0 _ _).trans (teq hc5).2) ?_
        show Steps p.tables e below (s₁.setTop (mkF m 8 #[.val (.int P0), .val (.int P1), .val (.int (P1 &&& (3 : Int32))), .unset] [])) _
        refine XS.iloadN X0.here hx rfl (hb hby at_8) rfl ?_
        show Steps p.tables e below (s₁.setTop (mkF m 9 #[.val (.int P0), .val (.int P1), .val (.int (P1 &&& (3 : Int32))), .unset] [(.int P0)])) _
        refine XS.istoreN X0.here hx rfl (hb hby at_9) rfl (l' := #[.val (.int P0), .val (.int P1), .val (.int (P1 &&& (3 : Int32))), .val (.int P0)]) rfl ?_
        show Steps p.tables e below (s₁.setTop (mkF m 10 #[.val (.int P0), .val (.int P1), .val (.int (P1 &&& (3 : Int32))), .val (.int P0)] [])) _
        refine XS.goto X0.here hx rfl (pc0 := 10) (pc' := 45) rfl (hb hby at_10) (by decide) (by decide) ?_
        show Steps p.tables e below (s₁.setTop (mkF m 45 #[.val (.int P0), .val (.int P1), .val (.int (P1 &&& (3 : Int32))), .val (.int P0)] [])) _
        refine XS.iloadN X0.here hx rfl (hb hby at_45) rfl ?_
        show Steps p.tables e below (s₁.setTop (mkF m 46 #[.val (.int P0), .val (.int P1), .val (.int (P1 &&& (3 : Int32))), .val (.int P0)] [(.int P0)])) _
        refine st102 _ ?_
        show Steps p.tables e below (T102.setTop (mkF m 49 #[.val (.int P0), .val (.int P1), .val (.int (P1 &&& (3 : Int32))), .val (.int P0)] [(.int (tf1_0 P0))])) _
        refine XS.iloadN X102.here hx rfl (hb hby at_49) rfl ?_
        show Steps p.tables e below (T102.setTop (mkF m 50 #[.val (.int P0), .val (.int P1), .val (.int (P1 &&& (3 : Int32))), .val (.int P0)] [(.int P0), (.int (tf1_0 P0))])) _
        refine st103 _ ?_
        show Steps p.tables e below (T103.setTop (mkF m 53 #[.val (.int P0), .val (.int P1), .val (.int (P1 &&& (3 : Int32))), .val (.int P0)] [(.int (tf2_0 P0)), (.int (tf1_0 P0))])) _
        refine XS.icmpNo X103.here hx rfl (hb hby at_53) rfl (teq (show (tf1_0 P0) = (tf2_0 P0) from (own_same _))).2 ?_
        show Steps p.tables e below (T103.setTop (mkF m 56 #[.val (.int P0), .val (.int P1), .val (.int (P1 &&& (3 : Int32))), .val (.int P0)] [])) _
        refine XS.iconst X103.here hx rfl (hb hby at_56) ?_
        show Steps p.tables e below (T103.setTop (mkF m 57 #[.val (.int P0), .val (.int P1), .val (.int (P1 &&& (3 : Int32))), .val (.int P0)] [(.int (1 : Int32))])) _
        refine XS.goto X103.here hx rfl (pc0 := 57) (pc' := 61) rfl (hb hby at_57) (by decide) (by decide) ?_
        exact kt)
    obtain ⟨fs, hr, hrun, hended, hW, hsame⟩ := X103.leave (v := some (.int (1 : Int32))) (fun h => by rw [Bd.returns] at h; cases h)
    refine ⟨_, _, pre104 _ ?_, hrun, hended, _, _, rfl, ?_, ⟨_, rfl⟩, hW, hsame.mono (by decide) (by decide)⟩
    · show Steps p.tables e below (T103.setTop (mkF m 61 #[.val (.int P0), .val (.int P1), .val (.int (P1 &&& (3 : Int32))), .val (.int P0)] [(.int (1 : Int32))])) _
      exact retN X103 hx (t := .boolean) Bd.returns (by simp) (hb hby at_61) hr
    · show Q0 Z P0 P1 h0 n0 _ T103.heap _
      rw [K103]
      exact ⟨rfl, N103⟩
  · have pre105 : ∀ t, Steps p.tables e below (s₁.setTop (mkF m 15 #[.val (.int P0), .val (.int P1), .val (.int (P1 &&& (3 : Int32))), .unset] [(.int (1 : Int32)), (.int (P1 &&& (3 : Int32)))])) t → Steps p.tables e below (s₁.setTop (entryFrame m #[(.int P0), (.int P1)] maxLocals)) t := fun t kt => pre101 t (by
        show Steps p.tables e below (s₁.setTop (mkF m 5 #[.val (.int P0), .val (.int P1), .val (.int (P1 &&& (3 : Int32))), .unset] [(.int (P1 &&& (3 : Int32)))])) _
        refine XS.ifYes X0.here hx rfl (pc0 := 5) (pc' := 13) rfl (hb hby at_5) rfl ((if0 _ _).trans (feq hc5).2) (by decide) (by decide) ?_
        show Steps p.tables e below (s₁.setTop (mkF m 13 #[.val (.int P0), .val (.int P1), .val (.int (P1 &&& (3 : Int32))), .unset] [])) _
        refine XS.iloadN X0.here hx rfl (hb hby at_13) rfl ?_
        show Steps p.tables e below (s₁.setTop (mkF m 14 #[.val (.int P0), .val (.int P1), .val (.int (P1 &&& (3 : Int32))), .unset] [(.int (P1 &&& (3 : Int32)))])) _
        refine XS.iconst X0.here hx rfl (hb hby at_14) ?_
        exact kt)
    by_cases hc15 : (P1 &&& (3 : Int32)) = (1 : Int32)
    · obtain ⟨_, _, ⟨T106, L106, k106, n106⟩, -, X106, ⟨Lc106, hQ106, l106, y106, z106⟩, st106⟩ := Jvm.LawKit.callS X0 hx (y := (⟨"com/example/postil/postil/rdf/NameCharacters", "isStart", "(I)Z"⟩ : MethodName)) hown (mvT hZ (hw _ (List.mem_of_getElem? (i := 1) rfl))) (mvT hZ (hw _ (List.mem_of_getElem? (i := 2) rfl))) (mvT hZ (hw _ (List.mem_of_getElem? (i := 3) rfl))) (mvT hZ (hw _ (List.mem_of_getElem? (i := 4) rfl))) (by decide) (backOf (W := 0) (rm1 l Z a0 hw [] (P0 &&& (255 : Int32)) h0 n0 Z0 ) hZ (hw _ (List.mem_of_getElem? (i := 4) rfl)) (hw _ (List.mem_of_getElem? (i := 3) rfl)) (by decide) (by decide)) (g := (mkF m 46 #[.val (.int P0), .val (.int P1), .val (.int (P1 &&& (3 : Int32))), .val (.int (P0 &&& (255 : Int32)))] [(.int (P0 &&& (255 : Int32)))])) rfl (by rw [hml]; rfl) (argsL := [(.int (P0 &&& (255 : Int32)))]) (rest := []) (lenOf pd_0_0 rfl) rfl (by show 2 * 0 + _ ≤ _; exact Nat.le_of_eq rfl) (hb hby at_46) (fun _ _ => ⟨rfl, e0, (by decide : 0 + 0 ≤ _), (by decide : 0 + 0 ≤ _)⟩)
      dsimp only [Pt.U, Pt.locs, Pt.cells, Pt.slots] at X106 l106 y106 z106 st106 hQ106
      subst l106 y106 z106
      obtain ⟨rfl, N106q, K106⟩ := hQ106
      have N106 := Fr.app N0 N106q
      obtain ⟨_, _, ⟨T107, L107, k107, n107⟩, -, X107, ⟨Lc107, hQ107, l107, y107, z107⟩, st107⟩ := Jvm.LawKit.callS X106 hx (y := (⟨"com/example/postil/postil/rdf/NameCharactersIsStartPinLaw", "expected", "(I)Z"⟩ : MethodName)) hown (mvT hZ (hw _ (List.mem_of_getElem? (i := 8) rfl))) (mvT hZ (hw _ (List.mem_of_getElem? (i := 9) rfl))) (mvT hZ (hw _ (List.mem_of_getElem? (i := 10) rfl))) (mvT hZ (hw _ (List.mem_of_getElem? (i := 11) rfl))) (by decide) (backOf (W := 1) (rm2 l Z a0 hw [] (P0 &&& (255 : Int32)) h0 n0 Z0 ) hZ (hw _ (List.mem_of_getElem? (i := 11) rfl)) (hw _ (List.mem_of_getElem? (i := 10) rfl)) (by decide) (by decide)) (g := (mkF m 50 #[.val (.int P0), .val (.int P1), .val (.int (P1 &&& (3 : Int32))), .val (.int (P0 &&& (255 : Int32)))] [(.int (P0 &&& (255 : Int32))), (.int (tf1_0 (P0 &&& (255 : Int32))))])) rfl (by rw [hml]; rfl) (argsL := [(.int (P0 &&& (255 : Int32)))]) (rest := [(.int (tf1_0 (P0 &&& (255 : Int32))))]) (lenOf pd_0_0 rfl) rfl (by show 2 * 0 + _ ≤ _; exact Nat.le_of_eq rfl) (hb hby at_50) (fun _ _ => ⟨rfl, K106, (by decide : 0 + 0 ≤ _), (by decide : 0 + 0 ≤ _)⟩)
      dsimp only [Pt.U, Pt.locs, Pt.cells, Pt.slots] at X107 l107 y107 z107 st107 hQ107
      subst l107 y107 z107
      obtain ⟨rfl, N107q, K107⟩ := hQ107
      have N107 := Fr.app N106 N107q
      have pre108 : ∀ t, Steps p.tables e below (T107.setTop (mkF m 61 #[.val (.int P0), .val (.int P1), .val (.int (P1 &&& (3 : Int32))), .val (.int (P0 &&& (255 : Int32)))] [(.int (1 : Int32))])) t → Steps p.tables e below (s₁.setTop (entryFrame m #[(.int P0), (.int P1)] maxLocals)) t := fun t kt => pre105 t (by
          show Steps p.tables e below (s₁.setTop (mkF m 15 #[.val (.int P0), .val (.int P1), .val (.int (P1 &&& (3 : Int32))), .unset] [(.int (1 : Int32)), (.int (P1 &&& (3 : Int32)))])) _
          refine XS.icmpNo X0.here hx rfl (hb hby at_15) rfl (teq hc15).2 ?_
          show Steps p.tables e below (s₁.setTop (mkF m 18 #[.val (.int P0), .val (.int P1), .val (.int (P1 &&& (3 : Int32))), .unset] [])) _
          refine XS.iloadN X0.here hx rfl (hb hby at_18) rfl ?_
          show Steps p.tables e below (s₁.setTop (mkF m 19 #[.val (.int P0), .val (.int P1), .val (.int (P1 &&& (3 : Int32))), .unset] [(.int P0)])) _
          refine XS.sipush X0.here hx rfl (hb hby at_19) ?_
          show Steps p.tables e below (s₁.setTop (mkF m 22 #[.val (.int P0), .val (.int P1), .val (.int (P1 &&& (3 : Int32))), .unset] [(.int (255 : Int32)), (.int P0)])) _
          refine XS.iand X0.here hx rfl (hb hby at_22) rfl ?_
          show Steps p.tables e below (s₁.setTop (mkF m 23 #[.val (.int P0), .val (.int P1), .val (.int (P1 &&& (3 : Int32))), .unset] [(.int (P0 &&& (255 : Int32)))])) _
          refine XS.istoreN X0.here hx rfl (hb hby at_23) rfl (l' := #[.val (.int P0), .val (.int P1), .val (.int (P1 &&& (3 : Int32))), .val (.int (P0 &&& (255 : Int32)))]) rfl ?_
          show Steps p.tables e below (s₁.setTop (mkF m 24 #[.val (.int P0), .val (.int P1), .val (.int (P1 &&& (3 : Int32))), .val (.int (P0 &&& (255 : Int32)))] [])) _
          refine XS.goto X0.here hx rfl (pc0 := 24) (pc' := 45) rfl (hb hby at_24) (by decide) (by decide) ?_
          show Steps p.tables e below (s₁.setTop (mkF m 45 #[.val (.int P0), .val (.int P1), .val (.int (P1 &&& (3 : Int32))), .val (.int (P0 &&& (255 : Int32)))] [])) _
          refine XS.iloadN X0.here hx rfl (hb hby at_45) rfl ?_
          show Steps p.tables e below (s₁.setTop (mkF m 46 #[.val (.int P0), .val (.int P1), .val (.int (P1 &&& (3 : Int32))), .val (.int (P0 &&& (255 : Int32)))] [(.int (P0 &&& (255 : Int32)))])) _
          refine st106 _ ?_
          show Steps p.tables e below (T106.setTop (mkF m 49 #[.val (.int P0), .val (.int P1), .val (.int (P1 &&& (3 : Int32))), .val (.int (P0 &&& (255 : Int32)))] [(.int (tf1_0 (P0 &&& (255 : Int32))))])) _
          refine XS.iloadN X106.here hx rfl (hb hby at_49) rfl ?_
          show Steps p.tables e below (T106.setTop (mkF m 50 #[.val (.int P0), .val (.int P1), .val (.int (P1 &&& (3 : Int32))), .val (.int (P0 &&& (255 : Int32)))] [(.int (P0 &&& (255 : Int32))), (.int (tf1_0 (P0 &&& (255 : Int32))))])) _
          refine st107 _ ?_
          show Steps p.tables e below (T107.setTop (mkF m 53 #[.val (.int P0), .val (.int P1), .val (.int (P1 &&& (3 : Int32))), .val (.int (P0 &&& (255 : Int32)))] [(.int (tf2_0 (P0 &&& (255 : Int32)))), (.int (tf1_0 (P0 &&& (255 : Int32))))])) _
          refine XS.icmpNo X107.here hx rfl (hb hby at_53) rfl (teq (show (tf1_0 (P0 &&& (255 : Int32))) = (tf2_0 (P0 &&& (255 : Int32))) from (own_same _))).2 ?_
          show Steps p.tables e below (T107.setTop (mkF m 56 #[.val (.int P0), .val (.int P1), .val (.int (P1 &&& (3 : Int32))), .val (.int (P0 &&& (255 : Int32)))] [])) _
          refine XS.iconst X107.here hx rfl (hb hby at_56) ?_
          show Steps p.tables e below (T107.setTop (mkF m 57 #[.val (.int P0), .val (.int P1), .val (.int (P1 &&& (3 : Int32))), .val (.int (P0 &&& (255 : Int32)))] [(.int (1 : Int32))])) _
          refine XS.goto X107.here hx rfl (pc0 := 57) (pc' := 61) rfl (hb hby at_57) (by decide) (by decide) ?_
          exact kt)
      obtain ⟨fs, hr, hrun, hended, hW, hsame⟩ := X107.leave (v := some (.int (1 : Int32))) (fun h => by rw [Bd.returns] at h; cases h)
      refine ⟨_, _, pre108 _ ?_, hrun, hended, _, _, rfl, ?_, ⟨_, rfl⟩, hW, hsame.mono (by decide) (by decide)⟩
      · show Steps p.tables e below (T107.setTop (mkF m 61 #[.val (.int P0), .val (.int P1), .val (.int (P1 &&& (3 : Int32))), .val (.int (P0 &&& (255 : Int32)))] [(.int (1 : Int32))])) _
        exact retN X107 hx (t := .boolean) Bd.returns (by simp) (hb hby at_61) hr
      · show Q0 Z P0 P1 h0 n0 _ T107.heap _
        rw [K107]
        exact ⟨rfl, N107⟩
    · have pre109 : ∀ t, Steps p.tables e below (s₁.setTop (mkF m 29 #[.val (.int P0), .val (.int P1), .val (.int (P1 &&& (3 : Int32))), .unset] [(.int (2 : Int32)), (.int (P1 &&& (3 : Int32)))])) t → Steps p.tables e below (s₁.setTop (entryFrame m #[(.int P0), (.int P1)] maxLocals)) t := fun t kt => pre105 t (by
          show Steps p.tables e below (s₁.setTop (mkF m 15 #[.val (.int P0), .val (.int P1), .val (.int (P1 &&& (3 : Int32))), .unset] [(.int (1 : Int32)), (.int (P1 &&& (3 : Int32)))])) _
          refine XS.icmpYes X0.here hx rfl (pc0 := 15) (pc' := 27) rfl (hb hby at_15) rfl (feq hc15).2 (by decide) (by decide) ?_
          show Steps p.tables e below (s₁.setTop (mkF m 27 #[.val (.int P0), .val (.int P1), .val (.int (P1 &&& (3 : Int32))), .unset] [])) _
          refine XS.iloadN X0.here hx rfl (hb hby at_27) rfl ?_
          show Steps p.tables e below (s₁.setTop (mkF m 28 #[.val (.int P0), .val (.int P1), .val (.int (P1 &&& (3 : Int32))), .unset] [(.int (P1 &&& (3 : Int32)))])) _
          refine XS.iconst X0.here hx rfl (hb hby at_28) ?_
          exact kt)
      by_cases hc29 : (P1 &&& (3 : Int32)) = (2 : Int32)
      · obtain ⟨_, _, ⟨T110, L110, k110, n110⟩, -, X110, ⟨Lc110, hQ110, l110, y110, z110⟩, st110⟩ := Jvm.LawKit.callS X0 hx (y := (⟨"com/example/postil/postil/rdf/NameCharacters", "isStart", "(I)Z"⟩ : MethodName)) hown (mvT hZ (hw _ (List.mem_of_getElem? (i := 1) rfl))) (mvT hZ (hw _ (List.mem_of_getElem? (i := 2) rfl))) (mvT hZ (hw _ (List.mem_of_getElem? (i := 3) rfl))) (mvT hZ (hw _ (List.mem_of_getElem? (i := 4) rfl))) (by decide) (backOf (W := 0) (rm1 l Z a0 hw [] (P0 &&& (65535 : Int32)) h0 n0 Z0 ) hZ (hw _ (List.mem_of_getElem? (i := 4) rfl)) (hw _ (List.mem_of_getElem? (i := 3) rfl)) (by decide) (by decide)) (g := (mkF m 46 #[.val (.int P0), .val (.int P1), .val (.int (P1 &&& (3 : Int32))), .val (.int (P0 &&& (65535 : Int32)))] [(.int (P0 &&& (65535 : Int32)))])) rfl (by rw [hml]; rfl) (argsL := [(.int (P0 &&& (65535 : Int32)))]) (rest := []) (lenOf pd_0_0 rfl) rfl (by show 2 * 0 + _ ≤ _; exact Nat.le_of_eq rfl) (hb hby at_46) (fun _ _ => ⟨rfl, e0, (by decide : 0 + 0 ≤ _), (by decide : 0 + 0 ≤ _)⟩)
        dsimp only [Pt.U, Pt.locs, Pt.cells, Pt.slots] at X110 l110 y110 z110 st110 hQ110
        subst l110 y110 z110
        obtain ⟨rfl, N110q, K110⟩ := hQ110
        have N110 := Fr.app N0 N110q
        obtain ⟨_, _, ⟨T111, L111, k111, n111⟩, -, X111, ⟨Lc111, hQ111, l111, y111, z111⟩, st111⟩ := Jvm.LawKit.callS X110 hx (y := (⟨"com/example/postil/postil/rdf/NameCharactersIsStartPinLaw", "expected", "(I)Z"⟩ : MethodName)) hown (mvT hZ (hw _ (List.mem_of_getElem? (i := 8) rfl))) (mvT hZ (hw _ (List.mem_of_getElem? (i := 9) rfl))) (mvT hZ (hw _ (List.mem_of_getElem? (i := 10) rfl))) (mvT hZ (hw _ (List.mem_of_getElem? (i := 11) rfl))) (by decide) (backOf (W := 1) (rm2 l Z a0 hw [] (P0 &&& (65535 : Int32)) h0 n0 Z0 ) hZ (hw _ (List.mem_of_getElem? (i := 11) rfl)) (hw _ (List.mem_of_getElem? (i := 10) rfl)) (by decide) (by decide)) (g := (mkF m 50 #[.val (.int P0), .val (.int P1), .val (.int (P1 &&& (3 : Int32))), .val (.int (P0 &&& (65535 : Int32)))] [(.int (P0 &&& (65535 : Int32))), (.int (tf1_0 (P0 &&& (65535 : Int32))))])) rfl (by rw [hml]; rfl) (argsL := [(.int (P0 &&& (65535 : Int32)))]) (rest := [(.int (tf1_0 (P0 &&& (65535 : Int32))))]) (lenOf pd_0_0 rfl) rfl (by show 2 * 0 + _ ≤ _; exact Nat.le_of_eq rfl) (hb hby at_50) (fun _ _ => ⟨rfl, K110, (by decide : 0 + 0 ≤ _), (by decide : 0 + 0 ≤ _)⟩)
        dsimp only [Pt.U, Pt.locs, Pt.cells, Pt.slots] at X111 l111 y111 z111 st111 hQ111
        subst l111 y111 z111
        obtain ⟨rfl, N111q, K111⟩ := hQ111
        have N111 := Fr.app N110 N111q
        have pre112 : ∀ t, Steps p.tables e below (T111.setTop (mkF m 61 #[.val (.int P0), .val (.int P1), .val (.int (P1 &&& (3 : Int32))), .val (.int (P0 &&& (65535 : Int32)))] [(.int (1 : Int32))])) t → Steps p.tables e below (s₁.setTop (entryFrame m #[(.int P0), (.int P1)] maxLocals)) t := fun t kt => pre109 t (by
            show Steps p.tables e below (s₁.setTop (mkF m 29 #[.val (.int P0), .val (.int P1), .val (.int (P1 &&& (3 : Int32))), .unset] [(.int (2 : Int32)), (.int (P1 &&& (3 : Int32)))])) _
            refine XS.icmpNo X0.here hx rfl (hb hby at_29) rfl (teq hc29).2 ?_
            show Steps p.tables e below (s₁.setTop (mkF m 32 #[.val (.int P0), .val (.int P1), .val (.int (P1 &&& (3 : Int32))), .unset] [])) _
            refine XS.iloadN X0.here hx rfl (hb hby at_32) rfl ?_
            show Steps p.tables e below (s₁.setTop (mkF m 33 #[.val (.int P0), .val (.int P1), .val (.int (P1 &&& (3 : Int32))), .unset] [(.int P0)])) _
            refine X0.ldcInt hx hown (mvT hZ (hw _ (List.mem_of_getElem? (i := 21) rfl))) (g := (mkF m 33 #[.val (.int P0), .val (.int P1), .val (.int (P1 &&& (3 : Int32))), .unset] [(.int P0)])) rfl (hb hby at_33) _ ?_
            show Steps p.tables e below (s₁.setTop (mkF m 35 #[.val (.int P0), .val (.int P1), .val (.int (P1 &&& (3 : Int32))), .unset] [(.int (65535 : Int32)), (.int P0)])) _
            refine XS.iand X0.here hx rfl (hb hby at_35) rfl ?_
            show Steps p.tables e below (s₁.setTop (mkF m 36 #[.val (.int P0), .val (.int P1), .val (.int (P1 &&& (3 : Int32))), .unset] [(.int (P0 &&& (65535 : Int32)))])) _
            refine XS.istoreN X0.here hx rfl (hb hby at_36) rfl (l' := #[.val (.int P0), .val (.int P1), .val (.int (P1 &&& (3 : Int32))), .val (.int (P0 &&& (65535 : Int32)))]) rfl ?_
            show Steps p.tables e below (s₁.setTop (mkF m 37 #[.val (.int P0), .val (.int P1), .val (.int (P1 &&& (3 : Int32))), .val (.int (P0 &&& (65535 : Int32)))] [])) _
            refine XS.goto X0.here hx rfl (pc0 := 37) (pc' := 45) rfl (hb hby at_37) (by decide) (by decide) ?_
            show Steps p.tables e below (s₁.setTop (mkF m 45 #[.val (.int P0), .val (.int P1), .val (.int (P1 &&& (3 : Int32))), .val (.int (P0 &&& (65535 : Int32)))] [])) _
            refine XS.iloadN X0.here hx rfl (hb hby at_45) rfl ?_
            show Steps p.tables e below (s₁.setTop (mkF m 46 #[.val (.int P0), .val (.int P1), .val (.int (P1 &&& (3 : Int32))), .val (.int (P0 &&& (65535 : Int32)))] [(.int (P0 &&& (65535 : Int32)))])) _
            refine st110 _ ?_
            show Steps p.tables e below (T110.setTop (mkF m 49 #[.val (.int P0), .val (.int P1), .val (.int (P1 &&& (3 : Int32))), .val (.int (P0 &&& (65535 : Int32)))] [(.int (tf1_0 (P0 &&& (65535 : Int32))))])) _
            refine XS.iloadN X110.here hx rfl (hb hby at_49) rfl ?_
            show Steps p.tables e below (T110.setTop (mkF m 50 #[.val (.int P0), .val (.int P1), .val (.int (P1 &&& (3 : Int32))), .val (.int (P0 &&& (65535 : Int32)))] [(.int (P0 &&& (65535 : Int32))), (.int (tf1_0 (P0 &&& (65535 : Int32))))])) _
            refine st111 _ ?_
            show Steps p.tables e below (T111.setTop (mkF m 53 #[.val (.int P0), .val (.int P1), .val (.int (P1 &&& (3 : Int32))), .val (.int (P0 &&& (65535 : Int32)))] [(.int (tf2_0 (P0 &&& (65535 : Int32)))), (.int (tf1_0 (P0 &&& (65535 : Int32))))])) _
            refine XS.icmpNo X111.here hx rfl (hb hby at_53) rfl (teq (show (tf1_0 (P0 &&& (65535 : Int32))) = (tf2_0 (P0 &&& (65535 : Int32))) from (own_same _))).2 ?_
            show Steps p.tables e below (T111.setTop (mkF m 56 #[.val (.int P0), .val (.int P1), .val (.int (P1 &&& (3 : Int32))), .val (.int (P0 &&& (65535 : Int32)))] [])) _
            refine XS.iconst X111.here hx rfl (hb hby at_56) ?_
            show Steps p.tables e below (T111.setTop (mkF m 57 #[.val (.int P0), .val (.int P1), .val (.int (P1 &&& (3 : Int32))), .val (.int (P0 &&& (65535 : Int32)))] [(.int (1 : Int32))])) _
            refine XS.goto X111.here hx rfl (pc0 := 57) (pc' := 61) rfl (hb hby at_57) (by decide) (by decide) ?_
            exact kt)
        obtain ⟨fs, hr, hrun, hended, hW, hsame⟩ := X111.leave (v := some (.int (1 : Int32))) (fun h => by rw [Bd.returns] at h; cases h)
        refine ⟨_, _, pre112 _ ?_, hrun, hended, _, _, rfl, ?_, ⟨_, rfl⟩, hW, hsame.mono (by decide) (by decide)⟩
        · show Steps p.tables e below (T111.setTop (mkF m 61 #[.val (.int P0), .val (.int P1), .val (.int (P1 &&& (3 : Int32))), .val (.int (P0 &&& (65535 : Int32)))] [(.int (1 : Int32))])) _
          exact retN X111 hx (t := .boolean) Bd.returns (by simp) (hb hby at_61) hr
        · show Q0 Z P0 P1 h0 n0 _ T111.heap _
          rw [K111]
          exact ⟨rfl, N111⟩
      · obtain ⟨_, _, ⟨T113, L113, k113, n113⟩, -, X113, ⟨Lc113, hQ113, l113, y113, z113⟩, st113⟩ := Jvm.LawKit.callS X0 hx (y := (⟨"com/example/postil/postil/rdf/NameCharacters", "isStart", "(I)Z"⟩ : MethodName)) hown (mvT hZ (hw _ (List.mem_of_getElem? (i := 1) rfl))) (mvT hZ (hw _ (List.mem_of_getElem? (i := 2) rfl))) (mvT hZ (hw _ (List.mem_of_getElem? (i := 3) rfl))) (mvT hZ (hw _ (List.mem_of_getElem? (i := 4) rfl))) (by decide) (backOf (W := 0) (rm1 l Z a0 hw [] (P0 &&& (1048575 : Int32)) h0 n0 Z0 ) hZ (hw _ (List.mem_of_getElem? (i := 4) rfl)) (hw _ (List.mem_of_getElem? (i := 3) rfl)) (by decide) (by decide)) (g := (mkF m 46 #[.val (.int P0), .val (.int P1), .val (.int (P1 &&& (3 : Int32))), .val (.int (P0 &&& (1048575 : Int32)))] [(.int (P0 &&& (1048575 : Int32)))])) rfl (by rw [hml]; rfl) (argsL := [(.int (P0 &&& (1048575 : Int32)))]) (rest := []) (lenOf pd_0_0 rfl) rfl (by show 2 * 0 + _ ≤ _; exact Nat.le_of_eq rfl) (hb hby at_46) (fun _ _ => ⟨rfl, e0, (by decide : 0 + 0 ≤ _), (by decide : 0 + 0 ≤ _)⟩)
        dsimp only [Pt.U, Pt.locs, Pt.cells, Pt.slots] at X113 l113 y113 z113 st113 hQ113
        subst l113 y113 z113
        obtain ⟨rfl, N113q, K113⟩ := hQ113
        have N113 := Fr.app N0 N113q
        obtain ⟨_, _, ⟨T114, L114, k114, n114⟩, -, X114, ⟨Lc114, hQ114, l114, y114, z114⟩, st114⟩ := Jvm.LawKit.callS X113 hx (y := (⟨"com/example/postil/postil/rdf/NameCharactersIsStartPinLaw", "expected", "(I)Z"⟩ : MethodName)) hown (mvT hZ (hw _ (List.mem_of_getElem? (i := 8) rfl))) (mvT hZ (hw _ (List.mem_of_getElem? (i := 9) rfl))) (mvT hZ (hw _ (List.mem_of_getElem? (i := 10) rfl))) (mvT hZ (hw _ (List.mem_of_getElem? (i := 11) rfl))) (by decide) (backOf (W := 1) (rm2 l Z a0 hw [] (P0 &&& (1048575 : Int32)) h0 n0 Z0 ) hZ (hw _ (List.mem_of_getElem? (i := 11) rfl)) (hw _ (List.mem_of_getElem? (i := 10) rfl)) (by decide) (by decide)) (g := (mkF m 50 #[.val (.int P0), .val (.int P1), .val (.int (P1 &&& (3 : Int32))), .val (.int (P0 &&& (1048575 : Int32)))] [(.int (P0 &&& (1048575 : Int32))), (.int (tf1_0 (P0 &&& (1048575 : Int32))))])) rfl (by rw [hml]; rfl) (argsL := [(.int (P0 &&& (1048575 : Int32)))]) (rest := [(.int (tf1_0 (P0 &&& (1048575 : Int32))))]) (lenOf pd_0_0 rfl) rfl (by show 2 * 0 + _ ≤ _; exact Nat.le_of_eq rfl) (hb hby at_50) (fun _ _ => ⟨rfl, K113, (by decide : 0 + 0 ≤ _), (by decide : 0 + 0 ≤ _)⟩)
        dsimp only [Pt.U, Pt.locs, Pt.cells, Pt.slots] at X114 l114 y114 z114 st114 hQ114
        subst l114 y114 z114
        obtain ⟨rfl, N114q, K114⟩ := hQ114
        have N114 := Fr.app N113 N114q
        have pre115 : ∀ t, Steps p.tables e below (T114.setTop (mkF m 61 #[.val (.int P0), .val (.int P1), .val (.int (P1 &&& (3 : Int32))), .val (.int (P0 &&& (1048575 : Int32)))] [(.int (1 : Int32))])) t → Steps p.tables e below (s₁.setTop (entryFrame m #[(.int P0), (.int P1)] maxLocals)) t := fun t kt => pre109 t (by
            show Steps p.tables e below (s₁.setTop (mkF m 29 #[.val (.int P0), .val (.int P1), .val (.int (P1 &&& (3 : Int32))), .unset] [(.int (2 : Int32)), (.int (P1 &&& (3 : Int32)))])) _
            refine XS.icmpYes X0.here hx rfl (pc0 := 29) (pc' := 40) rfl (hb hby at_29) rfl (feq hc29).2 (by decide) (by decide) ?_
            show Steps p.tables e below (s₁.setTop (mkF m 40 #[.val (.int P0), .val (.int P1), .val (.int (P1 &&& (3 : Int32))), .unset] [])) _
            refine XS.iloadN X0.here hx rfl (hb hby at_40) rfl ?_
            show Steps p.tables e below (s₁.setTop (mkF m 41 #[.val (.int P0), .val (.int P1), .val (.int (P1 &&& (3 : Int32))), .unset] [(.int P0)])) _
            refine X0.ldcInt hx hown (mvT hZ (hw _ (List.mem_of_getElem? (i := 0) rfl))) (g := (mkF m 41 #[.val (.int P0), .val (.int P1), .val (.int (P1 &&& (3 : Int32))), .unset] [(.int P0)])) rfl (hb hby at_41) _ ?_
            show Steps p.tables e below (s₁.setTop (mkF m 43 #[.val (.int P0), .val (.int P1), .val (.int (P1 &&& (3 : Int32))), .unset] [(.int (1048575 : Int32)), (.int P0)])) _
            refine XS.iand X0.here hx rfl (hb hby at_43) rfl ?_
            show Steps p.tables e below (s₁.setTop (mkF m 44 #[.val (.int P0), .val (.int P1), .val (.int (P1 &&& (3 : Int32))), .unset] [(.int (P0 &&& (1048575 : Int32)))])) _
            refine XS.istoreN X0.here hx rfl (hb hby at_44) rfl (l' := #[.val (.int P0), .val (.int P1), .val (.int (P1 &&& (3 : Int32))), .val (.int (P0 &&& (1048575 : Int32)))]) rfl ?_
            show Steps p.tables e below (s₁.setTop (mkF m 45 #[.val (.int P0), .val (.int P1), .val (.int (P1 &&& (3 : Int32))), .val (.int (P0 &&& (1048575 : Int32)))] [])) _
            refine XS.iloadN X0.here hx rfl (hb hby at_45) rfl ?_
            show Steps p.tables e below (s₁.setTop (mkF m 46 #[.val (.int P0), .val (.int P1), .val (.int (P1 &&& (3 : Int32))), .val (.int (P0 &&& (1048575 : Int32)))] [(.int (P0 &&& (1048575 : Int32)))])) _
            refine st113 _ ?_
            show Steps p.tables e below (T113.setTop (mkF m 49 #[.val (.int P0), .val (.int P1), .val (.int (P1 &&& (3 : Int32))), .val (.int (P0 &&& (1048575 : Int32)))] [(.int (tf1_0 (P0 &&& (1048575 : Int32))))])) _
            refine XS.iloadN X113.here hx rfl (hb hby at_49) rfl ?_
            show Steps p.tables e below (T113.setTop (mkF m 50 #[.val (.int P0), .val (.int P1), .val (.int (P1 &&& (3 : Int32))), .val (.int (P0 &&& (1048575 : Int32)))] [(.int (P0 &&& (1048575 : Int32))), (.int (tf1_0 (P0 &&& (1048575 : Int32))))])) _
            refine st114 _ ?_
            show Steps p.tables e below (T114.setTop (mkF m 53 #[.val (.int P0), .val (.int P1), .val (.int (P1 &&& (3 : Int32))), .val (.int (P0 &&& (1048575 : Int32)))] [(.int (tf2_0 (P0 &&& (1048575 : Int32)))), (.int (tf1_0 (P0 &&& (1048575 : Int32))))])) _
            refine XS.icmpNo X114.here hx rfl (hb hby at_53) rfl (teq (show (tf1_0 (P0 &&& (1048575 : Int32))) = (tf2_0 (P0 &&& (1048575 : Int32))) from (own_same _))).2 ?_
            show Steps p.tables e below (T114.setTop (mkF m 56 #[.val (.int P0), .val (.int P1), .val (.int (P1 &&& (3 : Int32))), .val (.int (P0 &&& (1048575 : Int32)))] [])) _
            refine XS.iconst X114.here hx rfl (hb hby at_56) ?_
            show Steps p.tables e below (T114.setTop (mkF m 57 #[.val (.int P0), .val (.int P1), .val (.int (P1 &&& (3 : Int32))), .val (.int (P0 &&& (1048575 : Int32)))] [(.int (1 : Int32))])) _
            refine XS.goto X114.here hx rfl (pc0 := 57) (pc' := 61) rfl (hb hby at_57) (by decide) (by decide) ?_
            exact kt)
        obtain ⟨fs, hr, hrun, hended, hW, hsame⟩ := X114.leave (v := some (.int (1 : Int32))) (fun h => by rw [Bd.returns] at h; cases h)
        refine ⟨_, _, pre115 _ ?_, hrun, hended, _, _, rfl, ?_, ⟨_, rfl⟩, hW, hsame.mono (by decide) (by decide)⟩
        · show Steps p.tables e below (T114.setTop (mkF m 61 #[.val (.int P0), .val (.int P1), .val (.int (P1 &&& (3 : Int32))), .val (.int (P0 &&& (1048575 : Int32)))] [(.int (1 : Int32))])) _
          exact retN X114 hx (t := .boolean) Bd.returns (by simp) (hb hby at_61) hr
        · show Q0 Z P0 P1 h0 n0 _ T114.heap _
          rw [K114]
          exact ⟨rfl, N114⟩
set_option maxRecDepth 65536 in
set_option maxHeartbeats 40000000 in
theorem comes_1 {Post : Tables → Env → Array Value → State → Outcome → State → Prop} (hpost : ∀ tb e args s v u, (limb_1_1.after args s (.returned v) u = true ∧ limb_1_2.after args s (.returned v) u = true ∧ True) → FrameEnd s (.returned v) u (Jvm.fieldLocs frame_1_writes args s ++ Jvm.arrayLocs frame_1_arrays args s ++ Jvm.staticLocs frame_1_statics s) 0 0 → Post tb e args s (.returned v) u) :
    ArmFor flags0 classFile x code maxLocals ret World_1 tables_1 room_1 Calls_1 rest_1 Pre_1 Post := by
  intro l hfl _ _ p e ha hc hk s m args below hf hA hF happ hP
  obtain ⟨hcalls, hrest, hpre⟩ := hP
  obtain ⟨-, -, -, hnamed, -, -, -, hat⟩ := (Spec.applies_iff hf).mp happ
  obtain ⟨hg, hn⟩ := and_e (Cond.before_iff.mp (show (Jvm.Cond.and given_1 narrow_1).before args s = true from hpre))
  obtain ⟨gv1, gv2⟩ := and_e hg
  obtain ⟨gv3, gv4⟩ := and_e gv2
  obtain ⟨w0, w1, rfl⟩ : ∃ w0 w1 : Value, args = #[w0, w1] := by
    have hs : args.size = 2 := by simpa [Cond.value, given_1] using gv1
    obtain ⟨L⟩ := args
    match L, hs with
    | [w0, w1], _ => exact ⟨w0, w1, rfl⟩
  have hw := fun d (hd : d ∈ tables_1) => atoms_spec (ws := Jvm.Cond.code x code maxLocals ret :: tables_1) hat d (List.mem_cons_of_mem _ hd)
  have hfit : Fit s := fun {y c} hc i hi => by
    obtain ⟨ha, rfl⟩ := Array.getElem?_eq_some_iff.mp hc
    have q := List.all_eq_true.mp ((Array.all_eq_true_iff_forall_mem.mp hF) _ (Array.getElem_mem ha)) i (List.mem_range.mpr hi)
    simpa [Array.getElem?_eq_getElem hi] using q
  obtain ⟨i0, ei0⟩ := is_v gv3
  obtain rfl : w0 = (.int i0) := Option.some.inj ei0
  obtain ⟨i1, ei1⟩ := is_v gv4
  obtain rfl : w1 = (.int i1) := Option.some.inj ei1
  obtain ⟨n, o, h1, h2, h3, _, L, rfl, ⟨rfl, N⟩, hq⟩ := rm0 l s _ hw tables_1 i0 i1  s.heap s.heap.size (Nat.le_refl _)  p e ha hc hk s m _ below hf ((Spec.applies_iff_loose hf).mp happ).1 ⟨rfl, State.Warmed39.refl s, rfl⟩ trivial
  refine ⟨n, _, h1, h2, h3, hpost _ _ _ _ _ _ ⟨Cond.after_iff.mpr rfl, Cond.after_iff.mpr (eq_i res_at (Term.int_eval (1)) rfl), trivial⟩ ⟨hq.1, hq.2.1, (hq.2.2.sift fun y hy => Or.inr (N y hy)).mono (by decide) (by decide)⟩⟩
theorem main_1_1 : Claimed_1_1 := comes_1 fun _ _ _ _ _ _ h hF => ⟨h.1, hF⟩
theorem main_1_2 : Claimed_1_2 := comes_1 fun _ _ _ _ _ _ h hF => ⟨h.2.1, hF⟩
end Jvm.Pilot.@@N@@
namespace Jvm.Pilot.@@N@@
open Jvm Jvm.ClassFile Sem Op Lib Jvm.Free Jvm.Stand Jvm.Pilot.@@N@@.Jvm.D
/-! MADE BY PROGRAM (witnessworld.py) out of the Statement's table words and the real class files: 9 classes; the members and pool entries that the words name. The judged class is class 1, her method 3. -/
namespace start1
open Jvm.ClassFile
def u (s : String) : CpInfo := .utf8 (stringToUtf16 s)
/-- a pool by its gaps: so many unusable entries, then the entry; so many at the end -/
def gap : Nat → List CpInfo → List CpInfo
  | 0, r => r
  | n + 1, r => .unusable :: gap n r
def poolList (es : List (Nat × CpInfo)) (last : Nat) : List CpInfo := es.foldr (fun e r => gap e.1 (e.2 :: r)) (gap last [])
def pool (es : List (Nat × CpInfo)) (last : Nat) : Array CpInfo := ⟨poolList es last⟩
def fileOf (pool : Array CpInfo) (this : Nat) (attrs : Array Attribute := #[]) (ms : Array MethodInfo := #[]) (fl : Nat := 33) (sup : Nat := 0) (ifs : Array Nat := #[]) (fds : Array FieldInfo := #[]) : ClassFile where
  minorVersion := 0
  majorVersion := 65
  constantPool := pool
  accessFlags := fl
  thisClass := this
  superClass := sup
  interfaces := ifs
  fields := fds
  methods := ms
  attributes := attrs
def plain (name : String) (sup : Option ClassId) : Class where
  name := name
  kind := .ordinary
  loader := none
  accessFlags := 33
  super := sup
  interfaces := #[]
  cf := none
  fields := #[]
  methods := #[]
  instanceTypes := #[]
  staticTypes := #[]
  resolved := #[]
  callSites := []
  init := .initialized
  statics := none
  mirror := none

def pool0 : Array CpInfo := pool [(5, u "<init>"), (0, u "()V"), (1, .class_ 10), (1, u "java/lang/Object")] 113

def k0m0 : Method := { name := "<init>", desc := "()V", sig := { parameters := [], returnType := none }, accessFlags := 1, code := none }
/-- java/lang/Object -/
def k0 : Class := { plain "java/lang/Object" none with
  accessFlags := 33
  interfaces := #[]
  cf := some (fileOf pool0 8 #[] #[{ accessFlags := 1, nameIndex := 5, descriptorIndex := 6, attributes := #[] }] 33 0 #[] #[])
  fields := #[]
  methods := #[k0m0]
  instanceTypes := #[]
  staticTypes := #[]
  resolved := Array.replicate 124 none
  statics := none }

def pool1 : Array CpInfo := pool [(2, .class_ 4), (1, u "java/lang/Object"), (0, u "<init>"), (0, u "()V"), (0, .integer 983039), (0, .methodref 9 10), (0, .class_ 11), (0, .nameAndType 12 13), (0, u "com/example/postil/postil/rdf/NameCharactersIsStartPinLaw"), (0, u "in"), (0, u "(III)Z"), (0, .integer 55296), (0, .integer 63743), (0, .integer 64976), (0, .integer 65007), (0, .integer 65534), (0, .integer 65535), (0, .integer 1048575), (0, .methodref 22 23), (0, .class_ 24), (0, .nameAndType 25 26), (0, u "com/example/postil/postil/rdf/NameCharacters"), (0, u "isStart"), (0, u "(I)Z"), (0, .methodref 9 28), (0, .nameAndType 29 26), (0, u "expected"), (3, u "law"), (0, u "(II)Z")] 2

def k1m0 : Method := { name := "<init>", desc := "()V", sig := { parameters := [], returnType := none }, accessFlags := 2, code := none }
def k1c1 : Code := { maxStack := 2, maxLocals := 3, code := method_2_code, exceptionTable := #[], attributes := #[] }
def k1m1 : Method := { name := "in", desc := "(III)Z", sig := { parameters := [.int, .int, .int], returnType := some .boolean }, accessFlags := 10, code := some k1c1 }
def k1c2 : Code := { maxStack := 3, maxLocals := 2, code := method_3_code, exceptionTable := #[], attributes := #[] }
def k1m2 : Method := { name := "expected", desc := "(I)Z", sig := { parameters := [.int], returnType := some .boolean }, accessFlags := 10, code := some k1c2 }
def k1c3 : Code := { maxStack := 2, maxLocals := 4, code := code, exceptionTable := #[], attributes := #[] }
def k1m3 : Method := { name := "law", desc := "(II)Z", sig := { parameters := [.int, .int], returnType := some .boolean }, accessFlags := 9, code := some k1c3 }
/-- com/example/postil/postil/rdf/NameCharactersIsStartPinLaw -/
def k1 : Class := { plain "com/example/postil/postil/rdf/NameCharactersIsStartPinLaw" (some 0) with
  accessFlags := 49
  interfaces := #[]
  cf := some (fileOf pool1 9 #[] #[{ accessFlags := 2, nameIndex := 5, descriptorIndex := 6, attributes := #[] }, { accessFlags := 10, nameIndex := 12, descriptorIndex := 13, attributes := #[] }, { accessFlags := 10, nameIndex := 29, descriptorIndex := 26, attributes := #[] }, { accessFlags := 9, nameIndex := 33, descriptorIndex := 34, attributes := #[] }] 49 2 #[] #[])
  fields := #[]
  methods := #[k1m0, k1m1, k1m2, k1m3]
  instanceTypes := #[]
  staticTypes := #[]
  resolved := Array.replicate 37 none
  statics := none }

def pool2 : Array CpInfo := pool [(2, .class_ 4), (1, u "java/lang/Object"), (0, u "<init>"), (0, u "()V"), (13, .class_ 22), (1, u "com/example/postil/postil/rdf/NameCharacters"), (0, u "isStart"), (0, u "(I)Z"), (14, .integer 55295), (0, .integer 63744), (0, .integer 64975), (0, .integer 65008), (0, .integer 65533), (0, .integer 65536), (0, .integer 983039)] 6

def k2m0 : Method := { name := "<init>", desc := "()V", sig := { parameters := [], returnType := none }, accessFlags := 2, code := none }
def k2c1 : Code := { maxStack := 2, maxLocals := 1, code := prog_162_method_3_code, exceptionTable := #[], attributes := #[] }
def k2m1 : Method := { name := "isStart", desc := "(I)Z", sig := { parameters := [.int], returnType := some .boolean }, accessFlags := 9, code := some k2c1 }
/-- com/example/postil/postil/rdf/NameCharacters -/
def k2 : Class := { plain "com/example/postil/postil/rdf/NameCharacters" (some 0) with
  accessFlags := 49
  interfaces := #[]
  cf := some (fileOf pool2 20 #[] #[{ accessFlags := 2, nameIndex := 5, descriptorIndex := 6, attributes := #[] }, { accessFlags := 9, nameIndex := 23, descriptorIndex := 24, attributes := #[] }] 49 2 #[] #[])
  fields := #[]
  methods := #[k2m0, k2m1]
  instanceTypes := #[]
  staticTypes := #[]
  resolved := Array.replicate 52 none
  statics := none }

def pool3 : Array CpInfo := pool [(1, u "java/lang/Cloneable"), (0, .class_ 1), (0, u "java/lang/Object"), (0, .class_ 3)] 3

/-- java/lang/Cloneable -/
def k3 : Class := { plain "java/lang/Cloneable" (some 0) with
  accessFlags := 1537
  interfaces := #[]
  cf := some (fileOf pool3 2 #[] #[] 1537 4 #[] #[])
  fields := #[]
  methods := #[]
  instanceTypes := #[]
  staticTypes := #[]
  resolved := Array.replicate 8 none
  statics := none }

def pool4 : Array CpInfo := pool [(1, u "java/io/Serializable"), (0, .class_ 1), (0, u "java/lang/Object"), (0, .class_ 3)] 3

/-- java/io/Serializable -/
def k4 : Class := { plain "java/io/Serializable" (some 0) with
  accessFlags := 1537
  interfaces := #[]
  cf := some (fileOf pool4 2 #[] #[] 1537 4 #[] #[])
  fields := #[]
  methods := #[]
  instanceTypes := #[]
  staticTypes := #[]
  resolved := Array.replicate 8 none
  statics := none }

/-- the primitive byte -/
def k5 : Class := { plain "byte" none with kind := .primitive 'B', accessFlags := 0x411 }
/-- [B -/
def k6 : Class := { plain "[B" (some 0) with kind := .array 5 .byte, interfaces := #[3, 4], accessFlags := 1041 }

/-- the primitive int -/
def k7 : Class := { plain "int" none with kind := .primitive 'I', accessFlags := 0x411 }
/-- [I -/
def k8 : Class := { plain "[I" (some 0) with kind := .array 7 .int, interfaces := #[3, 4], accessFlags := 1041 }

def heap : Heap := #[]
def classes : Array Class := #[k0, k1, k2, k3, k4, k5, k6, k7, k8]
def interned : List (Array UInt16 × Addr) := []
def slotsUsed : Nat := 0
def theMethod : MethodId := ⟨1, 3⟩
def args0 : Array Value := #[.int 65, .int 1]
def aboutOver (below : List Frame) : State where
  vm := { classes := classes, interned := interned.toArray }
  heap := heap
  slotsUsed := slotsUsed
  threads := #[{ frames := .invoking theMethod args0 :: below }]
def below0 : List Frame := [.native { method := ⟨0, 0⟩, args := #[] }]
def about1 : State := aboutOver below0
def p0 : Program := .bare "" "" ""
def e0 : Env := launch0.env 0 0 0
theorem w_frames : about1.frames = Frame.invoking theMethod args0 :: below0 := rfl
set_option maxRecDepth 65536 in
theorem w_args : argsFit about1.vm theMethod args0 = true := by decide +kernel
set_option maxRecDepth 65536 in
theorem w_heap : heapFits about1 = true := by decide +kernel
set_option maxRecDepth 65536 in
theorem w_runnable : about1.curStatus? = some .runnable := by decide +kernel
set_option maxRecDepth 65536 in
theorem w_alone : about1.alone = true := by decide +kernel
set_option maxRecDepth 65536 in
theorem w_named : about1.methodNamed? x = some theMethod := by decide +kernel
set_option maxRecDepth 65536 in
theorem w_hears : about1.hears theMethod below0 = true := by decide +kernel
set_option maxRecDepth 65536 in
theorem w_ripe : about1.ripe theMethod args0 below0 = true := by decide +kernel
theorem w_running : about1.status = .running := rfl
set_option maxRecDepth 65536 in
theorem w_room : about1.hasRoom e0.platform room_1 = true :=
  launch0.hasRoom_least _ room_1 (by decide +kernel) (by decide +kernel) (by decide +kernel) (by decide +kernel) (by decide +kernel) (by decide +kernel)
theorem allAtoms_all (ts : List Jvm.Cond) (a : Array Jvm.Value) (st : Jvm.State) : (allAtoms ts).before a st = ts.all (fun c => c.before a st) := by
  induction ts with
  | nil => rfl
  | cons c t ih =>
    show (Jvm.Cond.and c (allAtoms t)).before a st = _
    rw [Jvm.Cond.before_and, ih, List.all_cons]
def words1 : List Jvm.Cond := Jvm.Cond.code x code maxLocals ret :: tables_1
/-- a 'code' word, met by the world's own term for the bytes: nothing is compared byte by byte -/
theorem code_word {y : MethodName} {bytes : ByteArray} {mx : Nat} {rt : Option FieldType} {a : Array Value} {s : State} {m : MethodId} {meth : Method} {c : Code} (h1 : s.methodNamed? y = some m) (h2 : s.vm.method? m = some meth) (h3 : meth.code = some c) (h4 : c.code = bytes)
    (h5 : (c.maxLocals == mx && c.exceptionTable.isEmpty && decide (c.maxStack ≤ mostOperands) && decide (meth.sig.returnType = rt) && !meth.locks && decide (parseMethodDescriptor y.desc = some meth.sig)) = true) : (Jvm.Cond.code y bytes mx rt).before a s = true := by
  simp only [Bool.and_eq_true, beq_iff_eq, Bool.not_eq_true', decide_eq_true_eq] at h5
  obtain ⟨⟨⟨⟨⟨g1, g2⟩, g3⟩, g4⟩, g5⟩, g6⟩ := h5
  simp [Cond.before, Cond.holds, Cond.value, h1, h2, h3, h4, g1, g2, g3, g4, g5, g6]
def isCode : Jvm.Cond → Bool
  | .code _ _ _ _ => true
  | _ => false
theorem all_split {L : List Jvm.Cond} {P : Jvm.Cond → Bool} (h1 : L.all (fun c => isCode c || P c) = true) (h2 : ∀ c ∈ L.filter isCode, P c = true) : L.all P = true := by
  refine List.all_eq_true.mpr fun c hc => ?_
  have h := List.all_eq_true.mp h1 c hc
  rcases Bool.eq_false_or_eq_true (isCode c) with hi | hi
  · exact h2 c (List.mem_filter.mpr ⟨hc, hi⟩)
  · simpa [hi] using h
set_option maxRecDepth 65536 in
theorem w_c0 : (Jvm.Cond.code x code maxLocals ret).before args0 about1 = true := code_word (m := ⟨1, 3⟩) (meth := k1m3) (c := k1c3) (by decide +kernel) rfl rfl rfl (by decide +kernel)
set_option maxRecDepth 65536 in
theorem w_c1 : (Jvm.Cond.code ({ cls := "com/example/postil/postil/rdf/NameCharacters", name := "isStart", desc := "(I)Z" } : Jvm.MethodName) prog_162_method_3_code (1 : Nat) (Option.some Jvm.ClassFile.FieldType.boolean)).before args0 about1 = true := code_word (m := ⟨2, 1⟩) (meth := k2m1) (c := k2c1) (by decide +kernel) rfl rfl rfl (by decide +kernel)
set_option maxRecDepth 65536 in
theorem w_c2 : (Jvm.Cond.code ({ cls := "com/example/postil/postil/rdf/NameCharactersIsStartPinLaw", name := "expected", desc := "(I)Z" } : Jvm.MethodName) method_3_code (2 : Nat) (Option.some Jvm.ClassFile.FieldType.boolean)).before args0 about1 = true := code_word (m := ⟨1, 2⟩) (meth := k1m2) (c := k1c2) (by decide +kernel) rfl rfl rfl (by decide +kernel)
set_option maxRecDepth 65536 in
theorem w_c3 : (Jvm.Cond.code ({ cls := "com/example/postil/postil/rdf/NameCharactersIsStartPinLaw", name := "in", desc := "(III)Z" } : Jvm.MethodName) method_2_code (3 : Nat) (Option.some Jvm.ClassFile.FieldType.boolean)).before args0 about1 = true := code_word (m := ⟨1, 1⟩) (meth := k1m1) (c := k1c1) (by decide +kernel) rfl rfl rfl (by decide +kernel)
def codes1 : List Jvm.Cond := [Jvm.Cond.code x code maxLocals ret, Jvm.Cond.code ({ cls := "com/example/postil/postil/rdf/NameCharacters", name := "isStart", desc := "(I)Z" } : Jvm.MethodName) prog_162_method_3_code (1 : Nat) (Option.some Jvm.ClassFile.FieldType.boolean), Jvm.Cond.code ({ cls := "com/example/postil/postil/rdf/NameCharactersIsStartPinLaw", name := "expected", desc := "(I)Z" } : Jvm.MethodName) method_3_code (2 : Nat) (Option.some Jvm.ClassFile.FieldType.boolean), Jvm.Cond.code ({ cls := "com/example/postil/postil/rdf/NameCharactersIsStartPinLaw", name := "in", desc := "(III)Z" } : Jvm.MethodName) method_2_code (3 : Nat) (Option.some Jvm.ClassFile.FieldType.boolean)]
set_option maxRecDepth 65536 in
theorem codes_eq : words1.filter isCode = codes1 := rfl
theorem w_codes : ∀ c ∈ words1.filter isCode, c.before args0 about1 = true := by
  rw [codes_eq]
  intro c hc
  simp only [codes1, List.mem_cons, List.not_mem_nil, or_false] at hc
  rcases hc with rfl | rfl | rfl | rfl
  · exact w_c0
  · exact w_c1
  · exact w_c2
  · exact w_c3
set_option maxRecDepth 65536 in
theorem w_t1 : (words1.take 24).all (fun c => isCode c || c.before args0 about1) = true := by decide +kernel
set_option maxRecDepth 65536 in
theorem w_t2 : (words1.drop 24).all (fun c => isCode c || c.before args0 about1) = true := by decide +kernel
theorem w_tables : (allAtoms (Jvm.Cond.code x code maxLocals ret :: tables_1)).before args0 about1 = true := by
  rw [allAtoms_all]
  show words1.all (fun c => c.before args0 about1) = true
  refine all_split ?_ w_codes
  rw [← List.take_append_drop 24 words1, List.all_append, w_t1, w_t2]
  rfl
set_option maxRecDepth 65536 in
theorem w_case : (Jvm.Cond.and given_1 narrow_1).before args0 about1 = true := by decide +kernel
theorem w_applies : (headSpec (Jvm.Cond.code x code maxLocals ret :: tables_1) room_1).applies x e0.platform about1 = true :=
  (Spec.applies_iff w_frames).mpr ⟨w_running, w_runnable, w_alone, w_named, w_hears, w_ripe, w_room, w_tables⟩
theorem atStart : AtStart classFile x code maxLocals ret World_1 tables_1 room_1 Calls_1 rest_1 Pre_1 launch0 p0 e0 about1 theMethod args0 below0 :=
  ⟨lists_1, trivial, launch0.admits_env _ _ _, launch0.least_env, fairChoices_fair.cas, fairChoices_fair.clock, w_frames, w_args, w_heap, w_applies, trivial, trivial, w_case⟩
end start1
theorem witness_1 : WitnessClaimed_1 := ⟨start1.p0, start1.e0, start1.about1, start1.theMethod, start1.args0, start1.below0, start1.atStart⟩
end Jvm.Pilot.@@N@@
