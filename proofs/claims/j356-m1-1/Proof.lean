import JvmDerived
import JvmDerived.Pilot.@@N@@Statement
import JvmDerived.Pilot.@@N@@Code
set_option linter.unusedVariables false
set_option linter.unusedSimpArgs false
namespace Jvm.RoadKit
open Sem ClassFile Op Lib Jvm.Stand Jvm.Free Jvm.LawKit
section New
variable {p : Program} {l : Launch} {e : Env} {R : Room} {s : State} {m : MethodId} {args : Array Value} {below : List Frame} {meth : Method} {c : Code} {T : State} {locs : List Loc} {cells slots : Nat}
theorem retI (X : Stand p l e R s m args below meth c T locs cells slots) (hx : p.tables.exec = Jvm.exec) {pc : Nat} {Ls : Array Slot} {z : Int32} {rest : List Value} (hret : meth.sig.returnType = some .int) (hd : decode c.code pc = .ok (.ireturn, 1)) {fs : List Frame}
    (hl : ∀ (f : JFrame) (acts : List Action), f.method = m → f.locked = none → f.entered = [] → (doReturn e (T.setTop f) acts (some (.int z))).1 = T.setFrames fs) : Steps p.tables e below (T.setTop (mkF m pc Ls (.int z :: rest))) (T.setFrames fs) := by
  have hm' : T.vm.method? m = some meth := X.method'
  have hn : narrow .int (.int z) = .int z := rfl
  show Steps p.tables e below (T.setTop { method := m, pc := pc, locals := Ls, stack := _ :: rest, locked := none }) _
  jvm_step X.here [X.here.top, hx, hd, hm', hret, hn]
  first | (intro acts; rw [hl _ acts rfl rfl rfl]) | rw [hl _ _ rfl rfl rfl]
  exact Steps.refl _
end New
end Jvm.RoadKit
namespace Jvm.Pilot.@@N@@
open Jvm Jvm.ClassFile Sem Op Lib Jvm.Free Jvm.Stand Jvm.LawKit Jvm.RoadKit Bundle Jvm.Pilot.@@N@@.Jvm.D
def own_fd (x y : Int64) : Int64 := if (x ^^^ y) < (0 : Int64) then (if ((x / y) * y) = x then (x / y) else ((x / y) - (1 : Int64))) else (x / y)
def own_f1 (x : Int64) : Int64 := if (x - (x / (1000 : Int64)) * (1000 : Int64)) = (0 : Int64) then (x / (1000 : Int64)) else (if x < (0 : Int64) then ((x / (1000 : Int64)) - (1 : Int64)) else (x / (1000 : Int64)))
theorem d7_0 : decode jdk_29_method_49_code 0 = .ok (.lload_n 0, 1) := by decide +kernel
theorem d7_1 : decode jdk_29_method_49_code 1 = .ok (.lload_n 2, 1) := by decide +kernel
theorem d7_2 : decode jdk_29_method_49_code 2 = .ok (.ldiv, 1) := by decide +kernel
theorem d7_3 : decode jdk_29_method_49_code 3 = .ok (.lstore 4, 2) := by decide +kernel
theorem d7_5 : decode jdk_29_method_49_code 5 = .ok (.lload_n 0, 1) := by decide +kernel
theorem d7_6 : decode jdk_29_method_49_code 6 = .ok (.lload_n 2, 1) := by decide +kernel
theorem d7_7 : decode jdk_29_method_49_code 7 = .ok (.lxor, 1) := by decide +kernel
theorem d7_8 : decode jdk_29_method_49_code 8 = .ok (.lconst 0, 1) := by decide +kernel
theorem d7_9 : decode jdk_29_method_49_code 9 = .ok (.lcmp, 1) := by decide +kernel
theorem d7_10 : decode jdk_29_method_49_code 10 = .ok (.ifCond .ge 17, 3) := by decide +kernel
theorem d7_13 : decode jdk_29_method_49_code 13 = .ok (.lload 4, 2) := by decide +kernel
theorem d7_15 : decode jdk_29_method_49_code 15 = .ok (.lload_n 2, 1) := by decide +kernel
theorem d7_16 : decode jdk_29_method_49_code 16 = .ok (.lmul, 1) := by decide +kernel
theorem d7_17 : decode jdk_29_method_49_code 17 = .ok (.lload_n 0, 1) := by decide +kernel
theorem d7_18 : decode jdk_29_method_49_code 18 = .ok (.lcmp, 1) := by decide +kernel
theorem d7_19 : decode jdk_29_method_49_code 19 = .ok (.ifCond .eq 8, 3) := by decide +kernel
theorem d7_22 : decode jdk_29_method_49_code 22 = .ok (.lload 4, 2) := by decide +kernel
theorem d7_24 : decode jdk_29_method_49_code 24 = .ok (.lconst 1, 1) := by decide +kernel
theorem d7_25 : decode jdk_29_method_49_code 25 = .ok (.lsub, 1) := by decide +kernel
theorem d7_26 : decode jdk_29_method_49_code 26 = .ok (.lreturn, 1) := by decide +kernel
theorem d7_27 : decode jdk_29_method_49_code 27 = .ok (.lload 4, 2) := by decide +kernel
theorem d7_29 : decode jdk_29_method_49_code 29 = .ok (.lreturn, 1) := by decide +kernel
theorem ef_7 (m : MethodId) (P0 : Int64) (P1 : Int64) : entryFrame m #[(.long P0), (.long P1)] 6 = mkF m 0 #[.val (.long P0), .second, .val (.long P1), .second, .unset, .unset] [] := by first | (simp [entryFrame, mkF, argsToLocals, Value.category]; done) | rfl
def Q7 (Z : State) (P0 : Int64) (P1 : Int64) (h0 : Heap) (n0 : Nat) (v : Option Value) (h : Heap) (L : List Loc) : Prop := (v = some (.long (own_fd P0 P1))) ∧ (Fr n0 L) ∧ (h = h0)
set_option maxRecDepth 65536 in
set_option maxHeartbeats 40000000 in
theorem rm7 (l : Launch) (Z : State) (a0 : Array Value) (hw : ∀ d ∈ tables_1, d.before a0 Z = true) (ws : List Jvm.Cond) (P0 : Int64) (P1 : Int64) (h0 : Heap) (n0 : Nat) (Z0 : n0 ≤ h0.size) (hy : P1 ≠ (0 : Int64)) :
    MetFree l (⟨"java/lang/Math", "floorDiv", "(JJ)J"⟩ : MethodName) (head1 (Jvm.Cond.code (⟨"java/lang/Math", "floorDiv", "(JJ)J"⟩ : MethodName) jdk_29_method_49_code 6 (some .long) :: ws) ({ frames := 0, cells := 0, slots := 0, locals := 0 } : Room)) (fun a U => a = #[(.long P0), (.long P1)] ∧ Z.Warmed39 U.vm ∧ U.heap = h0) (fun _ _ _ _ _ => True) (fun _ U o U' => ∃ v L, o = .returned v ∧ Q7 Z P0 P1 h0 n0 v U'.heap L ∧ FrameEnd U o U' L ({ frames := 0, cells := 0, slots := 0, locals := 0 } : Room).cells ({ frames := 0, cells := 0, slots := 0, locals := 0 } : Room).slots) := by
  refine MetFree.of_bodySF (Jvm.Free.JP.mathPlain rfl (by decide +kernel)) hisR ?_
  intro p e s m args below meth c s₁ Bd hml0 hP hK
  obtain ⟨rfl, hZ, hh⟩ := hP
  have hx := Bd.exec
  have hby := Bd.bytes
  have hml : c.maxLocals = 6 := hml0
  have hown : s.vm.findClass "java/lang/Math" = some m.cls := findClass_of_methodNamed Bd.named
  have hnm := (name_of_methodNamed Bd.named Bd.method).1
  have X0 : Stand p l e ({ frames := 0, cells := 0, slots := 0, locals := 0 } : Room) s m #[(.long P0), (.long P1)] below meth c s₁ [] 0 0 := Stand.of_body Bd
  have e0 : s₁.heap = h0 := by rw [← hh, Bd.state]; rfl
  have N0 := Fr.nil n0
  have pre0 : ∀ t, Steps p.tables e below (s₁.setTop (mkF m 0 #[.val (.long P0), .second, .val (.long P1), .second, .unset, .unset] [])) t → Steps p.tables e below (s₁.setTop (entryFrame m #[(.long P0), (.long P1)] 6)) t := fun t k => castTop (ef_7 m P0 P1) k
  have pre101 : ∀ t, Steps p.tables e below (s₁.setTop (mkF m 10 #[.val (.long P0), .second, .val (.long P1), .second, .val (.long (P0 / P1)), .second] [(.int (lcmpW (P0 ^^^ P1) (0 : Int64)))])) t → Steps p.tables e below (s₁.setTop (entryFrame m #[(.long P0), (.long P1)] 6)) t := fun t kt => pre0 t (by
      show Steps p.tables e below (s₁.setTop (mkF m 0 #[.val (.long P0), .second, .val (.long P1), .second, .unset, .unset] [])) _
      refine XS.lloadN X0.here hx rfl (hb hby d7_0) rfl ?_
      show Steps p.tables e below (s₁.setTop (mkF m 1 #[.val (.long P0), .second, .val (.long P1), .second, .unset, .unset] [(.long P0)])) _
      refine XS.lloadN X0.here hx rfl (hb hby d7_1) rfl ?_
      show Steps p.tables e below (s₁.setTop (mkF m 2 #[.val (.long P0), .second, .val (.long P1), .second, .unset, .unset] [(.long P1), (.long P0)])) _
      refine XS.ldiv X0.here hx rfl (hb hby d7_2) rfl hy ?_
      show Steps p.tables e below (s₁.setTop (mkF m 3 #[.val (.long P0), .second, .val (.long P1), .second, .unset, .unset] [(.long (P0 / P1))])) _
      refine XS.lstore X0.here hx rfl (hb hby d7_3) rfl (l' := #[.val (.long P0), .second, .val (.long P1), .second, .val (.long (P0 / P1)), .second]) rfl ?_
      show Steps p.tables e below (s₁.setTop (mkF m 5 #[.val (.long P0), .second, .val (.long P1), .second, .val (.long (P0 / P1)), .second] [])) _
      refine XS.lloadN X0.here hx rfl (hb hby d7_5) rfl ?_
      show Steps p.tables e below (s₁.setTop (mkF m 6 #[.val (.long P0), .second, .val (.long P1), .second, .val (.long (P0 / P1)), .second] [(.long P0)])) _
      refine XS.lloadN X0.here hx rfl (hb hby d7_6) rfl ?_
      show Steps p.tables e below (s₁.setTop (mkF m 7 #[.val (.long P0), .second, .val (.long P1), .second, .val (.long (P0 / P1)), .second] [(.long P1), (.long P0)])) _
      refine XS.lxor X0.here hx rfl (hb hby d7_7) rfl ?_
      show Steps p.tables e below (s₁.setTop (mkF m 8 #[.val (.long P0), .second, .val (.long P1), .second, .val (.long (P0 / P1)), .second] [(.long (P0 ^^^ P1))])) _
      refine XS.lconst X0.here hx rfl (hb hby d7_8) ?_
      show Steps p.tables e below (s₁.setTop (mkF m 9 #[.val (.long P0), .second, .val (.long P1), .second, .val (.long (P0 / P1)), .second] [(.long (0 : Int64)), (.long (P0 ^^^ P1))])) _
      refine XS.lcmp X0.here hx rfl (hb hby d7_9) rfl ?_
      exact kt)
  by_cases hc10 : (P0 ^^^ P1) < (0 : Int64)
  · have pre102 : ∀ t, Steps p.tables e below (s₁.setTop (mkF m 19 #[.val (.long P0), .second, .val (.long P1), .second, .val (.long (P0 / P1)), .second] [(.int (lcmpW ((P0 / P1) * P1) P0))])) t → Steps p.tables e below (s₁.setTop (entryFrame m #[(.long P0), (.long P1)] 6)) t := fun t kt => pre101 t (by
        show Steps p.tables e below (s₁.setTop (mkF m 10 #[.val (.long P0), .second, .val (.long P1), .second, .val (.long (P0 / P1)), .second] [(.int (lcmpW (P0 ^^^ P1) (0 : Int64)))])) _
        refine XS.ifNo X0.here hx rfl (hb hby d7_10) rfl ((if0 _ _).trans (tlt ((lw_lt (P0 ^^^ P1) (0 : Int64)).mpr hc10)).2.1) ?_
        show Steps p.tables e below (s₁.setTop (mkF m 13 #[.val (.long P0), .second, .val (.long P1), .second, .val (.long (P0 / P1)), .second] [])) _
        refine XS.lload X0.here hx rfl (hb hby d7_13) rfl ?_
        show Steps p.tables e below (s₁.setTop (mkF m 15 #[.val (.long P0), .second, .val (.long P1), .second, .val (.long (P0 / P1)), .second] [(.long (P0 / P1))])) _
        refine XS.lloadN X0.here hx rfl (hb hby d7_15) rfl ?_
        show Steps p.tables e below (s₁.setTop (mkF m 16 #[.val (.long P0), .second, .val (.long P1), .second, .val (.long (P0 / P1)), .second] [(.long P1), (.long (P0 / P1))])) _
        refine XS.lmul X0.here hx rfl (hb hby d7_16) rfl ?_
        show Steps p.tables e below (s₁.setTop (mkF m 17 #[.val (.long P0), .second, .val (.long P1), .second, .val (.long (P0 / P1)), .second] [(.long ((P0 / P1) * P1))])) _
        refine XS.lloadN X0.here hx rfl (hb hby d7_17) rfl ?_
        show Steps p.tables e below (s₁.setTop (mkF m 18 #[.val (.long P0), .second, .val (.long P1), .second, .val (.long (P0 / P1)), .second] [(.long P0), (.long ((P0 / P1) * P1))])) _
        refine XS.lcmp X0.here hx rfl (hb hby d7_18) rfl ?_
        exact kt)
    by_cases hc19 : ((P0 / P1) * P1) = P0
    · have pre103 : ∀ t, Steps p.tables e below (s₁.setTop (mkF m 29 #[.val (.long P0), .second, .val (.long P1), .second, .val (.long (P0 / P1)), .second] [(.long (P0 / P1))])) t → Steps p.tables e below (s₁.setTop (entryFrame m #[(.long P0), (.long P1)] 6)) t := fun t kt => pre102 t (by
          show Steps p.tables e below (s₁.setTop (mkF m 19 #[.val (.long P0), .second, .val (.long P1), .second, .val (.long (P0 / P1)), .second] [(.int (lcmpW ((P0 / P1) * P1) P0))])) _
          refine XS.ifYes X0.here hx rfl (pc0 := 19) (pc' := 27) rfl (hb hby d7_19) rfl ((if0 _ _).trans (teq ((lw_eq ((P0 / P1) * P1) P0).mpr hc19)).1) (by decide) (by decide) ?_
          show Steps p.tables e below (s₁.setTop (mkF m 27 #[.val (.long P0), .second, .val (.long P1), .second, .val (.long (P0 / P1)), .second] [])) _
          refine XS.lload X0.here hx rfl (hb hby d7_27) rfl ?_
          exact kt)
      obtain ⟨fs, hr, hrun, hended, hW, hsame⟩ := X0.leave (v := some (.long (P0 / P1))) (fun h => by rw [Bd.returns] at h; cases h)
      refine ⟨_, _, pre103 _ ?_, hrun, hended, _, _, rfl, ?_, ⟨_, rfl⟩, hW, hsame.mono (by decide) (by decide)⟩
      · show Steps p.tables e below (s₁.setTop (mkF m 29 #[.val (.long P0), .second, .val (.long P1), .second, .val (.long (P0 / P1)), .second] [(.long (P0 / P1))])) _
        exact retOut X0 hx Bd.returns rfl (Or.inr (Or.inl ⟨rfl, rfl, _, rfl⟩)) (hb hby d7_29) hr
      · show Q7 Z P0 P1 h0 n0 _ s₁.heap _
        rw [e0]
        exact ⟨(congrArg (fun z => some (Value.long z)) (show (P0 / P1) = (own_fd P0 P1) from by unfold own_fd; rw [if_pos hc10, if_pos hc19])), N0, rfl⟩
    · have pre104 : ∀ t, Steps p.tables e below (s₁.setTop (mkF m 26 #[.val (.long P0), .second, .val (.long P1), .second, .val (.long (P0 / P1)), .second] [(.long ((P0 / P1) - (1 : Int64)))])) t → Steps p.tables e below (s₁.setTop (entryFrame m #[(.long P0), (.long P1)] 6)) t := fun t kt => pre102 t (by
          show Steps p.tables e below (s₁.setTop (mkF m 19 #[.val (.long P0), .second, .val (.long P1), .second, .val (.long (P0 / P1)), .second] [(.int (lcmpW ((P0 / P1) * P1) P0))])) _
          refine XS.ifNo X0.here hx rfl (hb hby d7_19) rfl ((if0 _ _).trans (feq (fun q => hc19 ((lw_eq ((P0 / P1) * P1) P0).mp q))).1) ?_
          show Steps p.tables e below (s₁.setTop (mkF m 22 #[.val (.long P0), .second, .val (.long P1), .second, .val (.long (P0 / P1)), .second] [])) _
          refine XS.lload X0.here hx rfl (hb hby d7_22) rfl ?_
          show Steps p.tables e below (s₁.setTop (mkF m 24 #[.val (.long P0), .second, .val (.long P1), .second, .val (.long (P0 / P1)), .second] [(.long (P0 / P1))])) _
          refine XS.lconst X0.here hx rfl (hb hby d7_24) ?_
          show Steps p.tables e below (s₁.setTop (mkF m 25 #[.val (.long P0), .second, .val (.long P1), .second, .val (.long (P0 / P1)), .second] [(.long (1 : Int64)), (.long (P0 / P1))])) _
          refine XS.lsub X0.here hx rfl (hb hby d7_25) rfl ?_
          exact kt)
      obtain ⟨fs, hr, hrun, hended, hW, hsame⟩ := X0.leave (v := some (.long ((P0 / P1) - (1 : Int64)))) (fun h => by rw [Bd.returns] at h; cases h)
      refine ⟨_, _, pre104 _ ?_, hrun, hended, _, _, rfl, ?_, ⟨_, rfl⟩, hW, hsame.mono (by decide) (by decide)⟩
      · show Steps p.tables e below (s₁.setTop (mkF m 26 #[.val (.long P0), .second, .val (.long P1), .second, .val (.long (P0 / P1)), .second] [(.long ((P0 / P1) - (1 : Int64)))])) _
        exact retOut X0 hx Bd.returns rfl (Or.inr (Or.inl ⟨rfl, rfl, _, rfl⟩)) (hb hby d7_26) hr
      · show Q7 Z P0 P1 h0 n0 _ s₁.heap _
        rw [e0]
        exact ⟨(congrArg (fun z => some (Value.long z)) (show ((P0 / P1) - (1 : Int64)) = (own_fd P0 P1) from by unfold own_fd; rw [if_pos hc10, if_neg hc19])), N0, rfl⟩
  · have pre105 : ∀ t, Steps p.tables e below (s₁.setTop (mkF m 29 #[.val (.long P0), .second, .val (.long P1), .second, .val (.long (P0 / P1)), .second] [(.long (P0 / P1))])) t → Steps p.tables e below (s₁.setTop (entryFrame m #[(.long P0), (.long P1)] 6)) t := fun t kt => pre101 t (by
        show Steps p.tables e below (s₁.setTop (mkF m 10 #[.val (.long P0), .second, .val (.long P1), .second, .val (.long (P0 / P1)), .second] [(.int (lcmpW (P0 ^^^ P1) (0 : Int64)))])) _
        refine XS.ifYes X0.here hx rfl (pc0 := 10) (pc' := 27) rfl (hb hby d7_10) rfl ((if0 _ _).trans (flt (fun q => hc10 ((lw_lt (P0 ^^^ P1) (0 : Int64)).mp q))).2.1) (by decide) (by decide) ?_
        show Steps p.tables e below (s₁.setTop (mkF m 27 #[.val (.long P0), .second, .val (.long P1), .second, .val (.long (P0 / P1)), .second] [])) _
        refine XS.lload X0.here hx rfl (hb hby d7_27) rfl ?_
        exact kt)
    obtain ⟨fs, hr, hrun, hended, hW, hsame⟩ := X0.leave (v := some (.long (P0 / P1))) (fun h => by rw [Bd.returns] at h; cases h)
    refine ⟨_, _, pre105 _ ?_, hrun, hended, _, _, rfl, ?_, ⟨_, rfl⟩, hW, hsame.mono (by decide) (by decide)⟩
    · show Steps p.tables e below (s₁.setTop (mkF m 29 #[.val (.long P0), .second, .val (.long P1), .second, .val (.long (P0 / P1)), .second] [(.long (P0 / P1))])) _
      exact retOut X0 hx Bd.returns rfl (Or.inr (Or.inl ⟨rfl, rfl, _, rfl⟩)) (hb hby d7_29) hr
    · show Q7 Z P0 P1 h0 n0 _ s₁.heap _
      rw [e0]
      exact ⟨(congrArg (fun z => some (Value.long z)) (show (P0 / P1) = (own_fd P0 P1) from by unfold own_fd; rw [if_neg hc10])), N0, rfl⟩
theorem d6_0 : decode jdk_29_method_48_code 0 = .ok (.lload_n 0, 1) := by decide +kernel
theorem d6_1 : decode jdk_29_method_48_code 1 = .ok (.iload_n 2, 1) := by decide +kernel
theorem d6_2 : decode jdk_29_method_48_code 2 = .ok (.i2l, 1) := by decide +kernel
theorem d6_3 : decode jdk_29_method_48_code 3 = .ok (.invokestatic 143, 3) := by decide +kernel
theorem d6_6 : decode jdk_29_method_48_code 6 = .ok (.lreturn, 1) := by decide +kernel
theorem pd_6_0 : parseMethodDescriptor "(JJ)J" = some ⟨[.long, .long], some .long⟩ := by decide +kernel
theorem ef_6 (m : MethodId) (P0 : Int64) (P1 : Int32) : entryFrame m #[(.long P0), (.int P1)] 3 = mkF m 0 #[.val (.long P0), .second, .val (.int P1)] [] := by first | (simp [entryFrame, mkF, argsToLocals, Value.category]; done) | rfl
def Q6 (Z : State) (P0 : Int64) (P1 : Int32) (h0 : Heap) (n0 : Nat) (v : Option Value) (h : Heap) (L : List Loc) : Prop := (v = some (.long (own_fd P0 (P1.toInt64)))) ∧ (Fr n0 L) ∧ (h = h0)
set_option maxRecDepth 65536 in
set_option maxHeartbeats 40000000 in
theorem rm6 (l : Launch) (Z : State) (a0 : Array Value) (hw : ∀ d ∈ tables_1, d.before a0 Z = true) (ws : List Jvm.Cond) (P0 : Int64) (P1 : Int32) (h0 : Heap) (n0 : Nat) (Z0 : n0 ≤ h0.size) (hy : (P1.toInt64) ≠ (0 : Int64)) :
    MetFree l (⟨"java/lang/Math", "floorDiv", "(JI)J"⟩ : MethodName) (head1 (Jvm.Cond.code (⟨"java/lang/Math", "floorDiv", "(JI)J"⟩ : MethodName) jdk_29_method_48_code 3 (some .long) :: ws) ({ frames := 1, cells := 0, slots := 0, locals := 17 } : Room)) (fun a U => a = #[(.long P0), (.int P1)] ∧ Z.Warmed39 U.vm ∧ U.heap = h0) (fun _ _ _ _ _ => True) (fun _ U o U' => ∃ v L, o = .returned v ∧ Q6 Z P0 P1 h0 n0 v U'.heap L ∧ FrameEnd U o U' L ({ frames := 1, cells := 0, slots := 0, locals := 17 } : Room).cells ({ frames := 1, cells := 0, slots := 0, locals := 17 } : Room).slots) := by
  refine MetFree.of_bodySF (Jvm.Free.JP.mathPlain rfl (by decide +kernel)) hisR ?_
  intro p e s m args below meth c s₁ Bd hml0 hP hK
  obtain ⟨rfl, hZ, hh⟩ := hP
  have hx := Bd.exec
  have hby := Bd.bytes
  have hml : c.maxLocals = 3 := hml0
  have hown : s.vm.findClass "java/lang/Math" = some m.cls := findClass_of_methodNamed Bd.named
  have hnm := (name_of_methodNamed Bd.named Bd.method).1
  have X0 : Stand p l e ({ frames := 1, cells := 0, slots := 0, locals := 17 } : Room) s m #[(.long P0), (.int P1)] below meth c s₁ [] 0 0 := Stand.of_body Bd
  have e0 : s₁.heap = h0 := by rw [← hh, Bd.state]; rfl
  have N0 := Fr.nil n0
  have pre0 : ∀ t, Steps p.tables e below (s₁.setTop (mkF m 0 #[.val (.long P0), .second, .val (.int P1)] [])) t → Steps p.tables e below (s₁.setTop (entryFrame m #[(.long P0), (.int P1)] 3)) t := fun t k => castTop (ef_6 m P0 P1) k
  obtain ⟨_, _, ⟨T101, L101, k101, n101⟩, -, X101, ⟨Lc101, hQ101, l101, y101, z101⟩, st101⟩ := Jvm.LawKit.callS X0 hx (y := (⟨"java/lang/Math", "floorDiv", "(JJ)J"⟩ : MethodName)) hown (mvT hZ (hw _ (List.mem_of_getElem? (i := 32) rfl))) (mvT hZ (hw _ (List.mem_of_getElem? (i := 33) rfl))) (mvT hZ (hw _ (List.mem_of_getElem? (i := 30) rfl))) (mvT hZ (hw _ (List.mem_of_getElem? (i := 34) rfl))) (by decide) (backOf (W := 0) (rm7 l Z a0 hw [] P0 (P1.toInt64) h0 n0 Z0 (show (P1.toInt64) ≠ (0 : Int64) from hy)) hZ (hw _ (List.mem_of_getElem? (i := 34) rfl)) (hw _ (List.mem_of_getElem? (i := 30) rfl)) (by decide) (by decide)) (g := (mkF m 3 #[.val (.long P0), .second, .val (.int P1)] [(.long (P1.toInt64)), (.long P0)])) rfl (by rw [hml]; rfl) (argsL := [(.long P0), (.long (P1.toInt64))]) (rest := []) (lenOf pd_6_0 rfl) rfl (by show 2 * 0 + _ ≤ _; exact Nat.le_of_eq rfl) (hb hby d6_3) (fun _ _ => ⟨rfl, e0, (by decide : 0 + 0 ≤ _), (by decide : 0 + 0 ≤ _)⟩)
  dsimp only [Pt.U, Pt.locs, Pt.cells, Pt.slots] at X101 l101 y101 z101 st101 hQ101
  subst l101 y101 z101
  obtain ⟨rfl, N101q, K101⟩ := hQ101
  have N101 := Fr.app N0 N101q
  have pre102 : ∀ t, Steps p.tables e below (T101.setTop (mkF m 6 #[.val (.long P0), .second, .val (.int P1)] [(.long (own_fd P0 (P1.toInt64)))])) t → Steps p.tables e below (s₁.setTop (entryFrame m #[(.long P0), (.int P1)] 3)) t := fun t kt => pre0 t (by
      show Steps p.tables e below (s₁.setTop (mkF m 0 #[.val (.long P0), .second, .val (.int P1)] [])) _
      refine XS.lloadN X0.here hx rfl (hb hby d6_0) rfl ?_
      show Steps p.tables e below (s₁.setTop (mkF m 1 #[.val (.long P0), .second, .val (.int P1)] [(.long P0)])) _
      refine XS.iloadN X0.here hx rfl (hb hby d6_1) rfl ?_
      show Steps p.tables e below (s₁.setTop (mkF m 2 #[.val (.long P0), .second, .val (.int P1)] [(.int P1), (.long P0)])) _
      refine XS.i2l X0.here hx rfl (hb hby d6_2) rfl ?_
      show Steps p.tables e below (s₁.setTop (mkF m 3 #[.val (.long P0), .second, .val (.int P1)] [(.long (P1.toInt64)), (.long P0)])) _
      refine st101 _ ?_
      exact kt)
  obtain ⟨fs, hr, hrun, hended, hW, hsame⟩ := X101.leave (v := some (.long (own_fd P0 (P1.toInt64)))) (fun h => by rw [Bd.returns] at h; cases h)
  refine ⟨_, _, pre102 _ ?_, hrun, hended, _, _, rfl, ?_, ⟨_, rfl⟩, hW, hsame.mono (by decide) (by decide)⟩
  · show Steps p.tables e below (T101.setTop (mkF m 6 #[.val (.long P0), .second, .val (.int P1)] [(.long (own_fd P0 (P1.toInt64)))])) _
    exact retOut X101 hx Bd.returns rfl (Or.inr (Or.inl ⟨rfl, rfl, _, rfl⟩)) (hb hby d6_6) hr
  · show Q6 Z P0 P1 h0 n0 _ T101.heap _
    rw [K101]
    exact ⟨rfl, N101, rfl⟩
theorem d1_0 : decode prog_9_method_1_code 0 = .ok (.aload_n 0, 1) := by decide +kernel
theorem d1_1 : decode prog_9_method_1_code 1 = .ok (.invokespecial 3, 3) := by decide +kernel
theorem d1_4 : decode prog_9_method_1_code 4 = .ok (.aload_n 0, 1) := by decide +kernel
theorem d1_5 : decode prog_9_method_1_code 5 = .ok (.ldc2_w 11, 3) := by decide +kernel
theorem d1_8 : decode prog_9_method_1_code 8 = .ok (.putfield 13, 3) := by decide +kernel
theorem d1_11 : decode prog_9_method_1_code 11 = .ok (.return_, 1) := by decide +kernel
theorem pn_1 : plainName "com/example/holdfast/holdfast/NodeClock" = true := by first | (simp [plainName, overriddenIn]; done) | decide +kernel
theorem ef_1 (m : MethodId) (A0 : Addr) : entryFrame m #[(.ref A0)] 1 = mkF m 0 #[.val (.ref A0)] [] := by first | (simp [entryFrame, mkF, argsToLocals, Value.category]; done) | rfl
def Q1 (Z : State) (A0 : Addr) (W0 : Int64) (h0 : Heap) (n0 : Nat) (v : Option Value) (h : Heap) (L : List Loc) : Prop := (v = none) ∧ (Fr n0 L) ∧ (Keep h0 h [A0]) ∧ (Exa Z h A0 "com/example/holdfast/holdfast/NodeClock") ∧ (Fld Z h A0 "com/example/holdfast/holdfast/NodeClock" "leadMicros" "J" (.long (-9223372036854775808 : Int64)))
set_option maxRecDepth 65536 in
set_option maxHeartbeats 40000000 in
theorem rm1 (l : Launch) (Z : State) (a0 : Array Value) (hw : ∀ d ∈ tables_1, d.before a0 Z = true) (ws : List Jvm.Cond) (A0 : Addr) (W0 : Int64) (h0 : Heap) (n0 : Nat) (Z0 : n0 ≤ h0.size) (pm0 : Fld Z h0 A0 "com/example/holdfast/holdfast/NodeClock" "leadMicros" "J" (.long W0)) (pm1 : Exa Z h0 A0 "com/example/holdfast/holdfast/NodeClock") (g_A0 : n0 ≤ A0) :
    MetFree l (⟨"com/example/holdfast/holdfast/NodeClock", "<init>", "()V"⟩ : MethodName) (head1 (Jvm.Cond.code (⟨"com/example/holdfast/holdfast/NodeClock", "<init>", "()V"⟩ : MethodName) prog_9_method_1_code 1 none :: ws) ({ frames := 1, cells := 0, slots := 0, locals := 12 } : Room)) (fun a U => a = #[(.ref A0)] ∧ Z.Warmed39 U.vm ∧ U.heap = h0) (fun _ _ _ _ _ => True) (fun _ U o U' => ∃ v L, o = .returned v ∧ Q1 Z A0 W0 h0 n0 v U'.heap L ∧ FrameEnd U o U' L ({ frames := 1, cells := 0, slots := 0, locals := 12 } : Room).cells ({ frames := 1, cells := 0, slots := 0, locals := 12 } : Room).slots) := by
  refine MetFree.of_bodySF (plainFor_of_name pn_1) hisR ?_
  intro p e s m args below meth c s₁ Bd hml0 hP hK
  obtain ⟨rfl, hZ, hh⟩ := hP
  have hx := Bd.exec
  have hby := Bd.bytes
  have hml : c.maxLocals = 1 := hml0
  have hown : s.vm.findClass "com/example/holdfast/holdfast/NodeClock" = some m.cls := findClass_of_methodNamed Bd.named
  have hnm := (name_of_methodNamed Bd.named Bd.method).1
  have X0 : Stand p l e ({ frames := 1, cells := 0, slots := 0, locals := 12 } : Room) s m #[(.ref A0)] below meth c s₁ [] 0 0 := Stand.of_body Bd
  have e0 : s₁.heap = h0 := by rw [← hh, Bd.state]; rfl
  have N0 := Fr.nil n0
  have pre0 : ∀ t, Steps p.tables e below (s₁.setTop (mkF m 0 #[.val (.ref A0)] [])) t → Steps p.tables e below (s₁.setTop (entryFrame m #[(.ref A0)] 1)) t := fun t k => castTop (ef_1 m A0) k
  have K_0 : Keep h0 h0 [A0] := Keep.refl h0 _
  obtain ⟨T101, X101, e101, st101⟩ := initO X0 hx hZ hown (hw _ (List.mem_of_getElem? (i := 6) rfl)) (hw _ (List.mem_of_getElem? (i := 7) rfl)) (hw _ (List.mem_of_getElem? (i := 8) rfl)) e0 (g := (mkF m 1 #[.val (.ref A0)] [(.ref A0)])) rfl (by rw [hml]; rfl) rfl (hb hby d1_1) (by decide) (W := 0) (by show 2 * 0 + _ ≤ _; exact Nat.le_of_eq rfl) (by decide)
  obtain ⟨T102, h102, X102, e102, W102, st102⟩ := putF X101 hx hZ hown (host := "") (Or.inl (hw _ (List.mem_of_getElem? (i := 10) rfl))) Via.refl e101 pm0 pm1 (Or.inl (hw _ (List.mem_of_getElem? (i := 11) rfl))) (hw _ (List.mem_of_getElem? (i := 1) rfl)) (ty := .long) (by decide) rfl rfl (g := (mkF m 8 #[.val (.ref A0)] [(.long (-9223372036854775808 : Int64)), (.ref A0)])) rfl rfl (hb hby d1_8)
  have Z103 : n0 ≤ h102.size := Nat.le_trans Z0 (Nat.le_of_eq W102.size.symm)
  have K_103 : Keep h0 h102 [A0] := K_0.wr W102 (Or.inl (List.mem_of_getElem? (i := 0) rfl))
  have Fw102 : Fld Z h102 A0 "com/example/holdfast/holdfast/NodeClock" "leadMicros" "J" (.long (-9223372036854775808 : Int64)) := pm0.same W102
  have N102 := Fr.snoc X102 N0 g_A0
  have pre104 : ∀ t, Steps p.tables e below (T102.setTop (mkF m 11 #[.val (.ref A0)] [])) t → Steps p.tables e below (s₁.setTop (entryFrame m #[(.ref A0)] 1)) t := fun t kt => pre0 t (by
      show Steps p.tables e below (s₁.setTop (mkF m 0 #[.val (.ref A0)] [])) _
      refine XS.aloadN X0.here hx rfl (hb hby d1_0) rfl rfl ?_
      show Steps p.tables e below (s₁.setTop (mkF m 1 #[.val (.ref A0)] [(.ref A0)])) _
      refine st101 _ ?_
      show Steps p.tables e below (T101.setTop (mkF m 4 #[.val (.ref A0)] [])) _
      refine XS.aloadN X101.here hx rfl (hb hby d1_4) rfl rfl ?_
      show Steps p.tables e below (T101.setTop (mkF m 5 #[.val (.ref A0)] [(.ref A0)])) _
      refine X101.ldc2Long hx hown (mvT hZ (hw _ (List.mem_of_getElem? (i := 9) rfl))) (g := (mkF m 5 #[.val (.ref A0)] [(.ref A0)])) rfl (hb hby d1_5) _ ?_
      show Steps p.tables e below (T101.setTop (mkF m 8 #[.val (.ref A0)] [(.long (-9223372036854775808 : Int64)), (.ref A0)])) _
      refine st102 _ ?_
      exact kt)
  have c105 : Exa Z h102 A0 "com/example/holdfast/holdfast/NodeClock" := (pm1.wr W102)
  obtain ⟨fs, hr, hrun, hended, hW, hsame⟩ := X102.leave (v := none) (fun _ => rfl)
  refine ⟨_, _, pre104 _ ?_, hrun, hended, _, _, rfl, ?_, ⟨_, rfl⟩, hW, hsame.mono (by decide) (by decide)⟩
  · show Steps p.tables e below (T102.setTop (mkF m 11 #[.val (.ref A0)] [])) _
    exact X102.returnOut hx Bd.returns (hb hby d1_11) hr
  · show Q1 Z A0 W0 h0 n0 _ T102.heap _
    rw [e102]
    exact ⟨rfl, N102, K_103, c105, Fw102⟩
theorem d3_0 : decode prog_9_method_2_code 0 = .ok (.aload_n 0, 1) := by decide +kernel
theorem d3_1 : decode prog_9_method_2_code 1 = .ok (.getfield 13, 3) := by decide +kernel
theorem d3_4 : decode prog_9_method_2_code 4 = .ok (.ldc2_w 11, 3) := by decide +kernel
theorem d3_7 : decode prog_9_method_2_code 7 = .ok (.lcmp, 1) := by decide +kernel
theorem d3_8 : decode prog_9_method_2_code 8 = .ok (.ifCond .eq 7, 3) := by decide +kernel
theorem d3_11 : decode prog_9_method_2_code 11 = .ok (.iconst 1, 1) := by decide +kernel
theorem d3_12 : decode prog_9_method_2_code 12 = .ok (.goto 4, 3) := by decide +kernel
theorem d3_15 : decode prog_9_method_2_code 15 = .ok (.iconst 0, 1) := by decide +kernel
theorem d3_16 : decode prog_9_method_2_code 16 = .ok (.ireturn, 1) := by decide +kernel
theorem pn_3 : plainName "com/example/holdfast/holdfast/NodeClock" = true := by first | (simp [plainName, overriddenIn]; done) | decide +kernel
theorem ef_3 (m : MethodId) (A0 : Addr) : entryFrame m #[(.ref A0)] 1 = mkF m 0 #[.val (.ref A0)] [] := by first | (simp [entryFrame, mkF, argsToLocals, Value.category]; done) | rfl
def Q3 (Z : State) (A0 : Addr) (W0 : Int64) (h0 : Heap) (n0 : Nat) (v : Option Value) (h : Heap) (L : List Loc) : Prop := (v = some (.int (if ¬ (W0 = (-9223372036854775808 : Int64)) then (1 : Int32) else (0 : Int32)))) ∧ (Fr n0 L) ∧ (h = h0)
set_option maxRecDepth 65536 in
set_option maxHeartbeats 40000000 in
theorem rm3 (l : Launch) (Z : State) (a0 : Array Value) (hw : ∀ d ∈ tables_1, d.before a0 Z = true) (ws : List Jvm.Cond) (A0 : Addr) (W0 : Int64) (h0 : Heap) (n0 : Nat) (Z0 : n0 ≤ h0.size) (pm0 : Fld Z h0 A0 "com/example/holdfast/holdfast/NodeClock" "leadMicros" "J" (.long W0)) :
    MetFree l (⟨"com/example/holdfast/holdfast/NodeClock", "isKnown", "()Z"⟩ : MethodName) (head1 (Jvm.Cond.code (⟨"com/example/holdfast/holdfast/NodeClock", "isKnown", "()Z"⟩ : MethodName) prog_9_method_2_code 1 (some .boolean) :: ws) ({ frames := 0, cells := 0, slots := 0, locals := 0 } : Room)) (fun a U => a = #[(.ref A0)] ∧ Z.Warmed39 U.vm ∧ U.heap = h0) (fun _ _ _ _ _ => True) (fun _ U o U' => ∃ v L, o = .returned v ∧ Q3 Z A0 W0 h0 n0 v U'.heap L ∧ FrameEnd U o U' L ({ frames := 0, cells := 0, slots := 0, locals := 0 } : Room).cells ({ frames := 0, cells := 0, slots := 0, locals := 0 } : Room).slots) := by
  refine MetFree.of_bodySF (plainFor_of_name pn_3) hisR ?_
  intro p e s m args below meth c s₁ Bd hml0 hP hK
  obtain ⟨rfl, hZ, hh⟩ := hP
  have hx := Bd.exec
  have hby := Bd.bytes
  have hml : c.maxLocals = 1 := hml0
  have hown : s.vm.findClass "com/example/holdfast/holdfast/NodeClock" = some m.cls := findClass_of_methodNamed Bd.named
  have hnm := (name_of_methodNamed Bd.named Bd.method).1
  have X0 : Stand p l e ({ frames := 0, cells := 0, slots := 0, locals := 0 } : Room) s m #[(.ref A0)] below meth c s₁ [] 0 0 := Stand.of_body Bd
  have e0 : s₁.heap = h0 := by rw [← hh, Bd.state]; rfl
  have N0 := Fr.nil n0
  have pre0 : ∀ t, Steps p.tables e below (s₁.setTop (mkF m 0 #[.val (.ref A0)] [])) t → Steps p.tables e below (s₁.setTop (entryFrame m #[(.ref A0)] 1)) t := fun t k => castTop (ef_3 m A0) k
  obtain ⟨T101, X101, e101, st101⟩ := getF X0 hx hZ hown (host := "") (Or.inl (hw _ (List.mem_of_getElem? (i := 10) rfl))) Via.refl e0 pm0 (g := (mkF m 1 #[.val (.ref A0)] [(.ref A0)])) rfl rfl (hb hby d3_1)
  have pre102 : ∀ t, Steps p.tables e below (T101.setTop (mkF m 8 #[.val (.ref A0)] [(.int (lcmpW W0 (-9223372036854775808 : Int64)))])) t → Steps p.tables e below (s₁.setTop (entryFrame m #[(.ref A0)] 1)) t := fun t kt => pre0 t (by
      show Steps p.tables e below (s₁.setTop (mkF m 0 #[.val (.ref A0)] [])) _
      refine XS.aloadN X0.here hx rfl (hb hby d3_0) rfl rfl ?_
      show Steps p.tables e below (s₁.setTop (mkF m 1 #[.val (.ref A0)] [(.ref A0)])) _
      refine st101 _ ?_
      show Steps p.tables e below (T101.setTop (mkF m 4 #[.val (.ref A0)] [(.long W0)])) _
      refine X101.ldc2Long hx hown (mvT hZ (hw _ (List.mem_of_getElem? (i := 9) rfl))) (g := (mkF m 4 #[.val (.ref A0)] [(.long W0)])) rfl (hb hby d3_4) _ ?_
      show Steps p.tables e below (T101.setTop (mkF m 7 #[.val (.ref A0)] [(.long (-9223372036854775808 : Int64)), (.long W0)])) _
      refine XS.lcmp X101.here hx rfl (hb hby d3_7) rfl ?_
      exact kt)
  by_cases hc8 : W0 = (-9223372036854775808 : Int64)
  · have pre103 : ∀ t, Steps p.tables e below (T101.setTop (mkF m 16 #[.val (.ref A0)] [(.int (0 : Int32))])) t → Steps p.tables e below (s₁.setTop (entryFrame m #[(.ref A0)] 1)) t := fun t kt => pre102 t (by
        show Steps p.tables e below (T101.setTop (mkF m 8 #[.val (.ref A0)] [(.int (lcmpW W0 (-9223372036854775808 : Int64)))])) _
        refine XS.ifYes X101.here hx rfl (pc0 := 8) (pc' := 15) rfl (hb hby d3_8) rfl ((if0 _ _).trans (teq ((lw_eq W0 (-9223372036854775808 : Int64)).mpr hc8)).1) (by decide) (by decide) ?_
        show Steps p.tables e below (T101.setTop (mkF m 15 #[.val (.ref A0)] [])) _
        refine XS.iconst X101.here hx rfl (hb hby d3_15) ?_
        exact kt)
    obtain ⟨fs, hr, hrun, hended, hW, hsame⟩ := X101.leave (v := some (.int (0 : Int32))) (fun h => by rw [Bd.returns] at h; cases h)
    refine ⟨_, _, pre103 _ ?_, hrun, hended, _, _, rfl, ?_, ⟨_, rfl⟩, hW, hsame.mono (by decide) (by decide)⟩
    · show Steps p.tables e below (T101.setTop (mkF m 16 #[.val (.ref A0)] [(.int (0 : Int32))])) _
      exact retN X101 hx (t := .boolean) Bd.returns (by simp) (hb hby d3_16) hr
    · show Q3 Z A0 W0 h0 n0 _ T101.heap _
      rw [e101]
      exact ⟨(congrArg (fun z => some (Value.int z)) (show (0 : Int32) = (if ¬ (W0 = (-9223372036854775808 : Int64)) then (1 : Int32) else (0 : Int32)) from by simp [hc8])), N0, rfl⟩
  · have pre104 : ∀ t, Steps p.tables e below (T101.setTop (mkF m 16 #[.val (.ref A0)] [(.int (1 : Int32))])) t → Steps p.tables e below (s₁.setTop (entryFrame m #[(.ref A0)] 1)) t := fun t kt => pre102 t (by
        show Steps p.tables e below (T101.setTop (mkF m 8 #[.val (.ref A0)] [(.int (lcmpW W0 (-9223372036854775808 : Int64)))])) _
        refine XS.ifNo X101.here hx rfl (hb hby d3_8) rfl ((if0 _ _).trans (feq (fun q => hc8 ((lw_eq W0 (-9223372036854775808 : Int64)).mp q))).1) ?_
        show Steps p.tables e below (T101.setTop (mkF m 11 #[.val (.ref A0)] [])) _
        refine XS.iconst X101.here hx rfl (hb hby d3_11) ?_
        show Steps p.tables e below (T101.setTop (mkF m 12 #[.val (.ref A0)] [(.int (1 : Int32))])) _
        refine XS.goto X101.here hx rfl (pc0 := 12) (pc' := 16) rfl (hb hby d3_12) (by decide) (by decide) ?_
        exact kt)
    obtain ⟨fs, hr, hrun, hended, hW, hsame⟩ := X101.leave (v := some (.int (1 : Int32))) (fun h => by rw [Bd.returns] at h; cases h)
    refine ⟨_, _, pre104 _ ?_, hrun, hended, _, _, rfl, ?_, ⟨_, rfl⟩, hW, hsame.mono (by decide) (by decide)⟩
    · show Steps p.tables e below (T101.setTop (mkF m 16 #[.val (.ref A0)] [(.int (1 : Int32))])) _
      exact retN X101 hx (t := .boolean) Bd.returns (by simp) (hb hby d3_16) hr
    · show Q3 Z A0 W0 h0 n0 _ T101.heap _
      rw [e101]
      exact ⟨(congrArg (fun z => some (Value.int z)) (show (1 : Int32) = (if ¬ (W0 = (-9223372036854775808 : Int64)) then (1 : Int32) else (0 : Int32)) from by simp [hc8])), N0, rfl⟩
theorem d5_0 : decode prog_9_method_3_code 0 = .ok (.aload_n 0, 1) := by decide +kernel
theorem d5_1 : decode prog_9_method_3_code 1 = .ok (.lload_n 1, 1) := by decide +kernel
theorem d5_2 : decode prog_9_method_3_code 2 = .ok (.lload_n 3, 1) := by decide +kernel
theorem d5_3 : decode prog_9_method_3_code 3 = .ok (.sipush 1000, 3) := by decide +kernel
theorem d5_6 : decode prog_9_method_3_code 6 = .ok (.invokestatic 17, 3) := by decide +kernel
theorem d5_9 : decode prog_9_method_3_code 9 = .ok (.lsub, 1) := by decide +kernel
theorem d5_10 : decode prog_9_method_3_code 10 = .ok (.putfield 13, 3) := by decide +kernel
theorem d5_13 : decode prog_9_method_3_code 13 = .ok (.return_, 1) := by decide +kernel
theorem pn_5 : plainName "com/example/holdfast/holdfast/NodeClock" = true := by first | (simp [plainName, overriddenIn]; done) | decide +kernel
theorem pd_5_0 : parseMethodDescriptor "(JI)J" = some ⟨[.long, .int], some .long⟩ := by decide +kernel
theorem ef_5 (m : MethodId) (A0 : Addr) (P1 : Int64) (P2 : Int64) : entryFrame m #[(.ref A0), (.long P1), (.long P2)] 5 = mkF m 0 #[.val (.ref A0), .val (.long P1), .second, .val (.long P2), .second] [] := by first | (simp [entryFrame, mkF, argsToLocals, Value.category]; done) | rfl
def Q5 (Z : State) (A0 : Addr) (P1 : Int64) (P2 : Int64) (W0 : Int64) (h0 : Heap) (n0 : Nat) (v : Option Value) (h : Heap) (L : List Loc) : Prop := (v = none) ∧ (Fr n0 L) ∧ (Keep h0 h [A0]) ∧ (Exa Z h A0 "com/example/holdfast/holdfast/NodeClock") ∧ (Fld Z h A0 "com/example/holdfast/holdfast/NodeClock" "leadMicros" "J" (.long (P1 - (own_fd P2 ((1000 : Int32).toInt64)))))
set_option maxRecDepth 65536 in
set_option maxHeartbeats 40000000 in
theorem rm5 (l : Launch) (Z : State) (a0 : Array Value) (hw : ∀ d ∈ tables_1, d.before a0 Z = true) (ws : List Jvm.Cond) (A0 : Addr) (P1 : Int64) (P2 : Int64) (W0 : Int64) (h0 : Heap) (n0 : Nat) (Z0 : n0 ≤ h0.size) (pm0 : Fld Z h0 A0 "com/example/holdfast/holdfast/NodeClock" "leadMicros" "J" (.long W0)) (pm1 : Exa Z h0 A0 "com/example/holdfast/holdfast/NodeClock") (g_A0 : n0 ≤ A0) :
    MetFree l (⟨"com/example/holdfast/holdfast/NodeClock", "read", "(JJ)V"⟩ : MethodName) (head1 (Jvm.Cond.code (⟨"com/example/holdfast/holdfast/NodeClock", "read", "(JJ)V"⟩ : MethodName) prog_9_method_3_code 5 none :: ws) ({ frames := 2, cells := 0, slots := 0, locals := 34 } : Room)) (fun a U => a = #[(.ref A0), (.long P1), (.long P2)] ∧ Z.Warmed39 U.vm ∧ U.heap = h0) (fun _ _ _ _ _ => True) (fun _ U o U' => ∃ v L, o = .returned v ∧ Q5 Z A0 P1 P2 W0 h0 n0 v U'.heap L ∧ FrameEnd U o U' L ({ frames := 2, cells := 0, slots := 0, locals := 34 } : Room).cells ({ frames := 2, cells := 0, slots := 0, locals := 34 } : Room).slots) := by
  refine MetFree.of_bodySF (plainFor_of_name pn_5) hisR ?_
  intro p e s m args below meth c s₁ Bd hml0 hP hK
  obtain ⟨rfl, hZ, hh⟩ := hP
  have hx := Bd.exec
  have hby := Bd.bytes
  have hml : c.maxLocals = 5 := hml0
  have hown : s.vm.findClass "com/example/holdfast/holdfast/NodeClock" = some m.cls := findClass_of_methodNamed Bd.named
  have hnm := (name_of_methodNamed Bd.named Bd.method).1
  have X0 : Stand p l e ({ frames := 2, cells := 0, slots := 0, locals := 34 } : Room) s m #[(.ref A0), (.long P1), (.long P2)] below meth c s₁ [] 0 0 := Stand.of_body Bd
  have e0 : s₁.heap = h0 := by rw [← hh, Bd.state]; rfl
  have N0 := Fr.nil n0
  have pre0 : ∀ t, Steps p.tables e below (s₁.setTop (mkF m 0 #[.val (.ref A0), .val (.long P1), .second, .val (.long P2), .second] [])) t → Steps p.tables e below (s₁.setTop (entryFrame m #[(.ref A0), (.long P1), (.long P2)] 5)) t := fun t k => castTop (ef_5 m A0 P1 P2) k
  have K_0 : Keep h0 h0 [A0] := Keep.refl h0 _
  obtain ⟨_, _, ⟨T101, L101, k101, n101⟩, -, X101, ⟨Lc101, hQ101, l101, y101, z101⟩, st101⟩ := Jvm.LawKit.callS X0 hx (y := (⟨"java/lang/Math", "floorDiv", "(JI)J"⟩ : MethodName)) hown (mvT hZ (hw _ (List.mem_of_getElem? (i := 28) rfl))) (mvT hZ (hw _ (List.mem_of_getElem? (i := 29) rfl))) (mvT hZ (hw _ (List.mem_of_getElem? (i := 30) rfl))) (mvT hZ (hw _ (List.mem_of_getElem? (i := 31) rfl))) (by decide) (backOf (W := 3) (rm6 l Z a0 hw [] P2 (1000 : Int32) h0 n0 Z0 (show ((1000 : Int32).toInt64) ≠ (0 : Int64) from (by decide))) hZ (hw _ (List.mem_of_getElem? (i := 31) rfl)) (hw _ (List.mem_of_getElem? (i := 30) rfl)) (by decide) (by decide)) (g := (mkF m 6 #[.val (.ref A0), .val (.long P1), .second, .val (.long P2), .second] [(.int (1000 : Int32)), (.long P2), (.long P1), (.ref A0)])) rfl (by rw [hml]; rfl) (argsL := [(.long P2), (.int (1000 : Int32))]) (rest := [(.long P1), (.ref A0)]) (lenOf pd_5_0 rfl) rfl (by show 2 * 0 + _ ≤ _; exact Nat.le_of_eq rfl) (hb hby d5_6) (fun _ _ => ⟨rfl, e0, (by decide : 0 + 0 ≤ _), (by decide : 0 + 0 ≤ _)⟩)
  dsimp only [Pt.U, Pt.locs, Pt.cells, Pt.slots] at X101 l101 y101 z101 st101 hQ101
  subst l101 y101 z101
  obtain ⟨rfl, N101q, K101⟩ := hQ101
  have N101 := Fr.app N0 N101q
  obtain ⟨T102, h102, X102, e102, W102, st102⟩ := putF X101 hx hZ hown (host := "") (Or.inl (hw _ (List.mem_of_getElem? (i := 10) rfl))) Via.refl K101 pm0 pm1 (Or.inl (hw _ (List.mem_of_getElem? (i := 11) rfl))) (hw _ (List.mem_of_getElem? (i := 1) rfl)) (ty := .long) (by decide) rfl rfl (g := (mkF m 10 #[.val (.ref A0), .val (.long P1), .second, .val (.long P2), .second] [(.long (P1 - (own_fd P2 ((1000 : Int32).toInt64)))), (.ref A0)])) rfl rfl (hb hby d5_10)
  have Z103 : n0 ≤ h102.size := Nat.le_trans Z0 (Nat.le_of_eq W102.size.symm)
  have K_103 : Keep h0 h102 [A0] := K_0.wr W102 (Or.inl (List.mem_of_getElem? (i := 0) rfl))
  have Fw102 : Fld Z h102 A0 "com/example/holdfast/holdfast/NodeClock" "leadMicros" "J" (.long (P1 - (own_fd P2 ((1000 : Int32).toInt64)))) := pm0.same W102
  have N102 := Fr.snoc X102 N101 g_A0
  have pre104 : ∀ t, Steps p.tables e below (T102.setTop (mkF m 13 #[.val (.ref A0), .val (.long P1), .second, .val (.long P2), .second] [])) t → Steps p.tables e below (s₁.setTop (entryFrame m #[(.ref A0), (.long P1), (.long P2)] 5)) t := fun t kt => pre0 t (by
      show Steps p.tables e below (s₁.setTop (mkF m 0 #[.val (.ref A0), .val (.long P1), .second, .val (.long P2), .second] [])) _
      refine XS.aloadN X0.here hx rfl (hb hby d5_0) rfl rfl ?_
      show Steps p.tables e below (s₁.setTop (mkF m 1 #[.val (.ref A0), .val (.long P1), .second, .val (.long P2), .second] [(.ref A0)])) _
      refine XS.lloadN X0.here hx rfl (hb hby d5_1) rfl ?_
      show Steps p.tables e below (s₁.setTop (mkF m 2 #[.val (.ref A0), .val (.long P1), .second, .val (.long P2), .second] [(.long P1), (.ref A0)])) _
      refine XS.lloadN X0.here hx rfl (hb hby d5_2) rfl ?_
      show Steps p.tables e below (s₁.setTop (mkF m 3 #[.val (.ref A0), .val (.long P1), .second, .val (.long P2), .second] [(.long P2), (.long P1), (.ref A0)])) _
      refine XS.sipush X0.here hx rfl (hb hby d5_3) ?_
      show Steps p.tables e below (s₁.setTop (mkF m 6 #[.val (.ref A0), .val (.long P1), .second, .val (.long P2), .second] [(.int (1000 : Int32)), (.long P2), (.long P1), (.ref A0)])) _
      refine st101 _ ?_
      show Steps p.tables e below (T101.setTop (mkF m 9 #[.val (.ref A0), .val (.long P1), .second, .val (.long P2), .second] [(.long (own_fd P2 ((1000 : Int32).toInt64))), (.long P1), (.ref A0)])) _
      refine XS.lsub X101.here hx rfl (hb hby d5_9) rfl ?_
      show Steps p.tables e below (T101.setTop (mkF m 10 #[.val (.ref A0), .val (.long P1), .second, .val (.long P2), .second] [(.long (P1 - (own_fd P2 ((1000 : Int32).toInt64)))), (.ref A0)])) _
      refine st102 _ ?_
      exact kt)
  have c105 : Exa Z h102 A0 "com/example/holdfast/holdfast/NodeClock" := (pm1.wr W102)
  obtain ⟨fs, hr, hrun, hended, hW, hsame⟩ := X102.leave (v := none) (fun _ => rfl)
  refine ⟨_, _, pre104 _ ?_, hrun, hended, _, _, rfl, ?_, ⟨_, rfl⟩, hW, hsame.mono (by decide) (by decide)⟩
  · show Steps p.tables e below (T102.setTop (mkF m 13 #[.val (.ref A0), .val (.long P1), .second, .val (.long P2), .second] [])) _
    exact X102.returnOut hx Bd.returns (hb hby d5_13) hr
  · show Q5 Z A0 P1 P2 W0 h0 n0 _ T102.heap _
    rw [e102]
    exact ⟨rfl, N102, K_103, c105, Fw102⟩
theorem d9_0 : decode prog_9_method_4_code 0 = .ok (.aload_n 0, 1) := by decide +kernel
theorem d9_1 : decode prog_9_method_4_code 1 = .ok (.getfield 13, 3) := by decide +kernel
theorem d9_4 : decode prog_9_method_4_code 4 = .ok (.lstore 5, 2) := by decide +kernel
theorem d9_6 : decode prog_9_method_4_code 6 = .ok (.lload 5, 2) := by decide +kernel
theorem d9_8 : decode prog_9_method_4_code 8 = .ok (.ldc2_w 11, 3) := by decide +kernel
theorem d9_11 : decode prog_9_method_4_code 11 = .ok (.lcmp, 1) := by decide +kernel
theorem d9_12 : decode prog_9_method_4_code 12 = .ok (.ifCond .ne 13, 3) := by decide +kernel
theorem d9_25 : decode prog_9_method_4_code 25 = .ok (.lload_n 1, 1) := by decide +kernel
theorem d9_26 : decode prog_9_method_4_code 26 = .ok (.sipush 1000, 3) := by decide +kernel
theorem d9_29 : decode prog_9_method_4_code 29 = .ok (.invokestatic 17, 3) := by decide +kernel
theorem d9_32 : decode prog_9_method_4_code 32 = .ok (.lload_n 3, 1) := by decide +kernel
theorem d9_33 : decode prog_9_method_4_code 33 = .ok (.sipush 1000, 3) := by decide +kernel
theorem d9_36 : decode prog_9_method_4_code 36 = .ok (.invokestatic 17, 3) := by decide +kernel
theorem d9_39 : decode prog_9_method_4_code 39 = .ok (.ladd, 1) := by decide +kernel
theorem d9_40 : decode prog_9_method_4_code 40 = .ok (.lload 5, 2) := by decide +kernel
theorem d9_42 : decode prog_9_method_4_code 42 = .ok (.ladd, 1) := by decide +kernel
theorem d9_43 : decode prog_9_method_4_code 43 = .ok (.lreturn, 1) := by decide +kernel
theorem pn_9 : plainName "com/example/holdfast/holdfast/NodeClock" = true := by first | (simp [plainName, overriddenIn]; done) | decide +kernel
theorem pd_9_0 : parseMethodDescriptor "(JI)J" = some ⟨[.long, .int], some .long⟩ := by decide +kernel
theorem ef_9 (m : MethodId) (A0 : Addr) (P1 : Int64) (P2 : Int64) : entryFrame m #[(.ref A0), (.long P1), (.long P2)] 7 = mkF m 0 #[.val (.ref A0), .val (.long P1), .second, .val (.long P2), .second, .unset, .unset] [] := by first | (simp [entryFrame, mkF, argsToLocals, Value.category]; done) | rfl
def Q9 (Z : State) (A0 : Addr) (P1 : Int64) (P2 : Int64) (W0 : Int64) (h0 : Heap) (n0 : Nat) (v : Option Value) (h : Heap) (L : List Loc) : Prop := (v = some (.long (((own_fd P1 ((1000 : Int32).toInt64)) + (own_fd P2 ((1000 : Int32).toInt64))) + W0))) ∧ (Fr n0 L) ∧ (h = h0)
set_option maxRecDepth 65536 in
set_option maxHeartbeats 40000000 in
theorem rm9 (l : Launch) (Z : State) (a0 : Array Value) (hw : ∀ d ∈ tables_1, d.before a0 Z = true) (ws : List Jvm.Cond) (A0 : Addr) (P1 : Int64) (P2 : Int64) (W0 : Int64) (h0 : Heap) (n0 : Nat) (Z0 : n0 ≤ h0.size) (pm0 : Fld Z h0 A0 "com/example/holdfast/holdfast/NodeClock" "leadMicros" "J" (.long W0)) (hne : ¬ (W0 = (-9223372036854775808 : Int64))) :
    MetFree l (⟨"com/example/holdfast/holdfast/NodeClock", "deadline", "(JJ)J"⟩ : MethodName) (head1 (Jvm.Cond.code (⟨"com/example/holdfast/holdfast/NodeClock", "deadline", "(JJ)J"⟩ : MethodName) prog_9_method_4_code 7 (some .long) :: ws) ({ frames := 2, cells := 0, slots := 0, locals := 33 } : Room)) (fun a U => a = #[(.ref A0), (.long P1), (.long P2)] ∧ Z.Warmed39 U.vm ∧ U.heap = h0) (fun _ _ _ _ _ => True) (fun _ U o U' => ∃ v L, o = .returned v ∧ Q9 Z A0 P1 P2 W0 h0 n0 v U'.heap L ∧ FrameEnd U o U' L ({ frames := 2, cells := 0, slots := 0, locals := 33 } : Room).cells ({ frames := 2, cells := 0, slots := 0, locals := 33 } : Room).slots) := by
  refine MetFree.of_bodySF (plainFor_of_name pn_9) hisR ?_
  intro p e s m args below meth c s₁ Bd hml0 hP hK
  obtain ⟨rfl, hZ, hh⟩ := hP
  have hx := Bd.exec
  have hby := Bd.bytes
  have hml : c.maxLocals = 7 := hml0
  have hown : s.vm.findClass "com/example/holdfast/holdfast/NodeClock" = some m.cls := findClass_of_methodNamed Bd.named
  have hnm := (name_of_methodNamed Bd.named Bd.method).1
  have X0 : Stand p l e ({ frames := 2, cells := 0, slots := 0, locals := 33 } : Room) s m #[(.ref A0), (.long P1), (.long P2)] below meth c s₁ [] 0 0 := Stand.of_body Bd
  have e0 : s₁.heap = h0 := by rw [← hh, Bd.state]; rfl
  have N0 := Fr.nil n0
  have pre0 : ∀ t, Steps p.tables e below (s₁.setTop (mkF m 0 #[.val (.ref A0), .val (.long P1), .second, .val (.long P2), .second, .unset, .unset] [])) t → Steps p.tables e below (s₁.setTop (entryFrame m #[(.ref A0), (.long P1), (.long P2)] 7)) t := fun t k => castTop (ef_9 m A0 P1 P2) k
  obtain ⟨T101, X101, e101, st101⟩ := getF X0 hx hZ hown (host := "") (Or.inl (hw _ (List.mem_of_getElem? (i := 10) rfl))) Via.refl e0 pm0 (g := (mkF m 1 #[.val (.ref A0), .val (.long P1), .second, .val (.long P2), .second, .unset, .unset] [(.ref A0)])) rfl rfl (hb hby d9_1)
  obtain ⟨_, _, ⟨T102, L102, k102, n102⟩, -, X102, ⟨Lc102, hQ102, l102, y102, z102⟩, st102⟩ := Jvm.LawKit.callS X101 hx (y := (⟨"java/lang/Math", "floorDiv", "(JI)J"⟩ : MethodName)) hown (mvT hZ (hw _ (List.mem_of_getElem? (i := 28) rfl))) (mvT hZ (hw _ (List.mem_of_getElem? (i := 29) rfl))) (mvT hZ (hw _ (List.mem_of_getElem? (i := 30) rfl))) (mvT hZ (hw _ (List.mem_of_getElem? (i := 31) rfl))) (by decide) (backOf (W := 0) (rm6 l Z a0 hw [] P1 (1000 : Int32) h0 n0 Z0 (show ((1000 : Int32).toInt64) ≠ (0 : Int64) from (by decide))) hZ (hw _ (List.mem_of_getElem? (i := 31) rfl)) (hw _ (List.mem_of_getElem? (i := 30) rfl)) (by decide) (by decide)) (g := (mkF m 29 #[.val (.ref A0), .val (.long P1), .second, .val (.long P2), .second, .val (.long W0), .second] [(.int (1000 : Int32)), (.long P1)])) rfl (by rw [hml]; rfl) (argsL := [(.long P1), (.int (1000 : Int32))]) (rest := []) (lenOf pd_9_0 rfl) rfl (by show 2 * 0 + _ ≤ _; exact Nat.le_of_eq rfl) (hb hby d9_29) (fun _ _ => ⟨rfl, e101, (by decide : 0 + 0 ≤ _), (by decide : 0 + 0 ≤ _)⟩)
  dsimp only [Pt.U, Pt.locs, Pt.cells, Pt.slots] at X102 l102 y102 z102 st102 hQ102
  subst l102 y102 z102
  obtain ⟨rfl, N102q, K102⟩ := hQ102
  have N102 := Fr.app N0 N102q
  obtain ⟨_, _, ⟨T103, L103, k103, n103⟩, -, X103, ⟨Lc103, hQ103, l103, y103, z103⟩, st103⟩ := Jvm.LawKit.callS X102 hx (y := (⟨"java/lang/Math", "floorDiv", "(JI)J"⟩ : MethodName)) hown (mvT hZ (hw _ (List.mem_of_getElem? (i := 28) rfl))) (mvT hZ (hw _ (List.mem_of_getElem? (i := 29) rfl))) (mvT hZ (hw _ (List.mem_of_getElem? (i := 30) rfl))) (mvT hZ (hw _ (List.mem_of_getElem? (i := 31) rfl))) (by decide) (backOf (W := 2) (rm6 l Z a0 hw [] P2 (1000 : Int32) h0 n0 Z0 (show ((1000 : Int32).toInt64) ≠ (0 : Int64) from (by decide))) hZ (hw _ (List.mem_of_getElem? (i := 31) rfl)) (hw _ (List.mem_of_getElem? (i := 30) rfl)) (by decide) (by decide)) (g := (mkF m 36 #[.val (.ref A0), .val (.long P1), .second, .val (.long P2), .second, .val (.long W0), .second] [(.int (1000 : Int32)), (.long P2), (.long (own_fd P1 ((1000 : Int32).toInt64)))])) rfl (by rw [hml]; rfl) (argsL := [(.long P2), (.int (1000 : Int32))]) (rest := [(.long (own_fd P1 ((1000 : Int32).toInt64)))]) (lenOf pd_9_0 rfl) rfl (by show 2 * 0 + _ ≤ _; exact Nat.le_of_eq rfl) (hb hby d9_36) (fun _ _ => ⟨rfl, K102, (by decide : 0 + 0 ≤ _), (by decide : 0 + 0 ≤ _)⟩)
  dsimp only [Pt.U, Pt.locs, Pt.cells, Pt.slots] at X103 l103 y103 z103 st103 hQ103
  subst l103 y103 z103
  obtain ⟨rfl, N103q, K103⟩ := hQ103
  have N103 := Fr.app N102 N103q
  have pre104 : ∀ t, Steps p.tables e below (T103.setTop (mkF m 43 #[.val (.ref A0), .val (.long P1), .second, .val (.long P2), .second, .val (.long W0), .second] [(.long (((own_fd P1 ((1000 : Int32).toInt64)) + (own_fd P2 ((1000 : Int32).toInt64))) + W0))])) t → Steps p.tables e below (s₁.setTop (entryFrame m #[(.ref A0), (.long P1), (.long P2)] 7)) t := fun t kt => pre0 t (by
      show Steps p.tables e below (s₁.setTop (mkF m 0 #[.val (.ref A0), .val (.long P1), .second, .val (.long P2), .second, .unset, .unset] [])) _
      refine XS.aloadN X0.here hx rfl (hb hby d9_0) rfl rfl ?_
      show Steps p.tables e below (s₁.setTop (mkF m 1 #[.val (.ref A0), .val (.long P1), .second, .val (.long P2), .second, .unset, .unset] [(.ref A0)])) _
      refine st101 _ ?_
      show Steps p.tables e below (T101.setTop (mkF m 4 #[.val (.ref A0), .val (.long P1), .second, .val (.long P2), .second, .unset, .unset] [(.long W0)])) _
      refine XS.lstore X101.here hx rfl (hb hby d9_4) rfl (l' := #[.val (.ref A0), .val (.long P1), .second, .val (.long P2), .second, .val (.long W0), .second]) rfl ?_
      show Steps p.tables e below (T101.setTop (mkF m 6 #[.val (.ref A0), .val (.long P1), .second, .val (.long P2), .second, .val (.long W0), .second] [])) _
      refine XS.lload X101.here hx rfl (hb hby d9_6) rfl ?_
      show Steps p.tables e below (T101.setTop (mkF m 8 #[.val (.ref A0), .val (.long P1), .second, .val (.long P2), .second, .val (.long W0), .second] [(.long W0)])) _
      refine X101.ldc2Long hx hown (mvT hZ (hw _ (List.mem_of_getElem? (i := 9) rfl))) (g := (mkF m 8 #[.val (.ref A0), .val (.long P1), .second, .val (.long P2), .second, .val (.long W0), .second] [(.long W0)])) rfl (hb hby d9_8) _ ?_
      show Steps p.tables e below (T101.setTop (mkF m 11 #[.val (.ref A0), .val (.long P1), .second, .val (.long P2), .second, .val (.long W0), .second] [(.long (-9223372036854775808 : Int64)), (.long W0)])) _
      refine XS.lcmp X101.here hx rfl (hb hby d9_11) rfl ?_
      show Steps p.tables e below (T101.setTop (mkF m 12 #[.val (.ref A0), .val (.long P1), .second, .val (.long P2), .second, .val (.long W0), .second] [(.int (lcmpW W0 (-9223372036854775808 : Int64)))])) _
      refine XS.ifYes X101.here hx rfl (pc0 := 12) (pc' := 25) rfl (hb hby d9_12) rfl ((if0 _ _).trans (feq (fun q => (show ¬ (W0 = (-9223372036854775808 : Int64)) from hne) ((lw_eq W0 (-9223372036854775808 : Int64)).mp q))).2) (by decide) (by decide) ?_
      show Steps p.tables e below (T101.setTop (mkF m 25 #[.val (.ref A0), .val (.long P1), .second, .val (.long P2), .second, .val (.long W0), .second] [])) _
      refine XS.lloadN X101.here hx rfl (hb hby d9_25) rfl ?_
      show Steps p.tables e below (T101.setTop (mkF m 26 #[.val (.ref A0), .val (.long P1), .second, .val (.long P2), .second, .val (.long W0), .second] [(.long P1)])) _
      refine XS.sipush X101.here hx rfl (hb hby d9_26) ?_
      show Steps p.tables e below (T101.setTop (mkF m 29 #[.val (.ref A0), .val (.long P1), .second, .val (.long P2), .second, .val (.long W0), .second] [(.int (1000 : Int32)), (.long P1)])) _
      refine st102 _ ?_
      show Steps p.tables e below (T102.setTop (mkF m 32 #[.val (.ref A0), .val (.long P1), .second, .val (.long P2), .second, .val (.long W0), .second] [(.long (own_fd P1 ((1000 : Int32).toInt64)))])) _
      refine XS.lloadN X102.here hx rfl (hb hby d9_32) rfl ?_
      show Steps p.tables e below (T102.setTop (mkF m 33 #[.val (.ref A0), .val (.long P1), .second, .val (.long P2), .second, .val (.long W0), .second] [(.long P2), (.long (own_fd P1 ((1000 : Int32).toInt64)))])) _
      refine XS.sipush X102.here hx rfl (hb hby d9_33) ?_
      show Steps p.tables e below (T102.setTop (mkF m 36 #[.val (.ref A0), .val (.long P1), .second, .val (.long P2), .second, .val (.long W0), .second] [(.int (1000 : Int32)), (.long P2), (.long (own_fd P1 ((1000 : Int32).toInt64)))])) _
      refine st103 _ ?_
      show Steps p.tables e below (T103.setTop (mkF m 39 #[.val (.ref A0), .val (.long P1), .second, .val (.long P2), .second, .val (.long W0), .second] [(.long (own_fd P2 ((1000 : Int32).toInt64))), (.long (own_fd P1 ((1000 : Int32).toInt64)))])) _
      refine XS.ladd X103.here hx rfl (hb hby d9_39) rfl ?_
      show Steps p.tables e below (T103.setTop (mkF m 40 #[.val (.ref A0), .val (.long P1), .second, .val (.long P2), .second, .val (.long W0), .second] [(.long ((own_fd P1 ((1000 : Int32).toInt64)) + (own_fd P2 ((1000 : Int32).toInt64))))])) _
      refine XS.lload X103.here hx rfl (hb hby d9_40) rfl ?_
      show Steps p.tables e below (T103.setTop (mkF m 42 #[.val (.ref A0), .val (.long P1), .second, .val (.long P2), .second, .val (.long W0), .second] [(.long W0), (.long ((own_fd P1 ((1000 : Int32).toInt64)) + (own_fd P2 ((1000 : Int32).toInt64))))])) _
      refine XS.ladd X103.here hx rfl (hb hby d9_42) rfl ?_
      exact kt)
  obtain ⟨fs, hr, hrun, hended, hW, hsame⟩ := X103.leave (v := some (.long (((own_fd P1 ((1000 : Int32).toInt64)) + (own_fd P2 ((1000 : Int32).toInt64))) + W0))) (fun h => by rw [Bd.returns] at h; cases h)
  refine ⟨_, _, pre104 _ ?_, hrun, hended, _, _, rfl, ?_, ⟨_, rfl⟩, hW, hsame.mono (by decide) (by decide)⟩
  · show Steps p.tables e below (T103.setTop (mkF m 43 #[.val (.ref A0), .val (.long P1), .second, .val (.long P2), .second, .val (.long W0), .second] [(.long (((own_fd P1 ((1000 : Int32).toInt64)) + (own_fd P2 ((1000 : Int32).toInt64))) + W0))])) _
    exact retOut X103 hx Bd.returns rfl (Or.inr (Or.inl ⟨rfl, rfl, _, rfl⟩)) (hb hby d9_43) hr
  · show Q9 Z A0 P1 P2 W0 h0 n0 _ T103.heap _
    rw [K103]
    exact ⟨rfl, N103, rfl⟩
theorem d4_0 : decode method_2_code 0 = .ok (.lload_n 0, 1) := by decide +kernel
theorem d4_1 : decode method_2_code 1 = .ok (.ldc2_w 7, 3) := by decide +kernel
theorem d4_4 : decode method_2_code 4 = .ok (.ldiv, 1) := by decide +kernel
theorem d4_5 : decode method_2_code 5 = .ok (.lstore_n 2, 1) := by decide +kernel
theorem d4_6 : decode method_2_code 6 = .ok (.lload_n 0, 1) := by decide +kernel
theorem d4_7 : decode method_2_code 7 = .ok (.ldc2_w 7, 3) := by decide +kernel
theorem d4_10 : decode method_2_code 10 = .ok (.lrem, 1) := by decide +kernel
theorem d4_11 : decode method_2_code 11 = .ok (.lconst 0, 1) := by decide +kernel
theorem d4_12 : decode method_2_code 12 = .ok (.lcmp, 1) := by decide +kernel
theorem d4_13 : decode method_2_code 13 = .ok (.ifCond .eq 13, 3) := by decide +kernel
theorem d4_16 : decode method_2_code 16 = .ok (.lload_n 0, 1) := by decide +kernel
theorem d4_17 : decode method_2_code 17 = .ok (.lconst 0, 1) := by decide +kernel
theorem d4_18 : decode method_2_code 18 = .ok (.lcmp, 1) := by decide +kernel
theorem d4_19 : decode method_2_code 19 = .ok (.ifCond .ge 7, 3) := by decide +kernel
theorem d4_22 : decode method_2_code 22 = .ok (.lload_n 2, 1) := by decide +kernel
theorem d4_23 : decode method_2_code 23 = .ok (.lconst 1, 1) := by decide +kernel
theorem d4_24 : decode method_2_code 24 = .ok (.lsub, 1) := by decide +kernel
theorem d4_25 : decode method_2_code 25 = .ok (.lstore_n 2, 1) := by decide +kernel
theorem d4_26 : decode method_2_code 26 = .ok (.lload_n 2, 1) := by decide +kernel
theorem d4_27 : decode method_2_code 27 = .ok (.lreturn, 1) := by decide +kernel
theorem pn_4 : plainName "com/example/holdfast/holdfast/NodeClockIsKnownPinLaw" = true := by first | (simp [plainName, overriddenIn]; done) | decide +kernel
theorem ef_4 (m : MethodId) (P0 : Int64) : entryFrame m #[(.long P0)] 4 = mkF m 0 #[.val (.long P0), .second, .unset, .unset] [] := by first | (simp [entryFrame, mkF, argsToLocals, Value.category]; done) | rfl
def Q4 (Z : State) (P0 : Int64) (h0 : Heap) (n0 : Nat) (v : Option Value) (h : Heap) (L : List Loc) : Prop := (v = some (.long (own_f1 P0))) ∧ (Fr n0 L) ∧ (h = h0)
set_option maxRecDepth 65536 in
set_option maxHeartbeats 40000000 in
theorem rm4 (l : Launch) (Z : State) (a0 : Array Value) (hw : ∀ d ∈ tables_1, d.before a0 Z = true) (ws : List Jvm.Cond) (P0 : Int64) (h0 : Heap) (n0 : Nat) (Z0 : n0 ≤ h0.size) :
    MetFree l (⟨"com/example/holdfast/holdfast/NodeClockIsKnownPinLaw", "floorDiv1000", "(J)J"⟩ : MethodName) (head1 (Jvm.Cond.code (⟨"com/example/holdfast/holdfast/NodeClockIsKnownPinLaw", "floorDiv1000", "(J)J"⟩ : MethodName) method_2_code 4 (some .long) :: ws) ({ frames := 0, cells := 0, slots := 0, locals := 0 } : Room)) (fun a U => a = #[(.long P0)] ∧ Z.Warmed39 U.vm ∧ U.heap = h0) (fun _ _ _ _ _ => True) (fun _ U o U' => ∃ v L, o = .returned v ∧ Q4 Z P0 h0 n0 v U'.heap L ∧ FrameEnd U o U' L ({ frames := 0, cells := 0, slots := 0, locals := 0 } : Room).cells ({ frames := 0, cells := 0, slots := 0, locals := 0 } : Room).slots) := by
  refine MetFree.of_bodySF (plainFor_of_name pn_4) hisR ?_
  intro p e s m args below meth c s₁ Bd hml0 hP hK
  obtain ⟨rfl, hZ, hh⟩ := hP
  have hx := Bd.exec
  have hby := Bd.bytes
  have hml : c.maxLocals = 4 := hml0
  have hown : s.vm.findClass "com/example/holdfast/holdfast/NodeClockIsKnownPinLaw" = some m.cls := findClass_of_methodNamed Bd.named
  have hnm := (name_of_methodNamed Bd.named Bd.method).1
  have X0 : Stand p l e ({ frames := 0, cells := 0, slots := 0, locals := 0 } : Room) s m #[(.long P0)] below meth c s₁ [] 0 0 := Stand.of_body Bd
  have e0 : s₁.heap = h0 := by rw [← hh, Bd.state]; rfl
  have N0 := Fr.nil n0
  have pre0 : ∀ t, Steps p.tables e below (s₁.setTop (mkF m 0 #[.val (.long P0), .second, .unset, .unset] [])) t → Steps p.tables e below (s₁.setTop (entryFrame m #[(.long P0)] 4)) t := fun t k => castTop (ef_4 m P0) k
  have pre101 : ∀ t, Steps p.tables e below (s₁.setTop (mkF m 13 #[.val (.long P0), .second, .val (.long (P0 / (1000 : Int64))), .second] [(.int (lcmpW (P0 - (P0 / (1000 : Int64)) * (1000 : Int64)) (0 : Int64)))])) t → Steps p.tables e below (s₁.setTop (entryFrame m #[(.long P0)] 4)) t := fun t kt => pre0 t (by
      show Steps p.tables e below (s₁.setTop (mkF m 0 #[.val (.long P0), .second, .unset, .unset] [])) _
      refine XS.lloadN X0.here hx rfl (hb hby d4_0) rfl ?_
      show Steps p.tables e below (s₁.setTop (mkF m 1 #[.val (.long P0), .second, .unset, .unset] [(.long P0)])) _
      refine X0.ldc2Long hx hown (mvT hZ (hw _ (List.mem_of_getElem? (i := 21) rfl))) (g := (mkF m 1 #[.val (.long P0), .second, .unset, .unset] [(.long P0)])) rfl (hb hby d4_1) _ ?_
      show Steps p.tables e below (s₁.setTop (mkF m 4 #[.val (.long P0), .second, .unset, .unset] [(.long (1000 : Int64)), (.long P0)])) _
      refine XS.ldiv X0.here hx rfl (hb hby d4_4) rfl (by decide) ?_
      show Steps p.tables e below (s₁.setTop (mkF m 5 #[.val (.long P0), .second, .unset, .unset] [(.long (P0 / (1000 : Int64)))])) _
      refine XS.lstoreN X0.here hx rfl (hb hby d4_5) rfl (l' := #[.val (.long P0), .second, .val (.long (P0 / (1000 : Int64))), .second]) rfl ?_
      show Steps p.tables e below (s₁.setTop (mkF m 6 #[.val (.long P0), .second, .val (.long (P0 / (1000 : Int64))), .second] [])) _
      refine XS.lloadN X0.here hx rfl (hb hby d4_6) rfl ?_
      show Steps p.tables e below (s₁.setTop (mkF m 7 #[.val (.long P0), .second, .val (.long (P0 / (1000 : Int64))), .second] [(.long P0)])) _
      refine X0.ldc2Long hx hown (mvT hZ (hw _ (List.mem_of_getElem? (i := 21) rfl))) (g := (mkF m 7 #[.val (.long P0), .second, .val (.long (P0 / (1000 : Int64))), .second] [(.long P0)])) rfl (hb hby d4_7) _ ?_
      show Steps p.tables e below (s₁.setTop (mkF m 10 #[.val (.long P0), .second, .val (.long (P0 / (1000 : Int64))), .second] [(.long (1000 : Int64)), (.long P0)])) _
      refine XS.lrem X0.here hx rfl (hb hby d4_10) rfl (by decide) ?_
      show Steps p.tables e below (s₁.setTop (mkF m 11 #[.val (.long P0), .second, .val (.long (P0 / (1000 : Int64))), .second] [(.long (P0 - (P0 / (1000 : Int64)) * (1000 : Int64)))])) _
      refine XS.lconst X0.here hx rfl (hb hby d4_11) ?_
      show Steps p.tables e below (s₁.setTop (mkF m 12 #[.val (.long P0), .second, .val (.long (P0 / (1000 : Int64))), .second] [(.long (0 : Int64)), (.long (P0 - (P0 / (1000 : Int64)) * (1000 : Int64)))])) _
      refine XS.lcmp X0.here hx rfl (hb hby d4_12) rfl ?_
      exact kt)
  by_cases hc13 : (P0 - (P0 / (1000 : Int64)) * (1000 : Int64)) = (0 : Int64)
  · have pre102 : ∀ t, Steps p.tables e below (s₁.setTop (mkF m 27 #[.val (.long P0), .second, .val (.long (P0 / (1000 : Int64))), .second] [(.long (P0 / (1000 : Int64)))])) t → Steps p.tables e below (s₁.setTop (entryFrame m #[(.long P0)] 4)) t := fun t kt => pre101 t (by
        show Steps p.tables e below (s₁.setTop (mkF m 13 #[.val (.long P0), .second, .val (.long (P0 / (1000 : Int64))), .second] [(.int (lcmpW (P0 - (P0 / (1000 : Int64)) * (1000 : Int64)) (0 : Int64)))])) _
        refine XS.ifYes X0.here hx rfl (pc0 := 13) (pc' := 26) rfl (hb hby d4_13) rfl ((if0 _ _).trans (teq ((lw_eq (P0 - (P0 / (1000 : Int64)) * (1000 : Int64)) (0 : Int64)).mpr hc13)).1) (by decide) (by decide) ?_
        show Steps p.tables e below (s₁.setTop (mkF m 26 #[.val (.long P0), .second, .val (.long (P0 / (1000 : Int64))), .second] [])) _
        refine XS.lloadN X0.here hx rfl (hb hby d4_26) rfl ?_
        exact kt)
    obtain ⟨fs, hr, hrun, hended, hW, hsame⟩ := X0.leave (v := some (.long (P0 / (1000 : Int64)))) (fun h => by rw [Bd.returns] at h; cases h)
    refine ⟨_, _, pre102 _ ?_, hrun, hended, _, _, rfl, ?_, ⟨_, rfl⟩, hW, hsame.mono (by decide) (by decide)⟩
    · show Steps p.tables e below (s₁.setTop (mkF m 27 #[.val (.long P0), .second, .val (.long (P0 / (1000 : Int64))), .second] [(.long (P0 / (1000 : Int64)))])) _
      exact retOut X0 hx Bd.returns rfl (Or.inr (Or.inl ⟨rfl, rfl, _, rfl⟩)) (hb hby d4_27) hr
    · show Q4 Z P0 h0 n0 _ s₁.heap _
      rw [e0]
      exact ⟨(congrArg (fun z => some (Value.long z)) (show (P0 / (1000 : Int64)) = (own_f1 P0) from by unfold own_f1; rw [if_pos hc13])), N0, rfl⟩
  · have pre103 : ∀ t, Steps p.tables e below (s₁.setTop (mkF m 19 #[.val (.long P0), .second, .val (.long (P0 / (1000 : Int64))), .second] [(.int (lcmpW P0 (0 : Int64)))])) t → Steps p.tables e below (s₁.setTop (entryFrame m #[(.long P0)] 4)) t := fun t kt => pre101 t (by
        show Steps p.tables e below (s₁.setTop (mkF m 13 #[.val (.long P0), .second, .val (.long (P0 / (1000 : Int64))), .second] [(.int (lcmpW (P0 - (P0 / (1000 : Int64)) * (1000 : Int64)) (0 : Int64)))])) _
        refine XS.ifNo X0.here hx rfl (hb hby d4_13) rfl ((if0 _ _).trans (feq (fun q => hc13 ((lw_eq (P0 - (P0 / (1000 : Int64)) * (1000 : Int64)) (0 : Int64)).mp q))).1) ?_
        show Steps p.tables e below (s₁.setTop (mkF m 16 #[.val (.long P0), .second, .val (.long (P0 / (1000 : Int64))), .second] [])) _
        refine XS.lloadN X0.here hx rfl (hb hby d4_16) rfl ?_
        show Steps p.tables e below (s₁.setTop (mkF m 17 #[.val (.long P0), .second, .val (.long (P0 / (1000 : Int64))), .second] [(.long P0)])) _
        refine XS.lconst X0.here hx rfl (hb hby d4_17) ?_
        show Steps p.tables e below (s₁.setTop (mkF m 18 #[.val (.long P0), .second, .val (.long (P0 / (1000 : Int64))), .second] [(.long (0 : Int64)), (.long P0)])) _
        refine XS.lcmp X0.here hx rfl (hb hby d4_18) rfl ?_
        exact kt)
    by_cases hc19 : P0 < (0 : Int64)
    · have pre104 : ∀ t, Steps p.tables e below (s₁.setTop (mkF m 27 #[.val (.long P0), .second, .val (.long ((P0 / (1000 : Int64)) - (1 : Int64))), .second] [(.long ((P0 / (1000 : Int64)) - (1 : Int64)))])) t → Steps p.tables e below (s₁.setTop (entryFrame m #[(.long P0)] 4)) t := fun t kt => pre103 t (by
          show Steps p.tables e below (s₁.setTop (mkF m 19 #[.val (.long P0), .second, .val (.long (P0 / (1000 : Int64))), .second] [(.int (lcmpW P0 (0 : Int64)))])) _
          refine XS.ifNo X0.here hx rfl (hb hby d4_19) rfl ((if0 _ _).trans (tlt ((lw_lt P0 (0 : Int64)).mpr hc19)).2.1) ?_
          show Steps p.tables e below (s₁.setTop (mkF m 22 #[.val (.long P0), .second, .val (.long (P0 / (1000 : Int64))), .second] [])) _
          refine XS.lloadN X0.here hx rfl (hb hby d4_22) rfl ?_
          show Steps p.tables e below (s₁.setTop (mkF m 23 #[.val (.long P0), .second, .val (.long (P0 / (1000 : Int64))), .second] [(.long (P0 / (1000 : Int64)))])) _
          refine XS.lconst X0.here hx rfl (hb hby d4_23) ?_
          show Steps p.tables e below (s₁.setTop (mkF m 24 #[.val (.long P0), .second, .val (.long (P0 / (1000 : Int64))), .second] [(.long (1 : Int64)), (.long (P0 / (1000 : Int64)))])) _
          refine XS.lsub X0.here hx rfl (hb hby d4_24) rfl ?_
          show Steps p.tables e below (s₁.setTop (mkF m 25 #[.val (.long P0), .second, .val (.long (P0 / (1000 : Int64))), .second] [(.long ((P0 / (1000 : Int64)) - (1 : Int64)))])) _
          refine XS.lstoreN X0.here hx rfl (hb hby d4_25) rfl (l' := #[.val (.long P0), .second, .val (.long ((P0 / (1000 : Int64)) - (1 : Int64))), .second]) rfl ?_
          show Steps p.tables e below (s₁.setTop (mkF m 26 #[.val (.long P0), .second, .val (.long ((P0 / (1000 : Int64)) - (1 : Int64))), .second] [])) _
          refine XS.lloadN X0.here hx rfl (hb hby d4_26) rfl ?_
          exact kt)
      obtain ⟨fs, hr, hrun, hended, hW, hsame⟩ := X0.leave (v := some (.long ((P0 / (1000 : Int64)) - (1 : Int64)))) (fun h => by rw [Bd.returns] at h; cases h)
      refine ⟨_, _, pre104 _ ?_, hrun, hended, _, _, rfl, ?_, ⟨_, rfl⟩, hW, hsame.mono (by decide) (by decide)⟩
      · show Steps p.tables e below (s₁.setTop (mkF m 27 #[.val (.long P0), .second, .val (.long ((P0 / (1000 : Int64)) - (1 : Int64))), .second] [(.long ((P0 / (1000 : Int64)) - (1 : Int64)))])) _
        exact retOut X0 hx Bd.returns rfl (Or.inr (Or.inl ⟨rfl, rfl, _, rfl⟩)) (hb hby d4_27) hr
      · show Q4 Z P0 h0 n0 _ s₁.heap _
        rw [e0]
        exact ⟨(congrArg (fun z => some (Value.long z)) (show ((P0 / (1000 : Int64)) - (1 : Int64)) = (own_f1 P0) from by unfold own_f1; rw [if_neg hc13, if_pos hc19])), N0, rfl⟩
    · have pre105 : ∀ t, Steps p.tables e below (s₁.setTop (mkF m 27 #[.val (.long P0), .second, .val (.long (P0 / (1000 : Int64))), .second] [(.long (P0 / (1000 : Int64)))])) t → Steps p.tables e below (s₁.setTop (entryFrame m #[(.long P0)] 4)) t := fun t kt => pre103 t (by
          show Steps p.tables e below (s₁.setTop (mkF m 19 #[.val (.long P0), .second, .val (.long (P0 / (1000 : Int64))), .second] [(.int (lcmpW P0 (0 : Int64)))])) _
          refine XS.ifYes X0.here hx rfl (pc0 := 19) (pc' := 26) rfl (hb hby d4_19) rfl ((if0 _ _).trans (flt (fun q => hc19 ((lw_lt P0 (0 : Int64)).mp q))).2.1) (by decide) (by decide) ?_
          show Steps p.tables e below (s₁.setTop (mkF m 26 #[.val (.long P0), .second, .val (.long (P0 / (1000 : Int64))), .second] [])) _
          refine XS.lloadN X0.here hx rfl (hb hby d4_26) rfl ?_
          exact kt)
      obtain ⟨fs, hr, hrun, hended, hW, hsame⟩ := X0.leave (v := some (.long (P0 / (1000 : Int64)))) (fun h => by rw [Bd.returns] at h; cases h)
      refine ⟨_, _, pre105 _ ?_, hrun, hended, _, _, rfl, ?_, ⟨_, rfl⟩, hW, hsame.mono (by decide) (by decide)⟩
      · show Steps p.tables e below (s₁.setTop (mkF m 27 #[.val (.long P0), .second, .val (.long (P0 / (1000 : Int64))), .second] [(.long (P0 / (1000 : Int64)))])) _
        exact retOut X0 hx Bd.returns rfl (Or.inr (Or.inl ⟨rfl, rfl, _, rfl⟩)) (hb hby d4_27) hr
      · show Q4 Z P0 h0 n0 _ s₁.heap _
        rw [e0]
        exact ⟨(congrArg (fun z => some (Value.long z)) (show (P0 / (1000 : Int64)) = (own_f1 P0) from by unfold own_f1; rw [if_neg hc13, if_neg hc19])), N0, rfl⟩
theorem own_facts (x : Int64) : ((x ^^^ ((1000 : Int32).toInt64)) < (0 : Int64) ↔ x.toInt < 0) ∧ (0 ≤ x.toInt → ¬ ((x - (x / (1000 : Int64)) * (1000 : Int64)) < (0 : Int64))) ∧ (x.toInt < 0 → ((x - (x / (1000 : Int64)) * (1000 : Int64)) < (0 : Int64) ↔ ¬ (((x / (1000 : Int64)) * (1000 : Int64)) = x))) := by
  have h1 := c_xorSL x ((1000 : Int32).toInt64)
  have hm : (((1000 : Int32).toInt64)).toInt = 1000 := by decide
  have h0 : (0 : Int64).toInt = 0 := rfl
  have hr := c_lrem x (1000 : Int64) 1000 (by decide)
  have hq : ((x - (x / (1000 : Int64)) * (1000 : Int64)).toInt = 0) ↔ (((x / (1000 : Int64)) * (1000 : Int64)) = x) := by
    constructor
    · intro q
      have q' : x - (x / (1000 : Int64)) * (1000 : Int64) = 0 := Int64.toInt_inj.mp q
      have e := Int64.sub_add_cancel x ((x / (1000 : Int64)) * (1000 : Int64))
      rw [q', Int64.zero_add] at e
      exact e
    · intro q
      rw [q, Int64.sub_self]; rfl
  refine ⟨?_, ?_, ?_⟩
  · rw [Int64.lt_iff_toInt_lt, h0]; omega
  · intro hx; rw [Int64.lt_iff_toInt_lt, h0]; omega
  · intro hx
    rw [Int64.lt_iff_toInt_lt, h0, ← hq]; omega
theorem own_m : ((1000 : Int32).toInt64) = (1000 : Int64) := by decide
theorem own_z : own_fd (0 : Int64) ((1000 : Int32).toInt64) = 0 := by decide +kernel
theorem own_fd1 (x : Int64) : own_fd x ((1000 : Int32).toInt64) = own_f1 x := by
  obtain ⟨h1, h2, h3⟩ := own_facts x
  have h0 : (0 : Int64).toInt = 0 := rfl
  have hs : (x < (0 : Int64)) ↔ x.toInt < 0 := by rw [Int64.lt_iff_toInt_lt, h0]
  have hz : ((x - (x / (1000 : Int64)) * (1000 : Int64)) = (0 : Int64)) ↔ (((x / (1000 : Int64)) * (1000 : Int64)) = x) := by
    constructor
    · intro q
      have e := Int64.sub_add_cancel x ((x / (1000 : Int64)) * (1000 : Int64))
      rw [q, Int64.zero_add] at e
      exact e
    · intro q
      rw [q, Int64.sub_self]
  unfold own_fd own_f1
  by_cases hx : x.toInt < 0
  · rw [if_pos (h1.mpr hx), own_m]
    by_cases hc : ((x / (1000 : Int64)) * (1000 : Int64)) = x
    · rw [if_pos hc, if_pos (hz.mpr hc)]
    · rw [if_neg hc, if_neg (fun q => hc (hz.mp q)), if_pos (hs.mpr hx)]
  · rw [if_neg (fun q => hx (h1.mp q)), own_m, if_neg (fun q => hx (hs.mp q))]
    split <;> rfl
theorem own_dl0 (a : Int64) : (((own_fd (0 : Int64) ((1000 : Int32).toInt64)) + (own_fd (0 : Int64) ((1000 : Int32).toInt64))) + a) = a := by
  rw [own_z]
  show (0 : Int64) + 0 + _ = _
  rw [Int64.add_zero, Int64.zero_add]
theorem d8_0 : decode method_3_code 0 = .ok (.aload_n 0, 1) := by decide +kernel
theorem d8_1 : decode method_3_code 1 = .ok (.invokevirtual 9, 3) := by decide +kernel
theorem d8_4 : decode method_3_code 4 = .ok (.istore_n 3, 1) := by decide +kernel
theorem d8_5 : decode method_3_code 5 = .ok (.lload_n 1, 1) := by decide +kernel
theorem d8_6 : decode method_3_code 6 = .ok (.ldc2_w 17, 3) := by decide +kernel
theorem d8_9 : decode method_3_code 9 = .ok (.lcmp, 1) := by decide +kernel
theorem d8_10 : decode method_3_code 10 = .ok (.ifCond .ne 13, 3) := by decide +kernel
theorem d8_13 : decode method_3_code 13 = .ok (.iload_n 3, 1) := by decide +kernel
theorem d8_14 : decode method_3_code 14 = .ok (.ifCond .ne 7, 3) := by decide +kernel
theorem d8_17 : decode method_3_code 17 = .ok (.iconst 1, 1) := by decide +kernel
theorem d8_18 : decode method_3_code 18 = .ok (.goto 4, 3) := by decide +kernel
theorem d8_22 : decode method_3_code 22 = .ok (.ireturn, 1) := by decide +kernel
theorem d8_23 : decode method_3_code 23 = .ok (.iload_n 3, 1) := by decide +kernel
theorem d8_24 : decode method_3_code 24 = .ok (.ifCond .ne 5, 3) := by decide +kernel
theorem d8_29 : decode method_3_code 29 = .ok (.aload_n 0, 1) := by decide +kernel
theorem d8_30 : decode method_3_code 30 = .ok (.lconst 0, 1) := by decide +kernel
theorem d8_31 : decode method_3_code 31 = .ok (.lconst 0, 1) := by decide +kernel
theorem d8_32 : decode method_3_code 32 = .ok (.invokevirtual 19, 3) := by decide +kernel
theorem d8_35 : decode method_3_code 35 = .ok (.lload_n 1, 1) := by decide +kernel
theorem d8_36 : decode method_3_code 36 = .ok (.lcmp, 1) := by decide +kernel
theorem d8_37 : decode method_3_code 37 = .ok (.ifCond .ne 7, 3) := by decide +kernel
theorem d8_40 : decode method_3_code 40 = .ok (.iconst 1, 1) := by decide +kernel
theorem d8_41 : decode method_3_code 41 = .ok (.goto 4, 3) := by decide +kernel
theorem d8_45 : decode method_3_code 45 = .ok (.ireturn, 1) := by decide +kernel
theorem pn_8 : plainName "com/example/holdfast/holdfast/NodeClockIsKnownPinLaw" = true := by first | (simp [plainName, overriddenIn]; done) | decide +kernel
theorem pd_8_0 : parseMethodDescriptor "()Z" = some ⟨[], some .boolean⟩ := by decide +kernel
theorem pd_8_1 : parseMethodDescriptor "(JJ)J" = some ⟨[.long, .long], some .long⟩ := by decide +kernel
theorem ef_8 (m : MethodId) (A0 : Addr) (P1 : Int64) : entryFrame m #[(.ref A0), (.long P1)] 4 = mkF m 0 #[.val (.ref A0), .val (.long P1), .second, .unset] [] := by first | (simp [entryFrame, mkF, argsToLocals, Value.category]; done) | rfl
def Q8 (Z : State) (A0 : Addr) (P1 : Int64) (W0 : Int64) (h0 : Heap) (n0 : Nat) (v : Option Value) (h : Heap) (L : List Loc) : Prop := (v = some (.int (1 : Int32))) ∧ (Fr n0 L) ∧ (h = h0)
set_option maxRecDepth 65536 in
set_option maxHeartbeats 40000000 in
theorem rm8 (l : Launch) (Z : State) (a0 : Array Value) (hw : ∀ d ∈ tables_1, d.before a0 Z = true) (ws : List Jvm.Cond) (A0 : Addr) (P1 : Int64) (W0 : Int64) (h0 : Heap) (n0 : Nat) (Z0 : n0 ≤ h0.size) (pm0 : Fld Z h0 A0 "com/example/holdfast/holdfast/NodeClock" "leadMicros" "J" (.long W0)) (pm1 : Exa Z h0 A0 "com/example/holdfast/holdfast/NodeClock") (he : W0 = P1) :
    MetFree l (⟨"com/example/holdfast/holdfast/NodeClockIsKnownPinLaw", "checkAfterRead", "(Lcom/example/holdfast/holdfast/NodeClock;J)Z"⟩ : MethodName) (head1 (Jvm.Cond.code (⟨"com/example/holdfast/holdfast/NodeClockIsKnownPinLaw", "checkAfterRead", "(Lcom/example/holdfast/holdfast/NodeClock;J)Z"⟩ : MethodName) method_3_code 4 (some .boolean) :: ws) ({ frames := 3, cells := 0, slots := 0, locals := 51 } : Room)) (fun a U => a = #[(.ref A0), (.long P1)] ∧ Z.Warmed39 U.vm ∧ U.heap = h0) (fun _ _ _ _ _ => True) (fun _ U o U' => ∃ v L, o = .returned v ∧ Q8 Z A0 P1 W0 h0 n0 v U'.heap L ∧ FrameEnd U o U' L ({ frames := 3, cells := 0, slots := 0, locals := 51 } : Room).cells ({ frames := 3, cells := 0, slots := 0, locals := 51 } : Room).slots) := by
  refine MetFree.of_bodySF (plainFor_of_name pn_8) hisR ?_
  intro p e s m args below meth c s₁ Bd hml0 hP hK
  obtain ⟨rfl, hZ, hh⟩ := hP
  have hx := Bd.exec
  have hby := Bd.bytes
  have hml : c.maxLocals = 4 := hml0
  have hown : s.vm.findClass "com/example/holdfast/holdfast/NodeClockIsKnownPinLaw" = some m.cls := findClass_of_methodNamed Bd.named
  have hnm := (name_of_methodNamed Bd.named Bd.method).1
  have X0 : Stand p l e ({ frames := 3, cells := 0, slots := 0, locals := 51 } : Room) s m #[(.ref A0), (.long P1)] below meth c s₁ [] 0 0 := Stand.of_body Bd
  have e0 : s₁.heap = h0 := by rw [← hh, Bd.state]; rfl
  have N0 := Fr.nil n0
  have pre0 : ∀ t, Steps p.tables e below (s₁.setTop (mkF m 0 #[.val (.ref A0), .val (.long P1), .second, .unset] [])) t → Steps p.tables e below (s₁.setTop (entryFrame m #[(.ref A0), (.long P1)] 4)) t := fun t k => castTop (ef_8 m A0 P1) k
  obtain ⟨cq101, kq101, q101a, q101b, q101c⟩ := isOf hZ e0 pm1
  obtain ⟨_, _, ⟨T101, L101, k101, n101⟩, -, X101, ⟨Lc101, hQ101, l101, y101, z101⟩, st101⟩ := X0.virtualBack hx (y := (⟨"com/example/holdfast/holdfast/NodeClock", "isKnown", "()Z"⟩ : MethodName)) (z := (⟨"com/example/holdfast/holdfast/NodeClock", "isKnown", "()Z"⟩ : MethodName)) hown (mvT hZ (hw _ (List.mem_of_getElem? (i := 12) rfl))) (mvT hZ (hw _ (List.mem_of_getElem? (i := 13) rfl))) (notFace_of_selects (args := #[]) (mvT hZ (hw _ (List.mem_of_getElem? (i := 15) rfl)))) (mvT hZ (hw _ (List.mem_of_getElem? (i := 15) rfl))) (mvT hZ (hw _ (List.mem_of_getElem? (i := 14) rfl))) (by decide) (backOf (W := 0) (rm3 l Z a0 hw [] A0 W0 h0 n0 Z0 pm0) hZ (hw _ (List.mem_of_getElem? (i := 16) rfl)) (hw _ (List.mem_of_getElem? (i := 2) rfl)) (by decide) (by decide)) q101a q101c (g := (mkF m 1 #[.val (.ref A0), .val (.long P1), .second, .unset] [(.ref A0)])) rfl (by rw [hml]; rfl) (Steps.refl _) (argsL := []) (rest := []) (lenOf pd_8_0 rfl) rfl (by show 2 * 0 + _ ≤ _; exact Nat.le_of_eq rfl) (hb hby d8_1) (fun _ _ => ⟨rfl, e0, (by decide : 0 + 0 ≤ _), (by decide : 0 + 0 ≤ _)⟩)
  dsimp only [Pt.U, Pt.locs, Pt.cells, Pt.slots] at X101 l101 y101 z101 st101 hQ101
  subst l101 y101 z101
  obtain ⟨rfl, N101q, K101⟩ := hQ101
  have N101 := Fr.app N0 N101q
  have pre102 : ∀ t, Steps p.tables e below (T101.setTop (mkF m 10 #[.val (.ref A0), .val (.long P1), .second, .val (.int (if ¬ (W0 = (-9223372036854775808 : Int64)) then (1 : Int32) else (0 : Int32)))] [(.int (lcmpW P1 (-9223372036854775808 : Int64)))])) t → Steps p.tables e below (s₁.setTop (entryFrame m #[(.ref A0), (.long P1)] 4)) t := fun t kt => pre0 t (by
      show Steps p.tables e below (s₁.setTop (mkF m 0 #[.val (.ref A0), .val (.long P1), .second, .unset] [])) _
      refine XS.aloadN X0.here hx rfl (hb hby d8_0) rfl rfl ?_
      show Steps p.tables e below (s₁.setTop (mkF m 1 #[.val (.ref A0), .val (.long P1), .second, .unset] [(.ref A0)])) _
      refine st101.trans ?_
      show Steps p.tables e below (T101.setTop (mkF m 4 #[.val (.ref A0), .val (.long P1), .second, .unset] [(.int (if ¬ (W0 = (-9223372036854775808 : Int64)) then (1 : Int32) else (0 : Int32)))])) _
      refine XS.istoreN X101.here hx rfl (hb hby d8_4) rfl (l' := #[.val (.ref A0), .val (.long P1), .second, .val (.int (if ¬ (W0 = (-9223372036854775808 : Int64)) then (1 : Int32) else (0 : Int32)))]) rfl ?_
      show Steps p.tables e below (T101.setTop (mkF m 5 #[.val (.ref A0), .val (.long P1), .second, .val (.int (if ¬ (W0 = (-9223372036854775808 : Int64)) then (1 : Int32) else (0 : Int32)))] [])) _
      refine XS.lloadN X101.here hx rfl (hb hby d8_5) rfl ?_
      show Steps p.tables e below (T101.setTop (mkF m 6 #[.val (.ref A0), .val (.long P1), .second, .val (.int (if ¬ (W0 = (-9223372036854775808 : Int64)) then (1 : Int32) else (0 : Int32)))] [(.long P1)])) _
      refine X101.ldc2Long hx hown (mvT hZ (hw _ (List.mem_of_getElem? (i := 22) rfl))) (g := (mkF m 6 #[.val (.ref A0), .val (.long P1), .second, .val (.int (if ¬ (W0 = (-9223372036854775808 : Int64)) then (1 : Int32) else (0 : Int32)))] [(.long P1)])) rfl (hb hby d8_6) _ ?_
      show Steps p.tables e below (T101.setTop (mkF m 9 #[.val (.ref A0), .val (.long P1), .second, .val (.int (if ¬ (W0 = (-9223372036854775808 : Int64)) then (1 : Int32) else (0 : Int32)))] [(.long (-9223372036854775808 : Int64)), (.long P1)])) _
      refine XS.lcmp X101.here hx rfl (hb hby d8_9) rfl ?_
      exact kt)
  by_cases hc10 : P1 = (-9223372036854775808 : Int64)
  · have pre103 : ∀ t, Steps p.tables e below (T101.setTop (mkF m 22 #[.val (.ref A0), .val (.long P1), .second, .val (.int (if ¬ (W0 = (-9223372036854775808 : Int64)) then (1 : Int32) else (0 : Int32)))] [(.int (1 : Int32))])) t → Steps p.tables e below (s₁.setTop (entryFrame m #[(.ref A0), (.long P1)] 4)) t := fun t kt => pre102 t (by
        show Steps p.tables e below (T101.setTop (mkF m 10 #[.val (.ref A0), .val (.long P1), .second, .val (.int (if ¬ (W0 = (-9223372036854775808 : Int64)) then (1 : Int32) else (0 : Int32)))] [(.int (lcmpW P1 (-9223372036854775808 : Int64)))])) _
        refine XS.ifNo X101.here hx rfl (hb hby d8_10) rfl ((if0 _ _).trans (teq ((lw_eq P1 (-9223372036854775808 : Int64)).mpr hc10)).2) ?_
        show Steps p.tables e below (T101.setTop (mkF m 13 #[.val (.ref A0), .val (.long P1), .second, .val (.int (if ¬ (W0 = (-9223372036854775808 : Int64)) then (1 : Int32) else (0 : Int32)))] [])) _
        refine XS.iloadN X101.here hx rfl (hb hby d8_13) rfl ?_
        show Steps p.tables e below (T101.setTop (mkF m 14 #[.val (.ref A0), .val (.long P1), .second, .val (.int (if ¬ (W0 = (-9223372036854775808 : Int64)) then (1 : Int32) else (0 : Int32)))] [(.int (if ¬ (W0 = (-9223372036854775808 : Int64)) then (1 : Int32) else (0 : Int32)))])) _
        refine XS.ifNo X101.here hx rfl (hb hby d8_14) rfl ((if0 _ _).trans (teq (show (if ¬ (W0 = (-9223372036854775808 : Int64)) then (1 : Int32) else (0 : Int32)) = (0 : Int32) from if_neg (show ¬ (¬ (W0 = (-9223372036854775808 : Int64))) from (fun q => q (he.trans hc10))))).2) ?_
        show Steps p.tables e below (T101.setTop (mkF m 17 #[.val (.ref A0), .val (.long P1), .second, .val (.int (if ¬ (W0 = (-9223372036854775808 : Int64)) then (1 : Int32) else (0 : Int32)))] [])) _
        refine XS.iconst X101.here hx rfl (hb hby d8_17) ?_
        show Steps p.tables e below (T101.setTop (mkF m 18 #[.val (.ref A0), .val (.long P1), .second, .val (.int (if ¬ (W0 = (-9223372036854775808 : Int64)) then (1 : Int32) else (0 : Int32)))] [(.int (1 : Int32))])) _
        refine XS.goto X101.here hx rfl (pc0 := 18) (pc' := 22) rfl (hb hby d8_18) (by decide) (by decide) ?_
        exact kt)
    obtain ⟨fs, hr, hrun, hended, hW, hsame⟩ := X101.leave (v := some (.int (1 : Int32))) (fun h => by rw [Bd.returns] at h; cases h)
    refine ⟨_, _, pre103 _ ?_, hrun, hended, _, _, rfl, ?_, ⟨_, rfl⟩, hW, hsame.mono (by decide) (by decide)⟩
    · show Steps p.tables e below (T101.setTop (mkF m 22 #[.val (.ref A0), .val (.long P1), .second, .val (.int (if ¬ (W0 = (-9223372036854775808 : Int64)) then (1 : Int32) else (0 : Int32)))] [(.int (1 : Int32))])) _
      exact retN X101 hx (t := .boolean) Bd.returns (by simp) (hb hby d8_22) hr
    · show Q8 Z A0 P1 W0 h0 n0 _ T101.heap _
      rw [K101]
      exact ⟨rfl, N101, rfl⟩
  · obtain ⟨cq104, kq104, q104a, q104b, q104c⟩ := isOf hZ K101 pm1
    obtain ⟨_, _, ⟨T104, L104, k104, n104⟩, -, X104, ⟨Lc104, hQ104, l104, y104, z104⟩, st104⟩ := X101.virtualBack hx (y := (⟨"com/example/holdfast/holdfast/NodeClock", "deadline", "(JJ)J"⟩ : MethodName)) (z := (⟨"com/example/holdfast/holdfast/NodeClock", "deadline", "(JJ)J"⟩ : MethodName)) hown (mvT hZ (hw _ (List.mem_of_getElem? (i := 38) rfl))) (mvT hZ (hw _ (List.mem_of_getElem? (i := 39) rfl))) (notFace_of_selects (args := #[]) (mvT hZ (hw _ (List.mem_of_getElem? (i := 41) rfl)))) (mvT hZ (hw _ (List.mem_of_getElem? (i := 41) rfl))) (mvT hZ (hw _ (List.mem_of_getElem? (i := 40) rfl))) (by decide) (backOf (W := 0) (rm9 l Z a0 hw [] A0 (0 : Int64) (0 : Int64) W0 h0 n0 Z0 pm0 (show ¬ (W0 = (-9223372036854775808 : Int64)) from (fun q => hc10 (he.symm.trans q)))) hZ (hw _ (List.mem_of_getElem? (i := 42) rfl)) (hw _ (List.mem_of_getElem? (i := 2) rfl)) (by decide) (by decide)) q104a q104c (g := (mkF m 32 #[.val (.ref A0), .val (.long P1), .second, .val (.int (if ¬ (W0 = (-9223372036854775808 : Int64)) then (1 : Int32) else (0 : Int32)))] [(.long (0 : Int64)), (.long (0 : Int64)), (.ref A0)])) rfl (by rw [hml]; rfl) (Steps.refl _) (argsL := [(.long (0 : Int64)), (.long (0 : Int64))]) (rest := []) (lenOf pd_8_1 rfl) rfl (by show 2 * 0 + _ ≤ _; exact Nat.le_of_eq rfl) (hb hby d8_32) (fun _ _ => ⟨rfl, K101, (by decide : 0 + 0 ≤ _), (by decide : 0 + 0 ≤ _)⟩)
    dsimp only [Pt.U, Pt.locs, Pt.cells, Pt.slots] at X104 l104 y104 z104 st104 hQ104
    subst l104 y104 z104
    obtain ⟨rfl, N104q, K104⟩ := hQ104
    have N104 := Fr.app N101 N104q
    have pre105 : ∀ t, Steps p.tables e below (T104.setTop (mkF m 45 #[.val (.ref A0), .val (.long P1), .second, .val (.int (if ¬ (W0 = (-9223372036854775808 : Int64)) then (1 : Int32) else (0 : Int32)))] [(.int (1 : Int32))])) t → Steps p.tables e below (s₁.setTop (entryFrame m #[(.ref A0), (.long P1)] 4)) t := fun t kt => pre102 t (by
        show Steps p.tables e below (T101.setTop (mkF m 10 #[.val (.ref A0), .val (.long P1), .second, .val (.int (if ¬ (W0 = (-9223372036854775808 : Int64)) then (1 : Int32) else (0 : Int32)))] [(.int (lcmpW P1 (-9223372036854775808 : Int64)))])) _
        refine XS.ifYes X101.here hx rfl (pc0 := 10) (pc' := 23) rfl (hb hby d8_10) rfl ((if0 _ _).trans (feq (fun q => hc10 ((lw_eq P1 (-9223372036854775808 : Int64)).mp q))).2) (by decide) (by decide) ?_
        show Steps p.tables e below (T101.setTop (mkF m 23 #[.val (.ref A0), .val (.long P1), .second, .val (.int (if ¬ (W0 = (-9223372036854775808 : Int64)) then (1 : Int32) else (0 : Int32)))] [])) _
        refine XS.iloadN X101.here hx rfl (hb hby d8_23) rfl ?_
        show Steps p.tables e below (T101.setTop (mkF m 24 #[.val (.ref A0), .val (.long P1), .second, .val (.int (if ¬ (W0 = (-9223372036854775808 : Int64)) then (1 : Int32) else (0 : Int32)))] [(.int (if ¬ (W0 = (-9223372036854775808 : Int64)) then (1 : Int32) else (0 : Int32)))])) _
        refine XS.ifYes X101.here hx rfl (pc0 := 24) (pc' := 29) rfl (hb hby d8_24) rfl ((if0 _ _).trans (feq (show ¬ ((if ¬ (W0 = (-9223372036854775808 : Int64)) then (1 : Int32) else (0 : Int32)) = (0 : Int32)) from by rw [if_pos (show ¬ (W0 = (-9223372036854775808 : Int64)) from (fun q => hc10 (he.symm.trans q)))]; decide)).2) (by decide) (by decide) ?_
        show Steps p.tables e below (T101.setTop (mkF m 29 #[.val (.ref A0), .val (.long P1), .second, .val (.int (if ¬ (W0 = (-9223372036854775808 : Int64)) then (1 : Int32) else (0 : Int32)))] [])) _
        refine XS.aloadN X101.here hx rfl (hb hby d8_29) rfl rfl ?_
        show Steps p.tables e below (T101.setTop (mkF m 30 #[.val (.ref A0), .val (.long P1), .second, .val (.int (if ¬ (W0 = (-9223372036854775808 : Int64)) then (1 : Int32) else (0 : Int32)))] [(.ref A0)])) _
        refine XS.lconst X101.here hx rfl (hb hby d8_30) ?_
        show Steps p.tables e below (T101.setTop (mkF m 31 #[.val (.ref A0), .val (.long P1), .second, .val (.int (if ¬ (W0 = (-9223372036854775808 : Int64)) then (1 : Int32) else (0 : Int32)))] [(.long (0 : Int64)), (.ref A0)])) _
        refine XS.lconst X101.here hx rfl (hb hby d8_31) ?_
        show Steps p.tables e below (T101.setTop (mkF m 32 #[.val (.ref A0), .val (.long P1), .second, .val (.int (if ¬ (W0 = (-9223372036854775808 : Int64)) then (1 : Int32) else (0 : Int32)))] [(.long (0 : Int64)), (.long (0 : Int64)), (.ref A0)])) _
        refine st104.trans ?_
        show Steps p.tables e below (T104.setTop (mkF m 35 #[.val (.ref A0), .val (.long P1), .second, .val (.int (if ¬ (W0 = (-9223372036854775808 : Int64)) then (1 : Int32) else (0 : Int32)))] [(.long (((own_fd (0 : Int64) ((1000 : Int32).toInt64)) + (own_fd (0 : Int64) ((1000 : Int32).toInt64))) + W0))])) _
        refine XS.lloadN X104.here hx rfl (hb hby d8_35) rfl ?_
        show Steps p.tables e below (T104.setTop (mkF m 36 #[.val (.ref A0), .val (.long P1), .second, .val (.int (if ¬ (W0 = (-9223372036854775808 : Int64)) then (1 : Int32) else (0 : Int32)))] [(.long P1), (.long (((own_fd (0 : Int64) ((1000 : Int32).toInt64)) + (own_fd (0 : Int64) ((1000 : Int32).toInt64))) + W0))])) _
        refine XS.lcmp X104.here hx rfl (hb hby d8_36) rfl ?_
        show Steps p.tables e below (T104.setTop (mkF m 37 #[.val (.ref A0), .val (.long P1), .second, .val (.int (if ¬ (W0 = (-9223372036854775808 : Int64)) then (1 : Int32) else (0 : Int32)))] [(.int (lcmpW (((own_fd (0 : Int64) ((1000 : Int32).toInt64)) + (own_fd (0 : Int64) ((1000 : Int32).toInt64))) + W0) P1))])) _
        refine XS.ifNo X104.here hx rfl (hb hby d8_37) rfl ((if0 _ _).trans (teq ((lw_eq (((own_fd (0 : Int64) ((1000 : Int32).toInt64)) + (own_fd (0 : Int64) ((1000 : Int32).toInt64))) + W0) P1).mpr (show (((own_fd (0 : Int64) ((1000 : Int32).toInt64)) + (own_fd (0 : Int64) ((1000 : Int32).toInt64))) + W0) = P1 from ((own_dl0 _).trans he)))).2) ?_
        show Steps p.tables e below (T104.setTop (mkF m 40 #[.val (.ref A0), .val (.long P1), .second, .val (.int (if ¬ (W0 = (-9223372036854775808 : Int64)) then (1 : Int32) else (0 : Int32)))] [])) _
        refine XS.iconst X104.here hx rfl (hb hby d8_40) ?_
        show Steps p.tables e below (T104.setTop (mkF m 41 #[.val (.ref A0), .val (.long P1), .second, .val (.int (if ¬ (W0 = (-9223372036854775808 : Int64)) then (1 : Int32) else (0 : Int32)))] [(.int (1 : Int32))])) _
        refine XS.goto X104.here hx rfl (pc0 := 41) (pc' := 45) rfl (hb hby d8_41) (by decide) (by decide) ?_
        exact kt)
    obtain ⟨fs, hr, hrun, hended, hW, hsame⟩ := X104.leave (v := some (.int (1 : Int32))) (fun h => by rw [Bd.returns] at h; cases h)
    refine ⟨_, _, pre105 _ ?_, hrun, hended, _, _, rfl, ?_, ⟨_, rfl⟩, hW, hsame.mono (by decide) (by decide)⟩
    · show Steps p.tables e below (T104.setTop (mkF m 45 #[.val (.ref A0), .val (.long P1), .second, .val (.int (if ¬ (W0 = (-9223372036854775808 : Int64)) then (1 : Int32) else (0 : Int32)))] [(.int (1 : Int32))])) _
      exact retN X104 hx (t := .boolean) Bd.returns (by simp) (hb hby d8_45) hr
    · show Q8 Z A0 P1 W0 h0 n0 _ T104.heap _
      rw [K104]
      exact ⟨rfl, N104, rfl⟩
theorem pn_0 : plainName "com/example/holdfast/holdfast/NodeClockIsKnownPinLaw" = true := by first | (simp [plainName, overriddenIn]; done) | decide +kernel
theorem pd_0_0 : parseMethodDescriptor "()V" = some ⟨[], none⟩ := by decide +kernel
theorem pd_0_1 : parseMethodDescriptor "()Z" = some ⟨[], some .boolean⟩ := by decide +kernel
theorem pd_0_2 : parseMethodDescriptor "(J)J" = some ⟨[.long], some .long⟩ := by decide +kernel
theorem pd_0_3 : parseMethodDescriptor "(JJ)V" = some ⟨[.long, .long], none⟩ := by decide +kernel
theorem pd_0_4 : parseMethodDescriptor "(Lcom/example/holdfast/holdfast/NodeClock;J)Z" = some ⟨[(.object "com/example/holdfast/holdfast/NodeClock"), .long], some .boolean⟩ := by decide +kernel
theorem ef_0 (m : MethodId) (P0 : Int64) (P1 : Int64) (P2 : Int64) (P3 : Int64) (P4 : Int32) : entryFrame m #[(.long P0), (.long P1), (.long P2), (.long P3), (.int P4)] maxLocals = mkF m 0 #[.val (.long P0), .second, .val (.long P1), .second, .val (.long P2), .second, .val (.long P3), .second, .val (.int P4), .unset, .unset, .unset, .unset, .unset, .unset, .unset, .unset, .unset, .unset, .unset, .unset, .unset] [] := by first | (simp [entryFrame, mkF, argsToLocals, Value.category, maxLocals]; done) | rfl
def Q0 (Z : State) (P0 : Int64) (P1 : Int64) (P2 : Int64) (P3 : Int64) (P4 : Int32) (h0 : Heap) (n0 : Nat) (v : Option Value) (h : Heap) (L : List Loc) : Prop := v = some (.int (1 : Int32)) ∧ Fr n0 L
set_option maxRecDepth 65536 in
set_option maxHeartbeats 40000000 in
theorem rm0 (l : Launch) (Z : State) (a0 : Array Value) (hw : ∀ d ∈ tables_1, d.before a0 Z = true) (ws : List Jvm.Cond) (P0 : Int64) (P1 : Int64) (P2 : Int64) (P3 : Int64) (P4 : Int32) (h0 : Heap) (n0 : Nat) (Z0 : n0 ≤ h0.size) :
    MetFree l x (head1 (Jvm.Cond.code x code maxLocals ret :: ws) room_1) (fun a U => a = #[(.long P0), (.long P1), (.long P2), (.long P3), (.int P4)] ∧ Z.Warmed39 U.vm ∧ U.heap = h0) (fun _ _ _ _ _ => True) (fun _ U o U' => ∃ v L, o = .returned v ∧ Q0 Z P0 P1 P2 P3 P4 h0 n0 v U'.heap L ∧ FrameEnd U o U' L 16 128) := by
  refine MetFree.of_bodySF (plainFor_of_name pn_0) hisR ?_
  intro p e s m args below meth c s₁ Bd hml0 hP hK
  obtain ⟨rfl, hZ, hh⟩ := hP
  have hx := Bd.exec
  have hby := Bd.bytes
  have hml : c.maxLocals = 22 := hml0
  have hown : s.vm.findClass "com/example/holdfast/holdfast/NodeClockIsKnownPinLaw" = some m.cls := findClass_of_methodNamed Bd.named
  have hnm := (name_of_methodNamed Bd.named Bd.method).1
  have X0 : Stand p l e room_1 s m #[(.long P0), (.long P1), (.long P2), (.long P3), (.int P4)] below meth c s₁ [] 0 0 := Stand.of_body Bd
  have e0 : s₁.heap = h0 := by rw [← hh, Bd.state]; rfl
  have N0 := Fr.nil n0
  have pre0 : ∀ t, Steps p.tables e below (s₁.setTop (mkF m 0 #[.val (.long P0), .second, .val (.long P1), .second, .val (.long P2), .second, .val (.long P3), .second, .val (.int P4), .unset, .unset, .unset, .unset, .unset, .unset, .unset, .unset, .unset, .unset, .unset, .unset, .unset] [])) t → Steps p.tables e below (s₁.setTop (entryFrame m #[(.long P0), (.long P1), (.long P2), (.long P3), (.int P4)] maxLocals)) t := fun t k => castTop (ef_0 m P0 P1 P2 P3 P4) k
  obtain ⟨T101, h101, X101, e101, E101, A101, D101, -, st101⟩ := newO X0 hx hZ hown (hw _ (List.mem_of_getElem? (i := 0) rfl)) (hw _ (List.mem_of_getElem? (i := 1) rfl)) (hw _ (List.mem_of_getElem? (i := 2) rfl)) e0 (g := (mkF m 0 #[.val (.long P0), .second, .val (.long P1), .second, .val (.long P2), .second, .val (.long P3), .second, .val (.int P4), .unset, .unset, .unset, .unset, .unset, .unset, .unset, .unset, .unset, .unset, .unset, .unset, .unset] [])) rfl (hb hby at_0) (by decide) (by decide)
  obtain ⟨b101, q101⟩ : ∃ z, z = h0.size := ⟨_, rfl⟩
  rw [← q101] at A101 D101 st101
  have g_b101 : n0 ≤ b101 := Nat.le_trans Z0 (Nat.le_of_eq q101.symm)
  have Z102 : n0 ≤ h101.size := Nat.le_trans Z0 E101.1
  have F101_11 : Fld Z h101 b101 "com/example/holdfast/holdfast/NodeClock" "leadMicros" "J" (.long (0 : Int64)) := D101 (Or.inl (hw _ (List.mem_of_getElem? (i := 11) rfl))) (ty := .long) (by decide)
  obtain ⟨_, _, ⟨T103, L103, k103, n103⟩, -, X103, ⟨Lc103, hQ103, l103, y103, z103⟩, st103⟩ := X101.specialBack hx (y := (⟨"com/example/holdfast/holdfast/NodeClock", "<init>", "()V"⟩ : MethodName)) rfl hown (mvT hZ (hw _ (List.mem_of_getElem? (i := 3) rfl))) (mvT hZ (hw _ (List.mem_of_getElem? (i := 4) rfl))) (mvT hZ (hw _ (List.mem_of_getElem? (i := 5) rfl))) (by decide) (backOf (W := 1) (rm1 l Z a0 hw [] b101 (0 : Int64) h101 n0 Z102 F101_11 A101 g_b101) hZ (hw _ (List.mem_of_getElem? (i := 5) rfl)) (hw _ (List.mem_of_getElem? (i := 2) rfl)) (by decide) (by decide)) (g := (mkF m 4 #[.val (.long P0), .second, .val (.long P1), .second, .val (.long P2), .second, .val (.long P3), .second, .val (.int P4), .unset, .unset, .unset, .unset, .unset, .unset, .unset, .unset, .unset, .unset, .unset, .unset, .unset] [(.ref b101), (.ref b101)])) rfl (by rw [hml]; rfl) (Steps.refl _) (a := b101) (argsL := []) (rest := [(.ref b101)]) (lenOf pd_0_0 rfl) rfl (by show 2 * 0 + _ ≤ _; exact Nat.le_of_eq rfl) (hb hby at_4) (fun _ _ => ⟨rfl, e101, (by decide : 1 + 0 ≤ _), (by decide : 1 + 0 ≤ _)⟩)
  dsimp only [Pt.U, Pt.locs, Pt.cells, Pt.slots] at X103 l103 y103 z103 st103 hQ103
  subst l103 y103 z103
  obtain ⟨rfl, N103q, K103, p103_0, p103_1⟩ := hQ103
  have N103 := Fr.app N0 N103q
  have Z104 : n0 ≤ T103.heap.size := Nat.le_trans Z102 K103.1
  obtain ⟨cq105, kq105, q105a, q105b, q105c⟩ := isOf hZ rfl p103_0
  obtain ⟨_, _, ⟨T105, L105, k105, n105⟩, -, X105, ⟨Lc105, hQ105, l105, y105, z105⟩, st105⟩ := X103.virtualBack hx (y := (⟨"com/example/holdfast/holdfast/NodeClock", "isKnown", "()Z"⟩ : MethodName)) (z := (⟨"com/example/holdfast/holdfast/NodeClock", "isKnown", "()Z"⟩ : MethodName)) hown (mvT hZ (hw _ (List.mem_of_getElem? (i := 12) rfl))) (mvT hZ (hw _ (List.mem_of_getElem? (i := 13) rfl))) (notFace_of_selects (args := #[]) (mvT hZ (hw _ (List.mem_of_getElem? (i := 15) rfl)))) (mvT hZ (hw _ (List.mem_of_getElem? (i := 15) rfl))) (mvT hZ (hw _ (List.mem_of_getElem? (i := 14) rfl))) (by decide) (backOf (W := 0) (rm3 l Z a0 hw [] b101 (-9223372036854775808 : Int64) T103.heap n0 Z104 p103_1) hZ (hw _ (List.mem_of_getElem? (i := 16) rfl)) (hw _ (List.mem_of_getElem? (i := 2) rfl)) (by decide) (by decide)) q105a q105c (g := (mkF m 11 #[.val (.long P0), .second, .val (.long P1), .second, .val (.long P2), .second, .val (.long P3), .second, .val (.int P4), .val (.ref b101), .unset, .unset, .unset, .unset, .unset, .unset, .unset, .unset, .unset, .unset, .unset, .unset] [(.ref b101)])) rfl (by rw [hml]; rfl) (Steps.refl _) (argsL := []) (rest := []) (lenOf pd_0_1 rfl) rfl (by show 2 * 0 + _ ≤ _; exact Nat.le_of_eq rfl) (hb hby at_11) (fun _ _ => ⟨rfl, rfl, (by decide : 1 + 0 ≤ _), (by decide : 1 + 0 ≤ _)⟩)
  dsimp only [Pt.U, Pt.locs, Pt.cells, Pt.slots] at X105 l105 y105 z105 st105 hQ105
  subst l105 y105 z105
  obtain ⟨rfl, N105q, K105⟩ := hQ105
  have N105 := Fr.app N103 N105q
  obtain ⟨_, _, ⟨T106, L106, k106, n106⟩, -, X106, ⟨Lc106, hQ106, l106, y106, z106⟩, st106⟩ := Jvm.LawKit.callS X105 hx (y := (⟨"com/example/holdfast/holdfast/NodeClockIsKnownPinLaw", "floorDiv1000", "(J)J"⟩ : MethodName)) hown (mvT hZ (hw _ (List.mem_of_getElem? (i := 17) rfl))) (mvT hZ (hw _ (List.mem_of_getElem? (i := 18) rfl))) (mvT hZ (hw _ (List.mem_of_getElem? (i := 19) rfl))) (mvT hZ (hw _ (List.mem_of_getElem? (i := 20) rfl))) (by decide) (backOf (W := 0) (rm4 l Z a0 hw [] P1 T103.heap n0 Z104 ) hZ (hw _ (List.mem_of_getElem? (i := 20) rfl)) (hw _ (List.mem_of_getElem? (i := 19) rfl)) (by decide) (by decide)) (g := (mkF m 20 #[.val (.long P0), .second, .val (.long P1), .second, .val (.long P2), .second, .val (.long P3), .second, .val (.int P4), .val (.ref b101), .unset, .unset, .unset, .unset, .unset, .unset, .unset, .unset, .unset, .unset, .unset, .unset] [(.long P1)])) rfl (by rw [hml]; rfl) (argsL := [(.long P1)]) (rest := []) (lenOf pd_0_2 rfl) rfl (by show 2 * 0 + _ ≤ _; exact Nat.le_of_eq rfl) (hb hby at_20) (fun _ _ => ⟨rfl, K105, (by decide : 1 + 0 ≤ _), (by decide : 1 + 0 ≤ _)⟩)
  dsimp only [Pt.U, Pt.locs, Pt.cells, Pt.slots] at X106 l106 y106 z106 st106 hQ106
  subst l106 y106 z106
  obtain ⟨rfl, N106q, K106⟩ := hQ106
  have N106 := Fr.app N105 N106q
  have pre107 : ∀ t, Steps p.tables e below (T106.setTop (mkF m 32 #[.val (.long P0), .second, .val (.long P1), .second, .val (.long P2), .second, .val (.long P3), .second, .val (.int P4), .val (.ref b101), .val (.long (own_f1 P1)), .second, .val (.long P0), .second, .unset, .unset, .unset, .unset, .unset, .unset, .unset, .unset] [(.int (P4 &&& (1 : Int32)))])) t → Steps p.tables e below (s₁.setTop (entryFrame m #[(.long P0), (.long P1), (.long P2), (.long P3), (.int P4)] maxLocals)) t := fun t kt => pre0 t (by
      show Steps p.tables e below (s₁.setTop (mkF m 0 #[.val (.long P0), .second, .val (.long P1), .second, .val (.long P2), .second, .val (.long P3), .second, .val (.int P4), .unset, .unset, .unset, .unset, .unset, .unset, .unset, .unset, .unset, .unset, .unset, .unset, .unset] [])) _
      refine st101 _ ?_
      show Steps p.tables e below (T101.setTop (mkF m 3 #[.val (.long P0), .second, .val (.long P1), .second, .val (.long P2), .second, .val (.long P3), .second, .val (.int P4), .unset, .unset, .unset, .unset, .unset, .unset, .unset, .unset, .unset, .unset, .unset, .unset, .unset] [(.ref b101)])) _
      refine XS.dup X101.here hx rfl (hb hby at_3) rfl rfl ?_
      show Steps p.tables e below (T101.setTop (mkF m 4 #[.val (.long P0), .second, .val (.long P1), .second, .val (.long P2), .second, .val (.long P3), .second, .val (.int P4), .unset, .unset, .unset, .unset, .unset, .unset, .unset, .unset, .unset, .unset, .unset, .unset, .unset] [(.ref b101), (.ref b101)])) _
      refine st103.trans ?_
      show Steps p.tables e below (T103.setTop (mkF m 7 #[.val (.long P0), .second, .val (.long P1), .second, .val (.long P2), .second, .val (.long P3), .second, .val (.int P4), .unset, .unset, .unset, .unset, .unset, .unset, .unset, .unset, .unset, .unset, .unset, .unset, .unset] [(.ref b101)])) _
      refine XS.astore X103.here hx rfl (hb hby at_7) rfl rfl (l' := #[.val (.long P0), .second, .val (.long P1), .second, .val (.long P2), .second, .val (.long P3), .second, .val (.int P4), .val (.ref b101), .unset, .unset, .unset, .unset, .unset, .unset, .unset, .unset, .unset, .unset, .unset, .unset]) rfl ?_
      show Steps p.tables e below (T103.setTop (mkF m 9 #[.val (.long P0), .second, .val (.long P1), .second, .val (.long P2), .second, .val (.long P3), .second, .val (.int P4), .val (.ref b101), .unset, .unset, .unset, .unset, .unset, .unset, .unset, .unset, .unset, .unset, .unset, .unset] [])) _
      refine XS.aload X103.here hx rfl (hb hby at_9) rfl rfl ?_
      show Steps p.tables e below (T103.setTop (mkF m 11 #[.val (.long P0), .second, .val (.long P1), .second, .val (.long P2), .second, .val (.long P3), .second, .val (.int P4), .val (.ref b101), .unset, .unset, .unset, .unset, .unset, .unset, .unset, .unset, .unset, .unset, .unset, .unset] [(.ref b101)])) _
      refine st105.trans ?_
      show Steps p.tables e below (T105.setTop (mkF m 14 #[.val (.long P0), .second, .val (.long P1), .second, .val (.long P2), .second, .val (.long P3), .second, .val (.int P4), .val (.ref b101), .unset, .unset, .unset, .unset, .unset, .unset, .unset, .unset, .unset, .unset, .unset, .unset] [(.int (if ¬ ((-9223372036854775808 : Int64) = (-9223372036854775808 : Int64)) then (1 : Int32) else (0 : Int32)))])) _
      refine XS.ifYes X105.here hx rfl (pc0 := 14) (pc' := 19) rfl (hb hby at_14) rfl ((if0 _ _).trans (teq (show (if ¬ ((-9223372036854775808 : Int64) = (-9223372036854775808 : Int64)) then (1 : Int32) else (0 : Int32)) = (0 : Int32) from if_neg (show ¬ (¬ ((-9223372036854775808 : Int64) = (-9223372036854775808 : Int64))) from (fun q => q rfl)))).1) (by decide) (by decide) ?_
      show Steps p.tables e below (T105.setTop (mkF m 19 #[.val (.long P0), .second, .val (.long P1), .second, .val (.long P2), .second, .val (.long P3), .second, .val (.int P4), .val (.ref b101), .unset, .unset, .unset, .unset, .unset, .unset, .unset, .unset, .unset, .unset, .unset, .unset] [])) _
      refine XS.lloadN X105.here hx rfl (hb hby at_19) rfl ?_
      show Steps p.tables e below (T105.setTop (mkF m 20 #[.val (.long P0), .second, .val (.long P1), .second, .val (.long P2), .second, .val (.long P3), .second, .val (.int P4), .val (.ref b101), .unset, .unset, .unset, .unset, .unset, .unset, .unset, .unset, .unset, .unset, .unset, .unset] [(.long P1)])) _
      refine st106 _ ?_
      show Steps p.tables e below (T106.setTop (mkF m 23 #[.val (.long P0), .second, .val (.long P1), .second, .val (.long P2), .second, .val (.long P3), .second, .val (.int P4), .val (.ref b101), .unset, .unset, .unset, .unset, .unset, .unset, .unset, .unset, .unset, .unset, .unset, .unset] [(.long (own_f1 P1))])) _
      refine XS.lstore X106.here hx rfl (hb hby at_23) rfl (l' := #[.val (.long P0), .second, .val (.long P1), .second, .val (.long P2), .second, .val (.long P3), .second, .val (.int P4), .val (.ref b101), .val (.long (own_f1 P1)), .second, .unset, .unset, .unset, .unset, .unset, .unset, .unset, .unset, .unset, .unset]) rfl ?_
      show Steps p.tables e below (T106.setTop (mkF m 25 #[.val (.long P0), .second, .val (.long P1), .second, .val (.long P2), .second, .val (.long P3), .second, .val (.int P4), .val (.ref b101), .val (.long (own_f1 P1)), .second, .unset, .unset, .unset, .unset, .unset, .unset, .unset, .unset, .unset, .unset] [])) _
      refine XS.lloadN X106.here hx rfl (hb hby at_25) rfl ?_
      show Steps p.tables e below (T106.setTop (mkF m 26 #[.val (.long P0), .second, .val (.long P1), .second, .val (.long P2), .second, .val (.long P3), .second, .val (.int P4), .val (.ref b101), .val (.long (own_f1 P1)), .second, .unset, .unset, .unset, .unset, .unset, .unset, .unset, .unset, .unset, .unset] [(.long P0)])) _
      refine XS.lstore X106.here hx rfl (hb hby at_26) rfl (l' := #[.val (.long P0), .second, .val (.long P1), .second, .val (.long P2), .second, .val (.long P3), .second, .val (.int P4), .val (.ref b101), .val (.long (own_f1 P1)), .second, .val (.long P0), .second, .unset, .unset, .unset, .unset, .unset, .unset, .unset, .unset]) rfl ?_
      show Steps p.tables e below (T106.setTop (mkF m 28 #[.val (.long P0), .second, .val (.long P1), .second, .val (.long P2), .second, .val (.long P3), .second, .val (.int P4), .val (.ref b101), .val (.long (own_f1 P1)), .second, .val (.long P0), .second, .unset, .unset, .unset, .unset, .unset, .unset, .unset, .unset] [])) _
      refine XS.iload X106.here hx rfl (hb hby at_28) rfl ?_
      show Steps p.tables e below (T106.setTop (mkF m 30 #[.val (.long P0), .second, .val (.long P1), .second, .val (.long P2), .second, .val (.long P3), .second, .val (.int P4), .val (.ref b101), .val (.long (own_f1 P1)), .second, .val (.long P0), .second, .unset, .unset, .unset, .unset, .unset, .unset, .unset, .unset] [(.int P4)])) _
      refine XS.iconst X106.here hx rfl (hb hby at_30) ?_
      show Steps p.tables e below (T106.setTop (mkF m 31 #[.val (.long P0), .second, .val (.long P1), .second, .val (.long P2), .second, .val (.long P3), .second, .val (.int P4), .val (.ref b101), .val (.long (own_f1 P1)), .second, .val (.long P0), .second, .unset, .unset, .unset, .unset, .unset, .unset, .unset, .unset] [(.int (1 : Int32)), (.int P4)])) _
      refine XS.iand X106.here hx rfl (hb hby at_31) rfl ?_
      exact kt)
  by_cases hc32 : (P4 &&& (1 : Int32)) = (0 : Int32)
  · obtain ⟨cq108, kq108, q108a, q108b, q108c⟩ := isOf hZ K106 p103_0
    obtain ⟨_, _, ⟨T108, L108, k108, n108⟩, -, X108, ⟨Lc108, hQ108, l108, y108, z108⟩, st108⟩ := X106.virtualBack hx (y := (⟨"com/example/holdfast/holdfast/NodeClock", "read", "(JJ)V"⟩ : MethodName)) (z := (⟨"com/example/holdfast/holdfast/NodeClock", "read", "(JJ)V"⟩ : MethodName)) hown (mvT hZ (hw _ (List.mem_of_getElem? (i := 23) rfl))) (mvT hZ (hw _ (List.mem_of_getElem? (i := 24) rfl))) (notFace_of_selects (args := #[]) (mvT hZ (hw _ (List.mem_of_getElem? (i := 26) rfl)))) (mvT hZ (hw _ (List.mem_of_getElem? (i := 26) rfl))) (mvT hZ (hw _ (List.mem_of_getElem? (i := 25) rfl))) (by decide) (backOf (W := 0) (rm5 l Z a0 hw [] b101 P0 P1 (-9223372036854775808 : Int64) T103.heap n0 Z104 p103_1 p103_0 g_b101) hZ (hw _ (List.mem_of_getElem? (i := 27) rfl)) (hw _ (List.mem_of_getElem? (i := 2) rfl)) (by decide) (by decide)) q108a q108c (g := (mkF m 55 #[.val (.long P0), .second, .val (.long P1), .second, .val (.long P2), .second, .val (.long P3), .second, .val (.int P4), .val (.ref b101), .val (.long (own_f1 P1)), .second, .val (.long P0), .second, .val (.long (P0 - (own_f1 P1))), .second, .unset, .unset, .unset, .unset, .unset, .unset] [(.long P1), (.long P0), (.ref b101)])) rfl (by rw [hml]; rfl) (Steps.refl _) (argsL := [(.long P0), (.long P1)]) (rest := []) (lenOf pd_0_3 rfl) rfl (by show 2 * 0 + _ ≤ _; exact Nat.le_of_eq rfl) (hb hby at_55) (fun _ _ => ⟨rfl, K106, (by decide : 1 + 0 ≤ _), (by decide : 1 + 0 ≤ _)⟩)
    dsimp only [Pt.U, Pt.locs, Pt.cells, Pt.slots] at X108 l108 y108 z108 st108 hQ108
    subst l108 y108 z108
    obtain ⟨rfl, N108q, K108, p108_0, p108_1⟩ := hQ108
    have N108 := Fr.app N106 N108q
    have Z109 : n0 ≤ T108.heap.size := Nat.le_trans Z104 K108.1
    obtain ⟨_, _, ⟨T110, L110, k110, n110⟩, -, X110, ⟨Lc110, hQ110, l110, y110, z110⟩, st110⟩ := Jvm.LawKit.callS X108 hx (y := (⟨"com/example/holdfast/holdfast/NodeClockIsKnownPinLaw", "checkAfterRead", "(Lcom/example/holdfast/holdfast/NodeClock;J)Z"⟩ : MethodName)) hown (mvT hZ (hw _ (List.mem_of_getElem? (i := 35) rfl))) (mvT hZ (hw _ (List.mem_of_getElem? (i := 36) rfl))) (mvT hZ (hw _ (List.mem_of_getElem? (i := 19) rfl))) (mvT hZ (hw _ (List.mem_of_getElem? (i := 37) rfl))) (by decide) (backOf (W := 0) (rm8 l Z a0 hw [] b101 (P0 - (own_f1 P1)) (P0 - (own_fd P1 ((1000 : Int32).toInt64))) T108.heap n0 Z109 p108_1 p108_0 (show (P0 - (own_fd P1 ((1000 : Int32).toInt64))) = (P0 - (own_f1 P1)) from (by rw [own_fd1]))) hZ (hw _ (List.mem_of_getElem? (i := 37) rfl)) (hw _ (List.mem_of_getElem? (i := 19) rfl)) (by decide) (by decide)) (g := (mkF m 62 #[.val (.long P0), .second, .val (.long P1), .second, .val (.long P2), .second, .val (.long P3), .second, .val (.int P4), .val (.ref b101), .val (.long (own_f1 P1)), .second, .val (.long P0), .second, .val (.long (P0 - (own_f1 P1))), .second, .unset, .unset, .unset, .unset, .unset, .unset] [(.long (P0 - (own_f1 P1))), (.ref b101)])) rfl (by rw [hml]; rfl) (argsL := [(.ref b101), (.long (P0 - (own_f1 P1)))]) (rest := []) (lenOf pd_0_4 rfl) rfl (by show 2 * 0 + _ ≤ _; exact Nat.le_of_eq rfl) (hb hby at_62) (fun _ _ => ⟨rfl, rfl, (by decide : 1 + 0 ≤ _), (by decide : 1 + 0 ≤ _)⟩)
    dsimp only [Pt.U, Pt.locs, Pt.cells, Pt.slots] at X110 l110 y110 z110 st110 hQ110
    subst l110 y110 z110
    obtain ⟨rfl, N110q, K110⟩ := hQ110
    have N110 := Fr.app N108 N110q
    obtain ⟨_, _, ⟨T111, L111, k111, n111⟩, -, X111, ⟨Lc111, hQ111, l111, y111, z111⟩, st111⟩ := Jvm.LawKit.callS X110 hx (y := (⟨"com/example/holdfast/holdfast/NodeClockIsKnownPinLaw", "floorDiv1000", "(J)J"⟩ : MethodName)) hown (mvT hZ (hw _ (List.mem_of_getElem? (i := 17) rfl))) (mvT hZ (hw _ (List.mem_of_getElem? (i := 18) rfl))) (mvT hZ (hw _ (List.mem_of_getElem? (i := 19) rfl))) (mvT hZ (hw _ (List.mem_of_getElem? (i := 20) rfl))) (by decide) (backOf (W := 0) (rm4 l Z a0 hw [] P3 T108.heap n0 Z109 ) hZ (hw _ (List.mem_of_getElem? (i := 20) rfl)) (hw _ (List.mem_of_getElem? (i := 19) rfl)) (by decide) (by decide)) (g := (mkF m 72 #[.val (.long P0), .second, .val (.long P1), .second, .val (.long P2), .second, .val (.long P3), .second, .val (.int P4), .val (.ref b101), .val (.long (own_f1 P1)), .second, .val (.long P0), .second, .val (.long (P0 - (own_f1 P1))), .second, .unset, .unset, .unset, .unset, .unset, .unset] [(.long P3)])) rfl (by rw [hml]; rfl) (argsL := [(.long P3)]) (rest := []) (lenOf pd_0_2 rfl) rfl (by show 2 * 0 + _ ≤ _; exact Nat.le_of_eq rfl) (hb hby at_72) (fun _ _ => ⟨rfl, K110, (by decide : 1 + 0 ≤ _), (by decide : 1 + 0 ≤ _)⟩)
    dsimp only [Pt.U, Pt.locs, Pt.cells, Pt.slots] at X111 l111 y111 z111 st111 hQ111
    subst l111 y111 z111
    obtain ⟨rfl, N111q, K111⟩ := hQ111
    have N111 := Fr.app N110 N111q
    have pre112 : ∀ t, Steps p.tables e below (T111.setTop (mkF m 85 #[.val (.long P0), .second, .val (.long P1), .second, .val (.long P2), .second, .val (.long P3), .second, .val (.int P4), .val (.ref b101), .val (.long (own_f1 P1)), .second, .val (.long P0), .second, .val (.long (P0 - (own_f1 P1))), .second, .val (.long (own_f1 P3)), .second, .val (.long P2), .second, .unset, .unset] [(.int (P4 &&& (2 : Int32)))])) t → Steps p.tables e below (s₁.setTop (entryFrame m #[(.long P0), (.long P1), (.long P2), (.long P3), (.int P4)] maxLocals)) t := fun t kt => pre107 t (by
        show Steps p.tables e below (T106.setTop (mkF m 32 #[.val (.long P0), .second, .val (.long P1), .second, .val (.long P2), .second, .val (.long P3), .second, .val (.int P4), .val (.ref b101), .val (.long (own_f1 P1)), .second, .val (.long P0), .second, .unset, .unset, .unset, .unset, .unset, .unset, .unset, .unset] [(.int (P4 &&& (1 : Int32)))])) _
        refine XS.ifYes X106.here hx rfl (pc0 := 32) (pc' := 43) rfl (hb hby at_32) rfl ((if0 _ _).trans (teq hc32).1) (by decide) (by decide) ?_
        show Steps p.tables e below (T106.setTop (mkF m 43 #[.val (.long P0), .second, .val (.long P1), .second, .val (.long P2), .second, .val (.long P3), .second, .val (.int P4), .val (.ref b101), .val (.long (own_f1 P1)), .second, .val (.long P0), .second, .unset, .unset, .unset, .unset, .unset, .unset, .unset, .unset] [])) _
        refine XS.lload X106.here hx rfl (hb hby at_43) rfl ?_
        show Steps p.tables e below (T106.setTop (mkF m 45 #[.val (.long P0), .second, .val (.long P1), .second, .val (.long P2), .second, .val (.long P3), .second, .val (.int P4), .val (.ref b101), .val (.long (own_f1 P1)), .second, .val (.long P0), .second, .unset, .unset, .unset, .unset, .unset, .unset, .unset, .unset] [(.long P0)])) _
        refine XS.lload X106.here hx rfl (hb hby at_45) rfl ?_
        show Steps p.tables e below (T106.setTop (mkF m 47 #[.val (.long P0), .second, .val (.long P1), .second, .val (.long P2), .second, .val (.long P3), .second, .val (.int P4), .val (.ref b101), .val (.long (own_f1 P1)), .second, .val (.long P0), .second, .unset, .unset, .unset, .unset, .unset, .unset, .unset, .unset] [(.long (own_f1 P1)), (.long P0)])) _
        refine XS.lsub X106.here hx rfl (hb hby at_47) rfl ?_
        show Steps p.tables e below (T106.setTop (mkF m 48 #[.val (.long P0), .second, .val (.long P1), .second, .val (.long P2), .second, .val (.long P3), .second, .val (.int P4), .val (.ref b101), .val (.long (own_f1 P1)), .second, .val (.long P0), .second, .unset, .unset, .unset, .unset, .unset, .unset, .unset, .unset] [(.long (P0 - (own_f1 P1)))])) _
        refine XS.lstore X106.here hx rfl (hb hby at_48) rfl (l' := #[.val (.long P0), .second, .val (.long P1), .second, .val (.long P2), .second, .val (.long P3), .second, .val (.int P4), .val (.ref b101), .val (.long (own_f1 P1)), .second, .val (.long P0), .second, .val (.long (P0 - (own_f1 P1))), .second, .unset, .unset, .unset, .unset, .unset, .unset]) rfl ?_
        show Steps p.tables e below (T106.setTop (mkF m 50 #[.val (.long P0), .second, .val (.long P1), .second, .val (.long P2), .second, .val (.long P3), .second, .val (.int P4), .val (.ref b101), .val (.long (own_f1 P1)), .second, .val (.long P0), .second, .val (.long (P0 - (own_f1 P1))), .second, .unset, .unset, .unset, .unset, .unset, .unset] [])) _
        refine XS.aload X106.here hx rfl (hb hby at_50) rfl rfl ?_
        show Steps p.tables e below (T106.setTop (mkF m 52 #[.val (.long P0), .second, .val (.long P1), .second, .val (.long P2), .second, .val (.long P3), .second, .val (.int P4), .val (.ref b101), .val (.long (own_f1 P1)), .second, .val (.long P0), .second, .val (.long (P0 - (own_f1 P1))), .second, .unset, .unset, .unset, .unset, .unset, .unset] [(.ref b101)])) _
        refine XS.lload X106.here hx rfl (hb hby at_52) rfl ?_
        show Steps p.tables e below (T106.setTop (mkF m 54 #[.val (.long P0), .second, .val (.long P1), .second, .val (.long P2), .second, .val (.long P3), .second, .val (.int P4), .val (.ref b101), .val (.long (own_f1 P1)), .second, .val (.long P0), .second, .val (.long (P0 - (own_f1 P1))), .second, .unset, .unset, .unset, .unset, .unset, .unset] [(.long P0), (.ref b101)])) _
        refine XS.lloadN X106.here hx rfl (hb hby at_54) rfl ?_
        show Steps p.tables e below (T106.setTop (mkF m 55 #[.val (.long P0), .second, .val (.long P1), .second, .val (.long P2), .second, .val (.long P3), .second, .val (.int P4), .val (.ref b101), .val (.long (own_f1 P1)), .second, .val (.long P0), .second, .val (.long (P0 - (own_f1 P1))), .second, .unset, .unset, .unset, .unset, .unset, .unset] [(.long P1), (.long P0), (.ref b101)])) _
        refine st108.trans ?_
        show Steps p.tables e below (T108.setTop (mkF m 58 #[.val (.long P0), .second, .val (.long P1), .second, .val (.long P2), .second, .val (.long P3), .second, .val (.int P4), .val (.ref b101), .val (.long (own_f1 P1)), .second, .val (.long P0), .second, .val (.long (P0 - (own_f1 P1))), .second, .unset, .unset, .unset, .unset, .unset, .unset] [])) _
        refine XS.aload X108.here hx rfl (hb hby at_58) rfl rfl ?_
        show Steps p.tables e below (T108.setTop (mkF m 60 #[.val (.long P0), .second, .val (.long P1), .second, .val (.long P2), .second, .val (.long P3), .second, .val (.int P4), .val (.ref b101), .val (.long (own_f1 P1)), .second, .val (.long P0), .second, .val (.long (P0 - (own_f1 P1))), .second, .unset, .unset, .unset, .unset, .unset, .unset] [(.ref b101)])) _
        refine XS.lload X108.here hx rfl (hb hby at_60) rfl ?_
        show Steps p.tables e below (T108.setTop (mkF m 62 #[.val (.long P0), .second, .val (.long P1), .second, .val (.long P2), .second, .val (.long P3), .second, .val (.int P4), .val (.ref b101), .val (.long (own_f1 P1)), .second, .val (.long P0), .second, .val (.long (P0 - (own_f1 P1))), .second, .unset, .unset, .unset, .unset, .unset, .unset] [(.long (P0 - (own_f1 P1))), (.ref b101)])) _
        refine st110 _ ?_
        show Steps p.tables e below (T110.setTop (mkF m 65 #[.val (.long P0), .second, .val (.long P1), .second, .val (.long P2), .second, .val (.long P3), .second, .val (.int P4), .val (.ref b101), .val (.long (own_f1 P1)), .second, .val (.long P0), .second, .val (.long (P0 - (own_f1 P1))), .second, .unset, .unset, .unset, .unset, .unset, .unset] [(.int (1 : Int32))])) _
        refine XS.ifYes X110.here hx rfl (pc0 := 65) (pc' := 70) rfl (hb hby at_65) rfl ((if0 _ _).trans (feq (show ¬ ((1 : Int32) = (0 : Int32)) from (by decide))).2) (by decide) (by decide) ?_
        show Steps p.tables e below (T110.setTop (mkF m 70 #[.val (.long P0), .second, .val (.long P1), .second, .val (.long P2), .second, .val (.long P3), .second, .val (.int P4), .val (.ref b101), .val (.long (own_f1 P1)), .second, .val (.long P0), .second, .val (.long (P0 - (own_f1 P1))), .second, .unset, .unset, .unset, .unset, .unset, .unset] [])) _
        refine XS.lload X110.here hx rfl (hb hby at_70) rfl ?_
        show Steps p.tables e below (T110.setTop (mkF m 72 #[.val (.long P0), .second, .val (.long P1), .second, .val (.long P2), .second, .val (.long P3), .second, .val (.int P4), .val (.ref b101), .val (.long (own_f1 P1)), .second, .val (.long P0), .second, .val (.long (P0 - (own_f1 P1))), .second, .unset, .unset, .unset, .unset, .unset, .unset] [(.long P3)])) _
        refine st111 _ ?_
        show Steps p.tables e below (T111.setTop (mkF m 75 #[.val (.long P0), .second, .val (.long P1), .second, .val (.long P2), .second, .val (.long P3), .second, .val (.int P4), .val (.ref b101), .val (.long (own_f1 P1)), .second, .val (.long P0), .second, .val (.long (P0 - (own_f1 P1))), .second, .unset, .unset, .unset, .unset, .unset, .unset] [(.long (own_f1 P3))])) _
        refine XS.lstore X111.here hx rfl (hb hby at_75) rfl (l' := #[.val (.long P0), .second, .val (.long P1), .second, .val (.long P2), .second, .val (.long P3), .second, .val (.int P4), .val (.ref b101), .val (.long (own_f1 P1)), .second, .val (.long P0), .second, .val (.long (P0 - (own_f1 P1))), .second, .val (.long (own_f1 P3)), .second, .unset, .unset, .unset, .unset]) rfl ?_
        show Steps p.tables e below (T111.setTop (mkF m 77 #[.val (.long P0), .second, .val (.long P1), .second, .val (.long P2), .second, .val (.long P3), .second, .val (.int P4), .val (.ref b101), .val (.long (own_f1 P1)), .second, .val (.long P0), .second, .val (.long (P0 - (own_f1 P1))), .second, .val (.long (own_f1 P3)), .second, .unset, .unset, .unset, .unset] [])) _
        refine XS.lload X111.here hx rfl (hb hby at_77) rfl ?_
        show Steps p.tables e below (T111.setTop (mkF m 79 #[.val (.long P0), .second, .val (.long P1), .second, .val (.long P2), .second, .val (.long P3), .second, .val (.int P4), .val (.ref b101), .val (.long (own_f1 P1)), .second, .val (.long P0), .second, .val (.long (P0 - (own_f1 P1))), .second, .val (.long (own_f1 P3)), .second, .unset, .unset, .unset, .unset] [(.long P2)])) _
        refine XS.lstore X111.here hx rfl (hb hby at_79) rfl (l' := #[.val (.long P0), .second, .val (.long P1), .second, .val (.long P2), .second, .val (.long P3), .second, .val (.int P4), .val (.ref b101), .val (.long (own_f1 P1)), .second, .val (.long P0), .second, .val (.long (P0 - (own_f1 P1))), .second, .val (.long (own_f1 P3)), .second, .val (.long P2), .second, .unset, .unset]) rfl ?_
        show Steps p.tables e below (T111.setTop (mkF m 81 #[.val (.long P0), .second, .val (.long P1), .second, .val (.long P2), .second, .val (.long P3), .second, .val (.int P4), .val (.ref b101), .val (.long (own_f1 P1)), .second, .val (.long P0), .second, .val (.long (P0 - (own_f1 P1))), .second, .val (.long (own_f1 P3)), .second, .val (.long P2), .second, .unset, .unset] [])) _
        refine XS.iload X111.here hx rfl (hb hby at_81) rfl ?_
        show Steps p.tables e below (T111.setTop (mkF m 83 #[.val (.long P0), .second, .val (.long P1), .second, .val (.long P2), .second, .val (.long P3), .second, .val (.int P4), .val (.ref b101), .val (.long (own_f1 P1)), .second, .val (.long P0), .second, .val (.long (P0 - (own_f1 P1))), .second, .val (.long (own_f1 P3)), .second, .val (.long P2), .second, .unset, .unset] [(.int P4)])) _
        refine XS.iconst X111.here hx rfl (hb hby at_83) ?_
        show Steps p.tables e below (T111.setTop (mkF m 84 #[.val (.long P0), .second, .val (.long P1), .second, .val (.long P2), .second, .val (.long P3), .second, .val (.int P4), .val (.ref b101), .val (.long (own_f1 P1)), .second, .val (.long P0), .second, .val (.long (P0 - (own_f1 P1))), .second, .val (.long (own_f1 P3)), .second, .val (.long P2), .second, .unset, .unset] [(.int (2 : Int32)), (.int P4)])) _
        refine XS.iand X111.here hx rfl (hb hby at_84) rfl ?_
        exact kt)
    by_cases hc85 : (P4 &&& (2 : Int32)) = (0 : Int32)
    · obtain ⟨cq113, kq113, q113a, q113b, q113c⟩ := isOf hZ K111 p108_0
      obtain ⟨_, _, ⟨T113, L113, k113, n113⟩, -, X113, ⟨Lc113, hQ113, l113, y113, z113⟩, st113⟩ := X111.virtualBack hx (y := (⟨"com/example/holdfast/holdfast/NodeClock", "read", "(JJ)V"⟩ : MethodName)) (z := (⟨"com/example/holdfast/holdfast/NodeClock", "read", "(JJ)V"⟩ : MethodName)) hown (mvT hZ (hw _ (List.mem_of_getElem? (i := 23) rfl))) (mvT hZ (hw _ (List.mem_of_getElem? (i := 24) rfl))) (notFace_of_selects (args := #[]) (mvT hZ (hw _ (List.mem_of_getElem? (i := 26) rfl)))) (mvT hZ (hw _ (List.mem_of_getElem? (i := 26) rfl))) (mvT hZ (hw _ (List.mem_of_getElem? (i := 25) rfl))) (by decide) (backOf (W := 0) (rm5 l Z a0 hw [] b101 P2 P3 (P0 - (own_fd P1 ((1000 : Int32).toInt64))) T108.heap n0 Z109 p108_1 p108_0 g_b101) hZ (hw _ (List.mem_of_getElem? (i := 27) rfl)) (hw _ (List.mem_of_getElem? (i := 2) rfl)) (by decide) (by decide)) q113a q113c (g := (mkF m 109 #[.val (.long P0), .second, .val (.long P1), .second, .val (.long P2), .second, .val (.long P3), .second, .val (.int P4), .val (.ref b101), .val (.long (own_f1 P1)), .second, .val (.long P0), .second, .val (.long (P0 - (own_f1 P1))), .second, .val (.long (own_f1 P3)), .second, .val (.long P2), .second, .val (.long (P2 - (own_f1 P3))), .second] [(.long P3), (.long P2), (.ref b101)])) rfl (by rw [hml]; rfl) (Steps.refl _) (argsL := [(.long P2), (.long P3)]) (rest := []) (lenOf pd_0_3 rfl) rfl (by show 2 * 0 + _ ≤ _; exact Nat.le_of_eq rfl) (hb hby at_109) (fun _ _ => ⟨rfl, K111, (by decide : 1 + 0 ≤ _), (by decide : 1 + 0 ≤ _)⟩)
      dsimp only [Pt.U, Pt.locs, Pt.cells, Pt.slots] at X113 l113 y113 z113 st113 hQ113
      subst l113 y113 z113
      obtain ⟨rfl, N113q, K113, p113_0, p113_1⟩ := hQ113
      have N113 := Fr.app N111 N113q
      have Z114 : n0 ≤ T113.heap.size := Nat.le_trans Z109 K113.1
      obtain ⟨_, _, ⟨T115, L115, k115, n115⟩, -, X115, ⟨Lc115, hQ115, l115, y115, z115⟩, st115⟩ := Jvm.LawKit.callS X113 hx (y := (⟨"com/example/holdfast/holdfast/NodeClockIsKnownPinLaw", "checkAfterRead", "(Lcom/example/holdfast/holdfast/NodeClock;J)Z"⟩ : MethodName)) hown (mvT hZ (hw _ (List.mem_of_getElem? (i := 35) rfl))) (mvT hZ (hw _ (List.mem_of_getElem? (i := 36) rfl))) (mvT hZ (hw _ (List.mem_of_getElem? (i := 19) rfl))) (mvT hZ (hw _ (List.mem_of_getElem? (i := 37) rfl))) (by decide) (backOf (W := 0) (rm8 l Z a0 hw [] b101 (P2 - (own_f1 P3)) (P2 - (own_fd P3 ((1000 : Int32).toInt64))) T113.heap n0 Z114 p113_1 p113_0 (show (P2 - (own_fd P3 ((1000 : Int32).toInt64))) = (P2 - (own_f1 P3)) from (by rw [own_fd1]))) hZ (hw _ (List.mem_of_getElem? (i := 37) rfl)) (hw _ (List.mem_of_getElem? (i := 19) rfl)) (by decide) (by decide)) (g := (mkF m 116 #[.val (.long P0), .second, .val (.long P1), .second, .val (.long P2), .second, .val (.long P3), .second, .val (.int P4), .val (.ref b101), .val (.long (own_f1 P1)), .second, .val (.long P0), .second, .val (.long (P0 - (own_f1 P1))), .second, .val (.long (own_f1 P3)), .second, .val (.long P2), .second, .val (.long (P2 - (own_f1 P3))), .second] [(.long (P2 - (own_f1 P3))), (.ref b101)])) rfl (by rw [hml]; rfl) (argsL := [(.ref b101), (.long (P2 - (own_f1 P3)))]) (rest := []) (lenOf pd_0_4 rfl) rfl (by show 2 * 0 + _ ≤ _; exact Nat.le_of_eq rfl) (hb hby at_116) (fun _ _ => ⟨rfl, rfl, (by decide : 1 + 0 ≤ _), (by decide : 1 + 0 ≤ _)⟩)
      dsimp only [Pt.U, Pt.locs, Pt.cells, Pt.slots] at X115 l115 y115 z115 st115 hQ115
      subst l115 y115 z115
      obtain ⟨rfl, N115q, K115⟩ := hQ115
      have N115 := Fr.app N113 N115q
      have pre116 : ∀ t, Steps p.tables e below (T115.setTop (mkF m 119 #[.val (.long P0), .second, .val (.long P1), .second, .val (.long P2), .second, .val (.long P3), .second, .val (.int P4), .val (.ref b101), .val (.long (own_f1 P1)), .second, .val (.long P0), .second, .val (.long (P0 - (own_f1 P1))), .second, .val (.long (own_f1 P3)), .second, .val (.long P2), .second, .val (.long (P2 - (own_f1 P3))), .second] [(.int (1 : Int32))])) t → Steps p.tables e below (s₁.setTop (entryFrame m #[(.long P0), (.long P1), (.long P2), (.long P3), (.int P4)] maxLocals)) t := fun t kt => pre112 t (by
          show Steps p.tables e below (T111.setTop (mkF m 85 #[.val (.long P0), .second, .val (.long P1), .second, .val (.long P2), .second, .val (.long P3), .second, .val (.int P4), .val (.ref b101), .val (.long (own_f1 P1)), .second, .val (.long P0), .second, .val (.long (P0 - (own_f1 P1))), .second, .val (.long (own_f1 P3)), .second, .val (.long P2), .second, .unset, .unset] [(.int (P4 &&& (2 : Int32)))])) _
          refine XS.ifYes X111.here hx rfl (pc0 := 85) (pc' := 96) rfl (hb hby at_85) rfl ((if0 _ _).trans (teq hc85).1) (by decide) (by decide) ?_
          show Steps p.tables e below (T111.setTop (mkF m 96 #[.val (.long P0), .second, .val (.long P1), .second, .val (.long P2), .second, .val (.long P3), .second, .val (.int P4), .val (.ref b101), .val (.long (own_f1 P1)), .second, .val (.long P0), .second, .val (.long (P0 - (own_f1 P1))), .second, .val (.long (own_f1 P3)), .second, .val (.long P2), .second, .unset, .unset] [])) _
          refine XS.lload X111.here hx rfl (hb hby at_96) rfl ?_
          show Steps p.tables e below (T111.setTop (mkF m 98 #[.val (.long P0), .second, .val (.long P1), .second, .val (.long P2), .second, .val (.long P3), .second, .val (.int P4), .val (.ref b101), .val (.long (own_f1 P1)), .second, .val (.long P0), .second, .val (.long (P0 - (own_f1 P1))), .second, .val (.long (own_f1 P3)), .second, .val (.long P2), .second, .unset, .unset] [(.long P2)])) _
          refine XS.lload X111.here hx rfl (hb hby at_98) rfl ?_
          show Steps p.tables e below (T111.setTop (mkF m 100 #[.val (.long P0), .second, .val (.long P1), .second, .val (.long P2), .second, .val (.long P3), .second, .val (.int P4), .val (.ref b101), .val (.long (own_f1 P1)), .second, .val (.long P0), .second, .val (.long (P0 - (own_f1 P1))), .second, .val (.long (own_f1 P3)), .second, .val (.long P2), .second, .unset, .unset] [(.long (own_f1 P3)), (.long P2)])) _
          refine XS.lsub X111.here hx rfl (hb hby at_100) rfl ?_
          show Steps p.tables e below (T111.setTop (mkF m 101 #[.val (.long P0), .second, .val (.long P1), .second, .val (.long P2), .second, .val (.long P3), .second, .val (.int P4), .val (.ref b101), .val (.long (own_f1 P1)), .second, .val (.long P0), .second, .val (.long (P0 - (own_f1 P1))), .second, .val (.long (own_f1 P3)), .second, .val (.long P2), .second, .unset, .unset] [(.long (P2 - (own_f1 P3)))])) _
          refine XS.lstore X111.here hx rfl (hb hby at_101) rfl (l' := #[.val (.long P0), .second, .val (.long P1), .second, .val (.long P2), .second, .val (.long P3), .second, .val (.int P4), .val (.ref b101), .val (.long (own_f1 P1)), .second, .val (.long P0), .second, .val (.long (P0 - (own_f1 P1))), .second, .val (.long (own_f1 P3)), .second, .val (.long P2), .second, .val (.long (P2 - (own_f1 P3))), .second]) rfl ?_
          show Steps p.tables e below (T111.setTop (mkF m 103 #[.val (.long P0), .second, .val (.long P1), .second, .val (.long P2), .second, .val (.long P3), .second, .val (.int P4), .val (.ref b101), .val (.long (own_f1 P1)), .second, .val (.long P0), .second, .val (.long (P0 - (own_f1 P1))), .second, .val (.long (own_f1 P3)), .second, .val (.long P2), .second, .val (.long (P2 - (own_f1 P3))), .second] [])) _
          refine XS.aload X111.here hx rfl (hb hby at_103) rfl rfl ?_
          show Steps p.tables e below (T111.setTop (mkF m 105 #[.val (.long P0), .second, .val (.long P1), .second, .val (.long P2), .second, .val (.long P3), .second, .val (.int P4), .val (.ref b101), .val (.long (own_f1 P1)), .second, .val (.long P0), .second, .val (.long (P0 - (own_f1 P1))), .second, .val (.long (own_f1 P3)), .second, .val (.long P2), .second, .val (.long (P2 - (own_f1 P3))), .second] [(.ref b101)])) _
          refine XS.lload X111.here hx rfl (hb hby at_105) rfl ?_
          show Steps p.tables e below (T111.setTop (mkF m 107 #[.val (.long P0), .second, .val (.long P1), .second, .val (.long P2), .second, .val (.long P3), .second, .val (.int P4), .val (.ref b101), .val (.long (own_f1 P1)), .second, .val (.long P0), .second, .val (.long (P0 - (own_f1 P1))), .second, .val (.long (own_f1 P3)), .second, .val (.long P2), .second, .val (.long (P2 - (own_f1 P3))), .second] [(.long P2), (.ref b101)])) _
          refine XS.lload X111.here hx rfl (hb hby at_107) rfl ?_
          show Steps p.tables e below (T111.setTop (mkF m 109 #[.val (.long P0), .second, .val (.long P1), .second, .val (.long P2), .second, .val (.long P3), .second, .val (.int P4), .val (.ref b101), .val (.long (own_f1 P1)), .second, .val (.long P0), .second, .val (.long (P0 - (own_f1 P1))), .second, .val (.long (own_f1 P3)), .second, .val (.long P2), .second, .val (.long (P2 - (own_f1 P3))), .second] [(.long P3), (.long P2), (.ref b101)])) _
          refine st113.trans ?_
          show Steps p.tables e below (T113.setTop (mkF m 112 #[.val (.long P0), .second, .val (.long P1), .second, .val (.long P2), .second, .val (.long P3), .second, .val (.int P4), .val (.ref b101), .val (.long (own_f1 P1)), .second, .val (.long P0), .second, .val (.long (P0 - (own_f1 P1))), .second, .val (.long (own_f1 P3)), .second, .val (.long P2), .second, .val (.long (P2 - (own_f1 P3))), .second] [])) _
          refine XS.aload X113.here hx rfl (hb hby at_112) rfl rfl ?_
          show Steps p.tables e below (T113.setTop (mkF m 114 #[.val (.long P0), .second, .val (.long P1), .second, .val (.long P2), .second, .val (.long P3), .second, .val (.int P4), .val (.ref b101), .val (.long (own_f1 P1)), .second, .val (.long P0), .second, .val (.long (P0 - (own_f1 P1))), .second, .val (.long (own_f1 P3)), .second, .val (.long P2), .second, .val (.long (P2 - (own_f1 P3))), .second] [(.ref b101)])) _
          refine XS.lload X113.here hx rfl (hb hby at_114) rfl ?_
          show Steps p.tables e below (T113.setTop (mkF m 116 #[.val (.long P0), .second, .val (.long P1), .second, .val (.long P2), .second, .val (.long P3), .second, .val (.int P4), .val (.ref b101), .val (.long (own_f1 P1)), .second, .val (.long P0), .second, .val (.long (P0 - (own_f1 P1))), .second, .val (.long (own_f1 P3)), .second, .val (.long P2), .second, .val (.long (P2 - (own_f1 P3))), .second] [(.long (P2 - (own_f1 P3))), (.ref b101)])) _
          refine st115 _ ?_
          exact kt)
      obtain ⟨fs, hr, hrun, hended, hW, hsame⟩ := X115.leave (v := some (.int (1 : Int32))) (fun h => by rw [Bd.returns] at h; cases h)
      refine ⟨_, _, pre116 _ ?_, hrun, hended, _, _, rfl, ?_, ⟨_, rfl⟩, hW, hsame.mono (by decide) (by decide)⟩
      · show Steps p.tables e below (T115.setTop (mkF m 119 #[.val (.long P0), .second, .val (.long P1), .second, .val (.long P2), .second, .val (.long P3), .second, .val (.int P4), .val (.ref b101), .val (.long (own_f1 P1)), .second, .val (.long P0), .second, .val (.long (P0 - (own_f1 P1))), .second, .val (.long (own_f1 P3)), .second, .val (.long P2), .second, .val (.long (P2 - (own_f1 P3))), .second] [(.int (1 : Int32))])) _
        exact retN X115 hx (t := .boolean) Bd.returns (by simp) (hb hby at_119) hr
      · show Q0 Z P0 P1 P2 P3 P4 h0 n0 _ T115.heap _
        rw [K115]
        exact ⟨rfl, N115⟩
    · obtain ⟨cq117, kq117, q117a, q117b, q117c⟩ := isOf hZ K111 p108_0
      obtain ⟨_, _, ⟨T117, L117, k117, n117⟩, -, X117, ⟨Lc117, hQ117, l117, y117, z117⟩, st117⟩ := X111.virtualBack hx (y := (⟨"com/example/holdfast/holdfast/NodeClock", "read", "(JJ)V"⟩ : MethodName)) (z := (⟨"com/example/holdfast/holdfast/NodeClock", "read", "(JJ)V"⟩ : MethodName)) hown (mvT hZ (hw _ (List.mem_of_getElem? (i := 23) rfl))) (mvT hZ (hw _ (List.mem_of_getElem? (i := 24) rfl))) (notFace_of_selects (args := #[]) (mvT hZ (hw _ (List.mem_of_getElem? (i := 26) rfl)))) (mvT hZ (hw _ (List.mem_of_getElem? (i := 26) rfl))) (mvT hZ (hw _ (List.mem_of_getElem? (i := 25) rfl))) (by decide) (backOf (W := 0) (rm5 l Z a0 hw [] b101 ((-9223372036854775808 : Int64) + (own_f1 P3)) P3 (P0 - (own_fd P1 ((1000 : Int32).toInt64))) T108.heap n0 Z109 p108_1 p108_0 g_b101) hZ (hw _ (List.mem_of_getElem? (i := 27) rfl)) (hw _ (List.mem_of_getElem? (i := 2) rfl)) (by decide) (by decide)) q117a q117c (g := (mkF m 109 #[.val (.long P0), .second, .val (.long P1), .second, .val (.long P2), .second, .val (.long P3), .second, .val (.int P4), .val (.ref b101), .val (.long (own_f1 P1)), .second, .val (.long P0), .second, .val (.long (P0 - (own_f1 P1))), .second, .val (.long (own_f1 P3)), .second, .val (.long ((-9223372036854775808 : Int64) + (own_f1 P3))), .second, .val (.long (((-9223372036854775808 : Int64) + (own_f1 P3)) - (own_f1 P3))), .second] [(.long P3), (.long ((-9223372036854775808 : Int64) + (own_f1 P3))), (.ref b101)])) rfl (by rw [hml]; rfl) (Steps.refl _) (argsL := [(.long ((-9223372036854775808 : Int64) + (own_f1 P3))), (.long P3)]) (rest := []) (lenOf pd_0_3 rfl) rfl (by show 2 * 0 + _ ≤ _; exact Nat.le_of_eq rfl) (hb hby at_109) (fun _ _ => ⟨rfl, K111, (by decide : 1 + 0 ≤ _), (by decide : 1 + 0 ≤ _)⟩)
      dsimp only [Pt.U, Pt.locs, Pt.cells, Pt.slots] at X117 l117 y117 z117 st117 hQ117
      subst l117 y117 z117
      obtain ⟨rfl, N117q, K117, p117_0, p117_1⟩ := hQ117
      have N117 := Fr.app N111 N117q
      have Z118 : n0 ≤ T117.heap.size := Nat.le_trans Z109 K117.1
      obtain ⟨_, _, ⟨T119, L119, k119, n119⟩, -, X119, ⟨Lc119, hQ119, l119, y119, z119⟩, st119⟩ := Jvm.LawKit.callS X117 hx (y := (⟨"com/example/holdfast/holdfast/NodeClockIsKnownPinLaw", "checkAfterRead", "(Lcom/example/holdfast/holdfast/NodeClock;J)Z"⟩ : MethodName)) hown (mvT hZ (hw _ (List.mem_of_getElem? (i := 35) rfl))) (mvT hZ (hw _ (List.mem_of_getElem? (i := 36) rfl))) (mvT hZ (hw _ (List.mem_of_getElem? (i := 19) rfl))) (mvT hZ (hw _ (List.mem_of_getElem? (i := 37) rfl))) (by decide) (backOf (W := 0) (rm8 l Z a0 hw [] b101 (((-9223372036854775808 : Int64) + (own_f1 P3)) - (own_f1 P3)) (((-9223372036854775808 : Int64) + (own_f1 P3)) - (own_fd P3 ((1000 : Int32).toInt64))) T117.heap n0 Z118 p117_1 p117_0 (show (((-9223372036854775808 : Int64) + (own_f1 P3)) - (own_fd P3 ((1000 : Int32).toInt64))) = (((-9223372036854775808 : Int64) + (own_f1 P3)) - (own_f1 P3)) from (by rw [own_fd1]))) hZ (hw _ (List.mem_of_getElem? (i := 37) rfl)) (hw _ (List.mem_of_getElem? (i := 19) rfl)) (by decide) (by decide)) (g := (mkF m 116 #[.val (.long P0), .second, .val (.long P1), .second, .val (.long P2), .second, .val (.long P3), .second, .val (.int P4), .val (.ref b101), .val (.long (own_f1 P1)), .second, .val (.long P0), .second, .val (.long (P0 - (own_f1 P1))), .second, .val (.long (own_f1 P3)), .second, .val (.long ((-9223372036854775808 : Int64) + (own_f1 P3))), .second, .val (.long (((-9223372036854775808 : Int64) + (own_f1 P3)) - (own_f1 P3))), .second] [(.long (((-9223372036854775808 : Int64) + (own_f1 P3)) - (own_f1 P3))), (.ref b101)])) rfl (by rw [hml]; rfl) (argsL := [(.ref b101), (.long (((-9223372036854775808 : Int64) + (own_f1 P3)) - (own_f1 P3)))]) (rest := []) (lenOf pd_0_4 rfl) rfl (by show 2 * 0 + _ ≤ _; exact Nat.le_of_eq rfl) (hb hby at_116) (fun _ _ => ⟨rfl, rfl, (by decide : 1 + 0 ≤ _), (by decide : 1 + 0 ≤ _)⟩)
      dsimp only [Pt.U, Pt.locs, Pt.cells, Pt.slots] at X119 l119 y119 z119 st119 hQ119
      subst l119 y119 z119
      obtain ⟨rfl, N119q, K119⟩ := hQ119
      have N119 := Fr.app N117 N119q
      have pre120 : ∀ t, Steps p.tables e below (T119.setTop (mkF m 119 #[.val (.long P0), .second, .val (.long P1), .second, .val (.long P2), .second, .val (.long P3), .second, .val (.int P4), .val (.ref b101), .val (.long (own_f1 P1)), .second, .val (.long P0), .second, .val (.long (P0 - (own_f1 P1))), .second, .val (.long (own_f1 P3)), .second, .val (.long ((-9223372036854775808 : Int64) + (own_f1 P3))), .second, .val (.long (((-9223372036854775808 : Int64) + (own_f1 P3)) - (own_f1 P3))), .second] [(.int (1 : Int32))])) t → Steps p.tables e below (s₁.setTop (entryFrame m #[(.long P0), (.long P1), (.long P2), (.long P3), (.int P4)] maxLocals)) t := fun t kt => pre112 t (by
          show Steps p.tables e below (T111.setTop (mkF m 85 #[.val (.long P0), .second, .val (.long P1), .second, .val (.long P2), .second, .val (.long P3), .second, .val (.int P4), .val (.ref b101), .val (.long (own_f1 P1)), .second, .val (.long P0), .second, .val (.long (P0 - (own_f1 P1))), .second, .val (.long (own_f1 P3)), .second, .val (.long P2), .second, .unset, .unset] [(.int (P4 &&& (2 : Int32)))])) _
          refine XS.ifNo X111.here hx rfl (hb hby at_85) rfl ((if0 _ _).trans (feq hc85).1) ?_
          show Steps p.tables e below (T111.setTop (mkF m 88 #[.val (.long P0), .second, .val (.long P1), .second, .val (.long P2), .second, .val (.long P3), .second, .val (.int P4), .val (.ref b101), .val (.long (own_f1 P1)), .second, .val (.long P0), .second, .val (.long (P0 - (own_f1 P1))), .second, .val (.long (own_f1 P3)), .second, .val (.long P2), .second, .unset, .unset] [])) _
          refine X111.ldc2Long hx hown (mvT hZ (hw _ (List.mem_of_getElem? (i := 22) rfl))) (g := (mkF m 88 #[.val (.long P0), .second, .val (.long P1), .second, .val (.long P2), .second, .val (.long P3), .second, .val (.int P4), .val (.ref b101), .val (.long (own_f1 P1)), .second, .val (.long P0), .second, .val (.long (P0 - (own_f1 P1))), .second, .val (.long (own_f1 P3)), .second, .val (.long P2), .second, .unset, .unset] [])) rfl (hb hby at_88) _ ?_
          show Steps p.tables e below (T111.setTop (mkF m 91 #[.val (.long P0), .second, .val (.long P1), .second, .val (.long P2), .second, .val (.long P3), .second, .val (.int P4), .val (.ref b101), .val (.long (own_f1 P1)), .second, .val (.long P0), .second, .val (.long (P0 - (own_f1 P1))), .second, .val (.long (own_f1 P3)), .second, .val (.long P2), .second, .unset, .unset] [(.long (-9223372036854775808 : Int64))])) _
          refine XS.lload X111.here hx rfl (hb hby at_91) rfl ?_
          show Steps p.tables e below (T111.setTop (mkF m 93 #[.val (.long P0), .second, .val (.long P1), .second, .val (.long P2), .second, .val (.long P3), .second, .val (.int P4), .val (.ref b101), .val (.long (own_f1 P1)), .second, .val (.long P0), .second, .val (.long (P0 - (own_f1 P1))), .second, .val (.long (own_f1 P3)), .second, .val (.long P2), .second, .unset, .unset] [(.long (own_f1 P3)), (.long (-9223372036854775808 : Int64))])) _
          refine XS.ladd X111.here hx rfl (hb hby at_93) rfl ?_
          show Steps p.tables e below (T111.setTop (mkF m 94 #[.val (.long P0), .second, .val (.long P1), .second, .val (.long P2), .second, .val (.long P3), .second, .val (.int P4), .val (.ref b101), .val (.long (own_f1 P1)), .second, .val (.long P0), .second, .val (.long (P0 - (own_f1 P1))), .second, .val (.long (own_f1 P3)), .second, .val (.long P2), .second, .unset, .unset] [(.long ((-9223372036854775808 : Int64) + (own_f1 P3)))])) _
          refine XS.lstore X111.here hx rfl (hb hby at_94) rfl (l' := #[.val (.long P0), .second, .val (.long P1), .second, .val (.long P2), .second, .val (.long P3), .second, .val (.int P4), .val (.ref b101), .val (.long (own_f1 P1)), .second, .val (.long P0), .second, .val (.long (P0 - (own_f1 P1))), .second, .val (.long (own_f1 P3)), .second, .val (.long ((-9223372036854775808 : Int64) + (own_f1 P3))), .second, .unset, .unset]) rfl ?_
          show Steps p.tables e below (T111.setTop (mkF m 96 #[.val (.long P0), .second, .val (.long P1), .second, .val (.long P2), .second, .val (.long P3), .second, .val (.int P4), .val (.ref b101), .val (.long (own_f1 P1)), .second, .val (.long P0), .second, .val (.long (P0 - (own_f1 P1))), .second, .val (.long (own_f1 P3)), .second, .val (.long ((-9223372036854775808 : Int64) + (own_f1 P3))), .second, .unset, .unset] [])) _
          refine XS.lload X111.here hx rfl (hb hby at_96) rfl ?_
          show Steps p.tables e below (T111.setTop (mkF m 98 #[.val (.long P0), .second, .val (.long P1), .second, .val (.long P2), .second, .val (.long P3), .second, .val (.int P4), .val (.ref b101), .val (.long (own_f1 P1)), .second, .val (.long P0), .second, .val (.long (P0 - (own_f1 P1))), .second, .val (.long (own_f1 P3)), .second, .val (.long ((-9223372036854775808 : Int64) + (own_f1 P3))), .second, .unset, .unset] [(.long ((-9223372036854775808 : Int64) + (own_f1 P3)))])) _
          refine XS.lload X111.here hx rfl (hb hby at_98) rfl ?_
          show Steps p.tables e below (T111.setTop (mkF m 100 #[.val (.long P0), .second, .val (.long P1), .second, .val (.long P2), .second, .val (.long P3), .second, .val (.int P4), .val (.ref b101), .val (.long (own_f1 P1)), .second, .val (.long P0), .second, .val (.long (P0 - (own_f1 P1))), .second, .val (.long (own_f1 P3)), .second, .val (.long ((-9223372036854775808 : Int64) + (own_f1 P3))), .second, .unset, .unset] [(.long (own_f1 P3)), (.long ((-9223372036854775808 : Int64) + (own_f1 P3)))])) _
          refine XS.lsub X111.here hx rfl (hb hby at_100) rfl ?_
          show Steps p.tables e below (T111.setTop (mkF m 101 #[.val (.long P0), .second, .val (.long P1), .second, .val (.long P2), .second, .val (.long P3), .second, .val (.int P4), .val (.ref b101), .val (.long (own_f1 P1)), .second, .val (.long P0), .second, .val (.long (P0 - (own_f1 P1))), .second, .val (.long (own_f1 P3)), .second, .val (.long ((-9223372036854775808 : Int64) + (own_f1 P3))), .second, .unset, .unset] [(.long (((-9223372036854775808 : Int64) + (own_f1 P3)) - (own_f1 P3)))])) _
          refine XS.lstore X111.here hx rfl (hb hby at_101) rfl (l' := #[.val (.long P0), .second, .val (.long P1), .second, .val (.long P2), .second, .val (.long P3), .second, .val (.int P4), .val (.ref b101), .val (.long (own_f1 P1)), .second, .val (.long P0), .second, .val (.long (P0 - (own_f1 P1))), .second, .val (.long (own_f1 P3)), .second, .val (.long ((-9223372036854775808 : Int64) + (own_f1 P3))), .second, .val (.long (((-9223372036854775808 : Int64) + (own_f1 P3)) - (own_f1 P3))), .second]) rfl ?_
          show Steps p.tables e below (T111.setTop (mkF m 103 #[.val (.long P0), .second, .val (.long P1), .second, .val (.long P2), .second, .val (.long P3), .second, .val (.int P4), .val (.ref b101), .val (.long (own_f1 P1)), .second, .val (.long P0), .second, .val (.long (P0 - (own_f1 P1))), .second, .val (.long (own_f1 P3)), .second, .val (.long ((-9223372036854775808 : Int64) + (own_f1 P3))), .second, .val (.long (((-9223372036854775808 : Int64) + (own_f1 P3)) - (own_f1 P3))), .second] [])) _
          refine XS.aload X111.here hx rfl (hb hby at_103) rfl rfl ?_
          show Steps p.tables e below (T111.setTop (mkF m 105 #[.val (.long P0), .second, .val (.long P1), .second, .val (.long P2), .second, .val (.long P3), .second, .val (.int P4), .val (.ref b101), .val (.long (own_f1 P1)), .second, .val (.long P0), .second, .val (.long (P0 - (own_f1 P1))), .second, .val (.long (own_f1 P3)), .second, .val (.long ((-9223372036854775808 : Int64) + (own_f1 P3))), .second, .val (.long (((-9223372036854775808 : Int64) + (own_f1 P3)) - (own_f1 P3))), .second] [(.ref b101)])) _
          refine XS.lload X111.here hx rfl (hb hby at_105) rfl ?_
          show Steps p.tables e below (T111.setTop (mkF m 107 #[.val (.long P0), .second, .val (.long P1), .second, .val (.long P2), .second, .val (.long P3), .second, .val (.int P4), .val (.ref b101), .val (.long (own_f1 P1)), .second, .val (.long P0), .second, .val (.long (P0 - (own_f1 P1))), .second, .val (.long (own_f1 P3)), .second, .val (.long ((-9223372036854775808 : Int64) + (own_f1 P3))), .second, .val (.long (((-9223372036854775808 : Int64) + (own_f1 P3)) - (own_f1 P3))), .second] [(.long ((-9223372036854775808 : Int64) + (own_f1 P3))), (.ref b101)])) _
          refine XS.lload X111.here hx rfl (hb hby at_107) rfl ?_
          show Steps p.tables e below (T111.setTop (mkF m 109 #[.val (.long P0), .second, .val (.long P1), .second, .val (.long P2), .second, .val (.long P3), .second, .val (.int P4), .val (.ref b101), .val (.long (own_f1 P1)), .second, .val (.long P0), .second, .val (.long (P0 - (own_f1 P1))), .second, .val (.long (own_f1 P3)), .second, .val (.long ((-9223372036854775808 : Int64) + (own_f1 P3))), .second, .val (.long (((-9223372036854775808 : Int64) + (own_f1 P3)) - (own_f1 P3))), .second] [(.long P3), (.long ((-9223372036854775808 : Int64) + (own_f1 P3))), (.ref b101)])) _
          refine st117.trans ?_
          show Steps p.tables e below (T117.setTop (mkF m 112 #[.val (.long P0), .second, .val (.long P1), .second, .val (.long P2), .second, .val (.long P3), .second, .val (.int P4), .val (.ref b101), .val (.long (own_f1 P1)), .second, .val (.long P0), .second, .val (.long (P0 - (own_f1 P1))), .second, .val (.long (own_f1 P3)), .second, .val (.long ((-9223372036854775808 : Int64) + (own_f1 P3))), .second, .val (.long (((-9223372036854775808 : Int64) + (own_f1 P3)) - (own_f1 P3))), .second] [])) _
          refine XS.aload X117.here hx rfl (hb hby at_112) rfl rfl ?_
          show Steps p.tables e below (T117.setTop (mkF m 114 #[.val (.long P0), .second, .val (.long P1), .second, .val (.long P2), .second, .val (.long P3), .second, .val (.int P4), .val (.ref b101), .val (.long (own_f1 P1)), .second, .val (.long P0), .second, .val (.long (P0 - (own_f1 P1))), .second, .val (.long (own_f1 P3)), .second, .val (.long ((-9223372036854775808 : Int64) + (own_f1 P3))), .second, .val (.long (((-9223372036854775808 : Int64) + (own_f1 P3)) - (own_f1 P3))), .second] [(.ref b101)])) _
          refine XS.lload X117.here hx rfl (hb hby at_114) rfl ?_
          show Steps p.tables e below (T117.setTop (mkF m 116 #[.val (.long P0), .second, .val (.long P1), .second, .val (.long P2), .second, .val (.long P3), .second, .val (.int P4), .val (.ref b101), .val (.long (own_f1 P1)), .second, .val (.long P0), .second, .val (.long (P0 - (own_f1 P1))), .second, .val (.long (own_f1 P3)), .second, .val (.long ((-9223372036854775808 : Int64) + (own_f1 P3))), .second, .val (.long (((-9223372036854775808 : Int64) + (own_f1 P3)) - (own_f1 P3))), .second] [(.long (((-9223372036854775808 : Int64) + (own_f1 P3)) - (own_f1 P3))), (.ref b101)])) _
          refine st119 _ ?_
          exact kt)
      obtain ⟨fs, hr, hrun, hended, hW, hsame⟩ := X119.leave (v := some (.int (1 : Int32))) (fun h => by rw [Bd.returns] at h; cases h)
      refine ⟨_, _, pre120 _ ?_, hrun, hended, _, _, rfl, ?_, ⟨_, rfl⟩, hW, hsame.mono (by decide) (by decide)⟩
      · show Steps p.tables e below (T119.setTop (mkF m 119 #[.val (.long P0), .second, .val (.long P1), .second, .val (.long P2), .second, .val (.long P3), .second, .val (.int P4), .val (.ref b101), .val (.long (own_f1 P1)), .second, .val (.long P0), .second, .val (.long (P0 - (own_f1 P1))), .second, .val (.long (own_f1 P3)), .second, .val (.long ((-9223372036854775808 : Int64) + (own_f1 P3))), .second, .val (.long (((-9223372036854775808 : Int64) + (own_f1 P3)) - (own_f1 P3))), .second] [(.int (1 : Int32))])) _
        exact retN X119 hx (t := .boolean) Bd.returns (by simp) (hb hby at_119) hr
      · show Q0 Z P0 P1 P2 P3 P4 h0 n0 _ T119.heap _
        rw [K119]
        exact ⟨rfl, N119⟩
  · obtain ⟨cq121, kq121, q121a, q121b, q121c⟩ := isOf hZ K106 p103_0
    obtain ⟨_, _, ⟨T121, L121, k121, n121⟩, -, X121, ⟨Lc121, hQ121, l121, y121, z121⟩, st121⟩ := X106.virtualBack hx (y := (⟨"com/example/holdfast/holdfast/NodeClock", "read", "(JJ)V"⟩ : MethodName)) (z := (⟨"com/example/holdfast/holdfast/NodeClock", "read", "(JJ)V"⟩ : MethodName)) hown (mvT hZ (hw _ (List.mem_of_getElem? (i := 23) rfl))) (mvT hZ (hw _ (List.mem_of_getElem? (i := 24) rfl))) (notFace_of_selects (args := #[]) (mvT hZ (hw _ (List.mem_of_getElem? (i := 26) rfl)))) (mvT hZ (hw _ (List.mem_of_getElem? (i := 26) rfl))) (mvT hZ (hw _ (List.mem_of_getElem? (i := 25) rfl))) (by decide) (backOf (W := 0) (rm5 l Z a0 hw [] b101 ((-9223372036854775808 : Int64) + (own_f1 P1)) P1 (-9223372036854775808 : Int64) T103.heap n0 Z104 p103_1 p103_0 g_b101) hZ (hw _ (List.mem_of_getElem? (i := 27) rfl)) (hw _ (List.mem_of_getElem? (i := 2) rfl)) (by decide) (by decide)) q121a q121c (g := (mkF m 55 #[.val (.long P0), .second, .val (.long P1), .second, .val (.long P2), .second, .val (.long P3), .second, .val (.int P4), .val (.ref b101), .val (.long (own_f1 P1)), .second, .val (.long ((-9223372036854775808 : Int64) + (own_f1 P1))), .second, .val (.long (((-9223372036854775808 : Int64) + (own_f1 P1)) - (own_f1 P1))), .second, .unset, .unset, .unset, .unset, .unset, .unset] [(.long P1), (.long ((-9223372036854775808 : Int64) + (own_f1 P1))), (.ref b101)])) rfl (by rw [hml]; rfl) (Steps.refl _) (argsL := [(.long ((-9223372036854775808 : Int64) + (own_f1 P1))), (.long P1)]) (rest := []) (lenOf pd_0_3 rfl) rfl (by show 2 * 0 + _ ≤ _; exact Nat.le_of_eq rfl) (hb hby at_55) (fun _ _ => ⟨rfl, K106, (by decide : 1 + 0 ≤ _), (by decide : 1 + 0 ≤ _)⟩)
    dsimp only [Pt.U, Pt.locs, Pt.cells, Pt.slots] at X121 l121 y121 z121 st121 hQ121
    subst l121 y121 z121
    obtain ⟨rfl, N121q, K121, p121_0, p121_1⟩ := hQ121
    have N121 := Fr.app N106 N121q
    have Z122 : n0 ≤ T121.heap.size := Nat.le_trans Z104 K121.1
    obtain ⟨_, _, ⟨T123, L123, k123, n123⟩, -, X123, ⟨Lc123, hQ123, l123, y123, z123⟩, st123⟩ := Jvm.LawKit.callS X121 hx (y := (⟨"com/example/holdfast/holdfast/NodeClockIsKnownPinLaw", "checkAfterRead", "(Lcom/example/holdfast/holdfast/NodeClock;J)Z"⟩ : MethodName)) hown (mvT hZ (hw _ (List.mem_of_getElem? (i := 35) rfl))) (mvT hZ (hw _ (List.mem_of_getElem? (i := 36) rfl))) (mvT hZ (hw _ (List.mem_of_getElem? (i := 19) rfl))) (mvT hZ (hw _ (List.mem_of_getElem? (i := 37) rfl))) (by decide) (backOf (W := 0) (rm8 l Z a0 hw [] b101 (((-9223372036854775808 : Int64) + (own_f1 P1)) - (own_f1 P1)) (((-9223372036854775808 : Int64) + (own_f1 P1)) - (own_fd P1 ((1000 : Int32).toInt64))) T121.heap n0 Z122 p121_1 p121_0 (show (((-9223372036854775808 : Int64) + (own_f1 P1)) - (own_fd P1 ((1000 : Int32).toInt64))) = (((-9223372036854775808 : Int64) + (own_f1 P1)) - (own_f1 P1)) from (by rw [own_fd1]))) hZ (hw _ (List.mem_of_getElem? (i := 37) rfl)) (hw _ (List.mem_of_getElem? (i := 19) rfl)) (by decide) (by decide)) (g := (mkF m 62 #[.val (.long P0), .second, .val (.long P1), .second, .val (.long P2), .second, .val (.long P3), .second, .val (.int P4), .val (.ref b101), .val (.long (own_f1 P1)), .second, .val (.long ((-9223372036854775808 : Int64) + (own_f1 P1))), .second, .val (.long (((-9223372036854775808 : Int64) + (own_f1 P1)) - (own_f1 P1))), .second, .unset, .unset, .unset, .unset, .unset, .unset] [(.long (((-9223372036854775808 : Int64) + (own_f1 P1)) - (own_f1 P1))), (.ref b101)])) rfl (by rw [hml]; rfl) (argsL := [(.ref b101), (.long (((-9223372036854775808 : Int64) + (own_f1 P1)) - (own_f1 P1)))]) (rest := []) (lenOf pd_0_4 rfl) rfl (by show 2 * 0 + _ ≤ _; exact Nat.le_of_eq rfl) (hb hby at_62) (fun _ _ => ⟨rfl, rfl, (by decide : 1 + 0 ≤ _), (by decide : 1 + 0 ≤ _)⟩)
    dsimp only [Pt.U, Pt.locs, Pt.cells, Pt.slots] at X123 l123 y123 z123 st123 hQ123
    subst l123 y123 z123
    obtain ⟨rfl, N123q, K123⟩ := hQ123
    have N123 := Fr.app N121 N123q
    obtain ⟨_, _, ⟨T124, L124, k124, n124⟩, -, X124, ⟨Lc124, hQ124, l124, y124, z124⟩, st124⟩ := Jvm.LawKit.callS X123 hx (y := (⟨"com/example/holdfast/holdfast/NodeClockIsKnownPinLaw", "floorDiv1000", "(J)J"⟩ : MethodName)) hown (mvT hZ (hw _ (List.mem_of_getElem? (i := 17) rfl))) (mvT hZ (hw _ (List.mem_of_getElem? (i := 18) rfl))) (mvT hZ (hw _ (List.mem_of_getElem? (i := 19) rfl))) (mvT hZ (hw _ (List.mem_of_getElem? (i := 20) rfl))) (by decide) (backOf (W := 0) (rm4 l Z a0 hw [] P3 T121.heap n0 Z122 ) hZ (hw _ (List.mem_of_getElem? (i := 20) rfl)) (hw _ (List.mem_of_getElem? (i := 19) rfl)) (by decide) (by decide)) (g := (mkF m 72 #[.val (.long P0), .second, .val (.long P1), .second, .val (.long P2), .second, .val (.long P3), .second, .val (.int P4), .val (.ref b101), .val (.long (own_f1 P1)), .second, .val (.long ((-9223372036854775808 : Int64) + (own_f1 P1))), .second, .val (.long (((-9223372036854775808 : Int64) + (own_f1 P1)) - (own_f1 P1))), .second, .unset, .unset, .unset, .unset, .unset, .unset] [(.long P3)])) rfl (by rw [hml]; rfl) (argsL := [(.long P3)]) (rest := []) (lenOf pd_0_2 rfl) rfl (by show 2 * 0 + _ ≤ _; exact Nat.le_of_eq rfl) (hb hby at_72) (fun _ _ => ⟨rfl, K123, (by decide : 1 + 0 ≤ _), (by decide : 1 + 0 ≤ _)⟩)
    dsimp only [Pt.U, Pt.locs, Pt.cells, Pt.slots] at X124 l124 y124 z124 st124 hQ124
    subst l124 y124 z124
    obtain ⟨rfl, N124q, K124⟩ := hQ124
    have N124 := Fr.app N123 N124q
    have pre125 : ∀ t, Steps p.tables e below (T124.setTop (mkF m 85 #[.val (.long P0), .second, .val (.long P1), .second, .val (.long P2), .second, .val (.long P3), .second, .val (.int P4), .val (.ref b101), .val (.long (own_f1 P1)), .second, .val (.long ((-9223372036854775808 : Int64) + (own_f1 P1))), .second, .val (.long (((-9223372036854775808 : Int64) + (own_f1 P1)) - (own_f1 P1))), .second, .val (.long (own_f1 P3)), .second, .val (.long P2), .second, .unset, .unset] [(.int (P4 &&& (2 : Int32)))])) t → Steps p.tables e below (s₁.setTop (entryFrame m #[(.long P0), (.long P1), (.long P2), (.long P3), (.int P4)] maxLocals)) t := fun t kt => pre107 t (by
        show Steps p.tables e below (T106.setTop (mkF m 32 #[.val (.long P0), .second, .val (.long P1), .second, .val (.long P2), .second, .val (.long P3), .second, .val (.int P4), .val (.ref b101), .val (.long (own_f1 P1)), .second, .val (.long P0), .second, .unset, .unset, .unset, .unset, .unset, .unset, .unset, .unset] [(.int (P4 &&& (1 : Int32)))])) _
        refine XS.ifNo X106.here hx rfl (hb hby at_32) rfl ((if0 _ _).trans (feq hc32).1) ?_
        show Steps p.tables e below (T106.setTop (mkF m 35 #[.val (.long P0), .second, .val (.long P1), .second, .val (.long P2), .second, .val (.long P3), .second, .val (.int P4), .val (.ref b101), .val (.long (own_f1 P1)), .second, .val (.long P0), .second, .unset, .unset, .unset, .unset, .unset, .unset, .unset, .unset] [])) _
        refine X106.ldc2Long hx hown (mvT hZ (hw _ (List.mem_of_getElem? (i := 22) rfl))) (g := (mkF m 35 #[.val (.long P0), .second, .val (.long P1), .second, .val (.long P2), .second, .val (.long P3), .second, .val (.int P4), .val (.ref b101), .val (.long (own_f1 P1)), .second, .val (.long P0), .second, .unset, .unset, .unset, .unset, .unset, .unset, .unset, .unset] [])) rfl (hb hby at_35) _ ?_
        show Steps p.tables e below (T106.setTop (mkF m 38 #[.val (.long P0), .second, .val (.long P1), .second, .val (.long P2), .second, .val (.long P3), .second, .val (.int P4), .val (.ref b101), .val (.long (own_f1 P1)), .second, .val (.long P0), .second, .unset, .unset, .unset, .unset, .unset, .unset, .unset, .unset] [(.long (-9223372036854775808 : Int64))])) _
        refine XS.lload X106.here hx rfl (hb hby at_38) rfl ?_
        show Steps p.tables e below (T106.setTop (mkF m 40 #[.val (.long P0), .second, .val (.long P1), .second, .val (.long P2), .second, .val (.long P3), .second, .val (.int P4), .val (.ref b101), .val (.long (own_f1 P1)), .second, .val (.long P0), .second, .unset, .unset, .unset, .unset, .unset, .unset, .unset, .unset] [(.long (own_f1 P1)), (.long (-9223372036854775808 : Int64))])) _
        refine XS.ladd X106.here hx rfl (hb hby at_40) rfl ?_
        show Steps p.tables e below (T106.setTop (mkF m 41 #[.val (.long P0), .second, .val (.long P1), .second, .val (.long P2), .second, .val (.long P3), .second, .val (.int P4), .val (.ref b101), .val (.long (own_f1 P1)), .second, .val (.long P0), .second, .unset, .unset, .unset, .unset, .unset, .unset, .unset, .unset] [(.long ((-9223372036854775808 : Int64) + (own_f1 P1)))])) _
        refine XS.lstore X106.here hx rfl (hb hby at_41) rfl (l' := #[.val (.long P0), .second, .val (.long P1), .second, .val (.long P2), .second, .val (.long P3), .second, .val (.int P4), .val (.ref b101), .val (.long (own_f1 P1)), .second, .val (.long ((-9223372036854775808 : Int64) + (own_f1 P1))), .second, .unset, .unset, .unset, .unset, .unset, .unset, .unset, .unset]) rfl ?_
        show Steps p.tables e below (T106.setTop (mkF m 43 #[.val (.long P0), .second, .val (.long P1), .second, .val (.long P2), .second, .val (.long P3), .second, .val (.int P4), .val (.ref b101), .val (.long (own_f1 P1)), .second, .val (.long ((-9223372036854775808 : Int64) + (own_f1 P1))), .second, .unset, .unset, .unset, .unset, .unset, .unset, .unset, .unset] [])) _
        refine XS.lload X106.here hx rfl (hb hby at_43) rfl ?_
        show Steps p.tables e below (T106.setTop (mkF m 45 #[.val (.long P0), .second, .val (.long P1), .second, .val (.long P2), .second, .val (.long P3), .second, .val (.int P4), .val (.ref b101), .val (.long (own_f1 P1)), .second, .val (.long ((-9223372036854775808 : Int64) + (own_f1 P1))), .second, .unset, .unset, .unset, .unset, .unset, .unset, .unset, .unset] [(.long ((-9223372036854775808 : Int64) + (own_f1 P1)))])) _
        refine XS.lload X106.here hx rfl (hb hby at_45) rfl ?_
        show Steps p.tables e below (T106.setTop (mkF m 47 #[.val (.long P0), .second, .val (.long P1), .second, .val (.long P2), .second, .val (.long P3), .second, .val (.int P4), .val (.ref b101), .val (.long (own_f1 P1)), .second, .val (.long ((-9223372036854775808 : Int64) + (own_f1 P1))), .second, .unset, .unset, .unset, .unset, .unset, .unset, .unset, .unset] [(.long (own_f1 P1)), (.long ((-9223372036854775808 : Int64) + (own_f1 P1)))])) _
        refine XS.lsub X106.here hx rfl (hb hby at_47) rfl ?_
        show Steps p.tables e below (T106.setTop (mkF m 48 #[.val (.long P0), .second, .val (.long P1), .second, .val (.long P2), .second, .val (.long P3), .second, .val (.int P4), .val (.ref b101), .val (.long (own_f1 P1)), .second, .val (.long ((-9223372036854775808 : Int64) + (own_f1 P1))), .second, .unset, .unset, .unset, .unset, .unset, .unset, .unset, .unset] [(.long (((-9223372036854775808 : Int64) + (own_f1 P1)) - (own_f1 P1)))])) _
        refine XS.lstore X106.here hx rfl (hb hby at_48) rfl (l' := #[.val (.long P0), .second, .val (.long P1), .second, .val (.long P2), .second, .val (.long P3), .second, .val (.int P4), .val (.ref b101), .val (.long (own_f1 P1)), .second, .val (.long ((-9223372036854775808 : Int64) + (own_f1 P1))), .second, .val (.long (((-9223372036854775808 : Int64) + (own_f1 P1)) - (own_f1 P1))), .second, .unset, .unset, .unset, .unset, .unset, .unset]) rfl ?_
        show Steps p.tables e below (T106.setTop (mkF m 50 #[.val (.long P0), .second, .val (.long P1), .second, .val (.long P2), .second, .val (.long P3), .second, .val (.int P4), .val (.ref b101), .val (.long (own_f1 P1)), .second, .val (.long ((-9223372036854775808 : Int64) + (own_f1 P1))), .second, .val (.long (((-9223372036854775808 : Int64) + (own_f1 P1)) - (own_f1 P1))), .second, .unset, .unset, .unset, .unset, .unset, .unset] [])) _
        refine XS.aload X106.here hx rfl (hb hby at_50) rfl rfl ?_
        show Steps p.tables e below (T106.setTop (mkF m 52 #[.val (.long P0), .second, .val (.long P1), .second, .val (.long P2), .second, .val (.long P3), .second, .val (.int P4), .val (.ref b101), .val (.long (own_f1 P1)), .second, .val (.long ((-9223372036854775808 : Int64) + (own_f1 P1))), .second, .val (.long (((-9223372036854775808 : Int64) + (own_f1 P1)) - (own_f1 P1))), .second, .unset, .unset, .unset, .unset, .unset, .unset] [(.ref b101)])) _
        refine XS.lload X106.here hx rfl (hb hby at_52) rfl ?_
        show Steps p.tables e below (T106.setTop (mkF m 54 #[.val (.long P0), .second, .val (.long P1), .second, .val (.long P2), .second, .val (.long P3), .second, .val (.int P4), .val (.ref b101), .val (.long (own_f1 P1)), .second, .val (.long ((-9223372036854775808 : Int64) + (own_f1 P1))), .second, .val (.long (((-9223372036854775808 : Int64) + (own_f1 P1)) - (own_f1 P1))), .second, .unset, .unset, .unset, .unset, .unset, .unset] [(.long ((-9223372036854775808 : Int64) + (own_f1 P1))), (.ref b101)])) _
        refine XS.lloadN X106.here hx rfl (hb hby at_54) rfl ?_
        show Steps p.tables e below (T106.setTop (mkF m 55 #[.val (.long P0), .second, .val (.long P1), .second, .val (.long P2), .second, .val (.long P3), .second, .val (.int P4), .val (.ref b101), .val (.long (own_f1 P1)), .second, .val (.long ((-9223372036854775808 : Int64) + (own_f1 P1))), .second, .val (.long (((-9223372036854775808 : Int64) + (own_f1 P1)) - (own_f1 P1))), .second, .unset, .unset, .unset, .unset, .unset, .unset] [(.long P1), (.long ((-9223372036854775808 : Int64) + (own_f1 P1))), (.ref b101)])) _
        refine st121.trans ?_
        show Steps p.tables e below (T121.setTop (mkF m 58 #[.val (.long P0), .second, .val (.long P1), .second, .val (.long P2), .second, .val (.long P3), .second, .val (.int P4), .val (.ref b101), .val (.long (own_f1 P1)), .second, .val (.long ((-9223372036854775808 : Int64) + (own_f1 P1))), .second, .val (.long (((-9223372036854775808 : Int64) + (own_f1 P1)) - (own_f1 P1))), .second, .unset, .unset, .unset, .unset, .unset, .unset] [])) _
        refine XS.aload X121.here hx rfl (hb hby at_58) rfl rfl ?_
        show Steps p.tables e below (T121.setTop (mkF m 60 #[.val (.long P0), .second, .val (.long P1), .second, .val (.long P2), .second, .val (.long P3), .second, .val (.int P4), .val (.ref b101), .val (.long (own_f1 P1)), .second, .val (.long ((-9223372036854775808 : Int64) + (own_f1 P1))), .second, .val (.long (((-9223372036854775808 : Int64) + (own_f1 P1)) - (own_f1 P1))), .second, .unset, .unset, .unset, .unset, .unset, .unset] [(.ref b101)])) _
        refine XS.lload X121.here hx rfl (hb hby at_60) rfl ?_
        show Steps p.tables e below (T121.setTop (mkF m 62 #[.val (.long P0), .second, .val (.long P1), .second, .val (.long P2), .second, .val (.long P3), .second, .val (.int P4), .val (.ref b101), .val (.long (own_f1 P1)), .second, .val (.long ((-9223372036854775808 : Int64) + (own_f1 P1))), .second, .val (.long (((-9223372036854775808 : Int64) + (own_f1 P1)) - (own_f1 P1))), .second, .unset, .unset, .unset, .unset, .unset, .unset] [(.long (((-9223372036854775808 : Int64) + (own_f1 P1)) - (own_f1 P1))), (.ref b101)])) _
        refine st123 _ ?_
        show Steps p.tables e below (T123.setTop (mkF m 65 #[.val (.long P0), .second, .val (.long P1), .second, .val (.long P2), .second, .val (.long P3), .second, .val (.int P4), .val (.ref b101), .val (.long (own_f1 P1)), .second, .val (.long ((-9223372036854775808 : Int64) + (own_f1 P1))), .second, .val (.long (((-9223372036854775808 : Int64) + (own_f1 P1)) - (own_f1 P1))), .second, .unset, .unset, .unset, .unset, .unset, .unset] [(.int (1 : Int32))])) _
        refine XS.ifYes X123.here hx rfl (pc0 := 65) (pc' := 70) rfl (hb hby at_65) rfl ((if0 _ _).trans (feq (show ¬ ((1 : Int32) = (0 : Int32)) from (by decide))).2) (by decide) (by decide) ?_
        show Steps p.tables e below (T123.setTop (mkF m 70 #[.val (.long P0), .second, .val (.long P1), .second, .val (.long P2), .second, .val (.long P3), .second, .val (.int P4), .val (.ref b101), .val (.long (own_f1 P1)), .second, .val (.long ((-9223372036854775808 : Int64) + (own_f1 P1))), .second, .val (.long (((-9223372036854775808 : Int64) + (own_f1 P1)) - (own_f1 P1))), .second, .unset, .unset, .unset, .unset, .unset, .unset] [])) _
        refine XS.lload X123.here hx rfl (hb hby at_70) rfl ?_
        show Steps p.tables e below (T123.setTop (mkF m 72 #[.val (.long P0), .second, .val (.long P1), .second, .val (.long P2), .second, .val (.long P3), .second, .val (.int P4), .val (.ref b101), .val (.long (own_f1 P1)), .second, .val (.long ((-9223372036854775808 : Int64) + (own_f1 P1))), .second, .val (.long (((-9223372036854775808 : Int64) + (own_f1 P1)) - (own_f1 P1))), .second, .unset, .unset, .unset, .unset, .unset, .unset] [(.long P3)])) _
        refine st124 _ ?_
        show Steps p.tables e below (T124.setTop (mkF m 75 #[.val (.long P0), .second, .val (.long P1), .second, .val (.long P2), .second, .val (.long P3), .second, .val (.int P4), .val (.ref b101), .val (.long (own_f1 P1)), .second, .val (.long ((-9223372036854775808 : Int64) + (own_f1 P1))), .second, .val (.long (((-9223372036854775808 : Int64) + (own_f1 P1)) - (own_f1 P1))), .second, .unset, .unset, .unset, .unset, .unset, .unset] [(.long (own_f1 P3))])) _
        refine XS.lstore X124.here hx rfl (hb hby at_75) rfl (l' := #[.val (.long P0), .second, .val (.long P1), .second, .val (.long P2), .second, .val (.long P3), .second, .val (.int P4), .val (.ref b101), .val (.long (own_f1 P1)), .second, .val (.long ((-9223372036854775808 : Int64) + (own_f1 P1))), .second, .val (.long (((-9223372036854775808 : Int64) + (own_f1 P1)) - (own_f1 P1))), .second, .val (.long (own_f1 P3)), .second, .unset, .unset, .unset, .unset]) rfl ?_
        show Steps p.tables e below (T124.setTop (mkF m 77 #[.val (.long P0), .second, .val (.long P1), .second, .val (.long P2), .second, .val (.long P3), .second, .val (.int P4), .val (.ref b101), .val (.long (own_f1 P1)), .second, .val (.long ((-9223372036854775808 : Int64) + (own_f1 P1))), .second, .val (.long (((-9223372036854775808 : Int64) + (own_f1 P1)) - (own_f1 P1))), .second, .val (.long (own_f1 P3)), .second, .unset, .unset, .unset, .unset] [])) _
        refine XS.lload X124.here hx rfl (hb hby at_77) rfl ?_
        show Steps p.tables e below (T124.setTop (mkF m 79 #[.val (.long P0), .second, .val (.long P1), .second, .val (.long P2), .second, .val (.long P3), .second, .val (.int P4), .val (.ref b101), .val (.long (own_f1 P1)), .second, .val (.long ((-9223372036854775808 : Int64) + (own_f1 P1))), .second, .val (.long (((-9223372036854775808 : Int64) + (own_f1 P1)) - (own_f1 P1))), .second, .val (.long (own_f1 P3)), .second, .unset, .unset, .unset, .unset] [(.long P2)])) _
        refine XS.lstore X124.here hx rfl (hb hby at_79) rfl (l' := #[.val (.long P0), .second, .val (.long P1), .second, .val (.long P2), .second, .val (.long P3), .second, .val (.int P4), .val (.ref b101), .val (.long (own_f1 P1)), .second, .val (.long ((-9223372036854775808 : Int64) + (own_f1 P1))), .second, .val (.long (((-9223372036854775808 : Int64) + (own_f1 P1)) - (own_f1 P1))), .second, .val (.long (own_f1 P3)), .second, .val (.long P2), .second, .unset, .unset]) rfl ?_
        show Steps p.tables e below (T124.setTop (mkF m 81 #[.val (.long P0), .second, .val (.long P1), .second, .val (.long P2), .second, .val (.long P3), .second, .val (.int P4), .val (.ref b101), .val (.long (own_f1 P1)), .second, .val (.long ((-9223372036854775808 : Int64) + (own_f1 P1))), .second, .val (.long (((-9223372036854775808 : Int64) + (own_f1 P1)) - (own_f1 P1))), .second, .val (.long (own_f1 P3)), .second, .val (.long P2), .second, .unset, .unset] [])) _
        refine XS.iload X124.here hx rfl (hb hby at_81) rfl ?_
        show Steps p.tables e below (T124.setTop (mkF m 83 #[.val (.long P0), .second, .val (.long P1), .second, .val (.long P2), .second, .val (.long P3), .second, .val (.int P4), .val (.ref b101), .val (.long (own_f1 P1)), .second, .val (.long ((-9223372036854775808 : Int64) + (own_f1 P1))), .second, .val (.long (((-9223372036854775808 : Int64) + (own_f1 P1)) - (own_f1 P1))), .second, .val (.long (own_f1 P3)), .second, .val (.long P2), .second, .unset, .unset] [(.int P4)])) _
        refine XS.iconst X124.here hx rfl (hb hby at_83) ?_
        show Steps p.tables e below (T124.setTop (mkF m 84 #[.val (.long P0), .second, .val (.long P1), .second, .val (.long P2), .second, .val (.long P3), .second, .val (.int P4), .val (.ref b101), .val (.long (own_f1 P1)), .second, .val (.long ((-9223372036854775808 : Int64) + (own_f1 P1))), .second, .val (.long (((-9223372036854775808 : Int64) + (own_f1 P1)) - (own_f1 P1))), .second, .val (.long (own_f1 P3)), .second, .val (.long P2), .second, .unset, .unset] [(.int (2 : Int32)), (.int P4)])) _
        refine XS.iand X124.here hx rfl (hb hby at_84) rfl ?_
        exact kt)
    by_cases hc85 : (P4 &&& (2 : Int32)) = (0 : Int32)
    · obtain ⟨cq126, kq126, q126a, q126b, q126c⟩ := isOf hZ K124 p121_0
      obtain ⟨_, _, ⟨T126, L126, k126, n126⟩, -, X126, ⟨Lc126, hQ126, l126, y126, z126⟩, st126⟩ := X124.virtualBack hx (y := (⟨"com/example/holdfast/holdfast/NodeClock", "read", "(JJ)V"⟩ : MethodName)) (z := (⟨"com/example/holdfast/holdfast/NodeClock", "read", "(JJ)V"⟩ : MethodName)) hown (mvT hZ (hw _ (List.mem_of_getElem? (i := 23) rfl))) (mvT hZ (hw _ (List.mem_of_getElem? (i := 24) rfl))) (notFace_of_selects (args := #[]) (mvT hZ (hw _ (List.mem_of_getElem? (i := 26) rfl)))) (mvT hZ (hw _ (List.mem_of_getElem? (i := 26) rfl))) (mvT hZ (hw _ (List.mem_of_getElem? (i := 25) rfl))) (by decide) (backOf (W := 0) (rm5 l Z a0 hw [] b101 P2 P3 (((-9223372036854775808 : Int64) + (own_f1 P1)) - (own_fd P1 ((1000 : Int32).toInt64))) T121.heap n0 Z122 p121_1 p121_0 g_b101) hZ (hw _ (List.mem_of_getElem? (i := 27) rfl)) (hw _ (List.mem_of_getElem? (i := 2) rfl)) (by decide) (by decide)) q126a q126c (g := (mkF m 109 #[.val (.long P0), .second, .val (.long P1), .second, .val (.long P2), .second, .val (.long P3), .second, .val (.int P4), .val (.ref b101), .val (.long (own_f1 P1)), .second, .val (.long ((-9223372036854775808 : Int64) + (own_f1 P1))), .second, .val (.long (((-9223372036854775808 : Int64) + (own_f1 P1)) - (own_f1 P1))), .second, .val (.long (own_f1 P3)), .second, .val (.long P2), .second, .val (.long (P2 - (own_f1 P3))), .second] [(.long P3), (.long P2), (.ref b101)])) rfl (by rw [hml]; rfl) (Steps.refl _) (argsL := [(.long P2), (.long P3)]) (rest := []) (lenOf pd_0_3 rfl) rfl (by show 2 * 0 + _ ≤ _; exact Nat.le_of_eq rfl) (hb hby at_109) (fun _ _ => ⟨rfl, K124, (by decide : 1 + 0 ≤ _), (by decide : 1 + 0 ≤ _)⟩)
      dsimp only [Pt.U, Pt.locs, Pt.cells, Pt.slots] at X126 l126 y126 z126 st126 hQ126
      subst l126 y126 z126
      obtain ⟨rfl, N126q, K126, p126_0, p126_1⟩ := hQ126
      have N126 := Fr.app N124 N126q
      have Z127 : n0 ≤ T126.heap.size := Nat.le_trans Z122 K126.1
      obtain ⟨_, _, ⟨T128, L128, k128, n128⟩, -, X128, ⟨Lc128, hQ128, l128, y128, z128⟩, st128⟩ := Jvm.LawKit.callS X126 hx (y := (⟨"com/example/holdfast/holdfast/NodeClockIsKnownPinLaw", "checkAfterRead", "(Lcom/example/holdfast/holdfast/NodeClock;J)Z"⟩ : MethodName)) hown (mvT hZ (hw _ (List.mem_of_getElem? (i := 35) rfl))) (mvT hZ (hw _ (List.mem_of_getElem? (i := 36) rfl))) (mvT hZ (hw _ (List.mem_of_getElem? (i := 19) rfl))) (mvT hZ (hw _ (List.mem_of_getElem? (i := 37) rfl))) (by decide) (backOf (W := 0) (rm8 l Z a0 hw [] b101 (P2 - (own_f1 P3)) (P2 - (own_fd P3 ((1000 : Int32).toInt64))) T126.heap n0 Z127 p126_1 p126_0 (show (P2 - (own_fd P3 ((1000 : Int32).toInt64))) = (P2 - (own_f1 P3)) from (by rw [own_fd1]))) hZ (hw _ (List.mem_of_getElem? (i := 37) rfl)) (hw _ (List.mem_of_getElem? (i := 19) rfl)) (by decide) (by decide)) (g := (mkF m 116 #[.val (.long P0), .second, .val (.long P1), .second, .val (.long P2), .second, .val (.long P3), .second, .val (.int P4), .val (.ref b101), .val (.long (own_f1 P1)), .second, .val (.long ((-9223372036854775808 : Int64) + (own_f1 P1))), .second, .val (.long (((-9223372036854775808 : Int64) + (own_f1 P1)) - (own_f1 P1))), .second, .val (.long (own_f1 P3)), .second, .val (.long P2), .second, .val (.long (P2 - (own_f1 P3))), .second] [(.long (P2 - (own_f1 P3))), (.ref b101)])) rfl (by rw [hml]; rfl) (argsL := [(.ref b101), (.long (P2 - (own_f1 P3)))]) (rest := []) (lenOf pd_0_4 rfl) rfl (by show 2 * 0 + _ ≤ _; exact Nat.le_of_eq rfl) (hb hby at_116) (fun _ _ => ⟨rfl, rfl, (by decide : 1 + 0 ≤ _), (by decide : 1 + 0 ≤ _)⟩)
      dsimp only [Pt.U, Pt.locs, Pt.cells, Pt.slots] at X128 l128 y128 z128 st128 hQ128
      subst l128 y128 z128
      obtain ⟨rfl, N128q, K128⟩ := hQ128
      have N128 := Fr.app N126 N128q
      have pre129 : ∀ t, Steps p.tables e below (T128.setTop (mkF m 119 #[.val (.long P0), .second, .val (.long P1), .second, .val (.long P2), .second, .val (.long P3), .second, .val (.int P4), .val (.ref b101), .val (.long (own_f1 P1)), .second, .val (.long ((-9223372036854775808 : Int64) + (own_f1 P1))), .second, .val (.long (((-9223372036854775808 : Int64) + (own_f1 P1)) - (own_f1 P1))), .second, .val (.long (own_f1 P3)), .second, .val (.long P2), .second, .val (.long (P2 - (own_f1 P3))), .second] [(.int (1 : Int32))])) t → Steps p.tables e below (s₁.setTop (entryFrame m #[(.long P0), (.long P1), (.long P2), (.long P3), (.int P4)] maxLocals)) t := fun t kt => pre125 t (by
          show Steps p.tables e below (T124.setTop (mkF m 85 #[.val (.long P0), .second, .val (.long P1), .second, .val (.long P2), .second, .val (.long P3), .second, .val (.int P4), .val (.ref b101), .val (.long (own_f1 P1)), .second, .val (.long ((-9223372036854775808 : Int64) + (own_f1 P1))), .second, .val (.long (((-9223372036854775808 : Int64) + (own_f1 P1)) - (own_f1 P1))), .second, .val (.long (own_f1 P3)), .second, .val (.long P2), .second, .unset, .unset] [(.int (P4 &&& (2 : Int32)))])) _
          refine XS.ifYes X124.here hx rfl (pc0 := 85) (pc' := 96) rfl (hb hby at_85) rfl ((if0 _ _).trans (teq hc85).1) (by decide) (by decide) ?_
          show Steps p.tables e below (T124.setTop (mkF m 96 #[.val (.long P0), .second, .val (.long P1), .second, .val (.long P2), .second, .val (.long P3), .second, .val (.int P4), .val (.ref b101), .val (.long (own_f1 P1)), .second, .val (.long ((-9223372036854775808 : Int64) + (own_f1 P1))), .second, .val (.long (((-9223372036854775808 : Int64) + (own_f1 P1)) - (own_f1 P1))), .second, .val (.long (own_f1 P3)), .second, .val (.long P2), .second, .unset, .unset] [])) _
          refine XS.lload X124.here hx rfl (hb hby at_96) rfl ?_
          show Steps p.tables e below (T124.setTop (mkF m 98 #[.val (.long P0), .second, .val (.long P1), .second, .val (.long P2), .second, .val (.long P3), .second, .val (.int P4), .val (.ref b101), .val (.long (own_f1 P1)), .second, .val (.long ((-9223372036854775808 : Int64) + (own_f1 P1))), .second, .val (.long (((-9223372036854775808 : Int64) + (own_f1 P1)) - (own_f1 P1))), .second, .val (.long (own_f1 P3)), .second, .val (.long P2), .second, .unset, .unset] [(.long P2)])) _
          refine XS.lload X124.here hx rfl (hb hby at_98) rfl ?_
          show Steps p.tables e below (T124.setTop (mkF m 100 #[.val (.long P0), .second, .val (.long P1), .second, .val (.long P2), .second, .val (.long P3), .second, .val (.int P4), .val (.ref b101), .val (.long (own_f1 P1)), .second, .val (.long ((-9223372036854775808 : Int64) + (own_f1 P1))), .second, .val (.long (((-9223372036854775808 : Int64) + (own_f1 P1)) - (own_f1 P1))), .second, .val (.long (own_f1 P3)), .second, .val (.long P2), .second, .unset, .unset] [(.long (own_f1 P3)), (.long P2)])) _
          refine XS.lsub X124.here hx rfl (hb hby at_100) rfl ?_
          show Steps p.tables e below (T124.setTop (mkF m 101 #[.val (.long P0), .second, .val (.long P1), .second, .val (.long P2), .second, .val (.long P3), .second, .val (.int P4), .val (.ref b101), .val (.long (own_f1 P1)), .second, .val (.long ((-9223372036854775808 : Int64) + (own_f1 P1))), .second, .val (.long (((-9223372036854775808 : Int64) + (own_f1 P1)) - (own_f1 P1))), .second, .val (.long (own_f1 P3)), .second, .val (.long P2), .second, .unset, .unset] [(.long (P2 - (own_f1 P3)))])) _
          refine XS.lstore X124.here hx rfl (hb hby at_101) rfl (l' := #[.val (.long P0), .second, .val (.long P1), .second, .val (.long P2), .second, .val (.long P3), .second, .val (.int P4), .val (.ref b101), .val (.long (own_f1 P1)), .second, .val (.long ((-9223372036854775808 : Int64) + (own_f1 P1))), .second, .val (.long (((-9223372036854775808 : Int64) + (own_f1 P1)) - (own_f1 P1))), .second, .val (.long (own_f1 P3)), .second, .val (.long P2), .second, .val (.long (P2 - (own_f1 P3))), .second]) rfl ?_
          show Steps p.tables e below (T124.setTop (mkF m 103 #[.val (.long P0), .second, .val (.long P1), .second, .val (.long P2), .second, .val (.long P3), .second, .val (.int P4), .val (.ref b101), .val (.long (own_f1 P1)), .second, .val (.long ((-9223372036854775808 : Int64) + (own_f1 P1))), .second, .val (.long (((-9223372036854775808 : Int64) + (own_f1 P1)) - (own_f1 P1))), .second, .val (.long (own_f1 P3)), .second, .val (.long P2), .second, .val (.long (P2 - (own_f1 P3))), .second] [])) _
          refine XS.aload X124.here hx rfl (hb hby at_103) rfl rfl ?_
          show Steps p.tables e below (T124.setTop (mkF m 105 #[.val (.long P0), .second, .val (.long P1), .second, .val (.long P2), .second, .val (.long P3), .second, .val (.int P4), .val (.ref b101), .val (.long (own_f1 P1)), .second, .val (.long ((-9223372036854775808 : Int64) + (own_f1 P1))), .second, .val (.long (((-9223372036854775808 : Int64) + (own_f1 P1)) - (own_f1 P1))), .second, .val (.long (own_f1 P3)), .second, .val (.long P2), .second, .val (.long (P2 - (own_f1 P3))), .second] [(.ref b101)])) _
          refine XS.lload X124.here hx rfl (hb hby at_105) rfl ?_
          show Steps p.tables e below (T124.setTop (mkF m 107 #[.val (.long P0), .second, .val (.long P1), .second, .val (.long P2), .second, .val (.long P3), .second, .val (.int P4), .val (.ref b101), .val (.long (own_f1 P1)), .second, .val (.long ((-9223372036854775808 : Int64) + (own_f1 P1))), .second, .val (.long (((-9223372036854775808 : Int64) + (own_f1 P1)) - (own_f1 P1))), .second, .val (.long (own_f1 P3)), .second, .val (.long P2), .second, .val (.long (P2 - (own_f1 P3))), .second] [(.long P2), (.ref b101)])) _
          refine XS.lload X124.here hx rfl (hb hby at_107) rfl ?_
          show Steps p.tables e below (T124.setTop (mkF m 109 #[.val (.long P0), .second, .val (.long P1), .second, .val (.long P2), .second, .val (.long P3), .second, .val (.int P4), .val (.ref b101), .val (.long (own_f1 P1)), .second, .val (.long ((-9223372036854775808 : Int64) + (own_f1 P1))), .second, .val (.long (((-9223372036854775808 : Int64) + (own_f1 P1)) - (own_f1 P1))), .second, .val (.long (own_f1 P3)), .second, .val (.long P2), .second, .val (.long (P2 - (own_f1 P3))), .second] [(.long P3), (.long P2), (.ref b101)])) _
          refine st126.trans ?_
          show Steps p.tables e below (T126.setTop (mkF m 112 #[.val (.long P0), .second, .val (.long P1), .second, .val (.long P2), .second, .val (.long P3), .second, .val (.int P4), .val (.ref b101), .val (.long (own_f1 P1)), .second, .val (.long ((-9223372036854775808 : Int64) + (own_f1 P1))), .second, .val (.long (((-9223372036854775808 : Int64) + (own_f1 P1)) - (own_f1 P1))), .second, .val (.long (own_f1 P3)), .second, .val (.long P2), .second, .val (.long (P2 - (own_f1 P3))), .second] [])) _
          refine XS.aload X126.here hx rfl (hb hby at_112) rfl rfl ?_
          show Steps p.tables e below (T126.setTop (mkF m 114 #[.val (.long P0), .second, .val (.long P1), .second, .val (.long P2), .second, .val (.long P3), .second, .val (.int P4), .val (.ref b101), .val (.long (own_f1 P1)), .second, .val (.long ((-9223372036854775808 : Int64) + (own_f1 P1))), .second, .val (.long (((-9223372036854775808 : Int64) + (own_f1 P1)) - (own_f1 P1))), .second, .val (.long (own_f1 P3)), .second, .val (.long P2), .second, .val (.long (P2 - (own_f1 P3))), .second] [(.ref b101)])) _
          refine XS.lload X126.here hx rfl (hb hby at_114) rfl ?_
          show Steps p.tables e below (T126.setTop (mkF m 116 #[.val (.long P0), .second, .val (.long P1), .second, .val (.long P2), .second, .val (.long P3), .second, .val (.int P4), .val (.ref b101), .val (.long (own_f1 P1)), .second, .val (.long ((-9223372036854775808 : Int64) + (own_f1 P1))), .second, .val (.long (((-9223372036854775808 : Int64) + (own_f1 P1)) - (own_f1 P1))), .second, .val (.long (own_f1 P3)), .second, .val (.long P2), .second, .val (.long (P2 - (own_f1 P3))), .second] [(.long (P2 - (own_f1 P3))), (.ref b101)])) _
          refine st128 _ ?_
          exact kt)
      obtain ⟨fs, hr, hrun, hended, hW, hsame⟩ := X128.leave (v := some (.int (1 : Int32))) (fun h => by rw [Bd.returns] at h; cases h)
      refine ⟨_, _, pre129 _ ?_, hrun, hended, _, _, rfl, ?_, ⟨_, rfl⟩, hW, hsame.mono (by decide) (by decide)⟩
      · show Steps p.tables e below (T128.setTop (mkF m 119 #[.val (.long P0), .second, .val (.long P1), .second, .val (.long P2), .second, .val (.long P3), .second, .val (.int P4), .val (.ref b101), .val (.long (own_f1 P1)), .second, .val (.long ((-9223372036854775808 : Int64) + (own_f1 P1))), .second, .val (.long (((-9223372036854775808 : Int64) + (own_f1 P1)) - (own_f1 P1))), .second, .val (.long (own_f1 P3)), .second, .val (.long P2), .second, .val (.long (P2 - (own_f1 P3))), .second] [(.int (1 : Int32))])) _
        exact retN X128 hx (t := .boolean) Bd.returns (by simp) (hb hby at_119) hr
      · show Q0 Z P0 P1 P2 P3 P4 h0 n0 _ T128.heap _
        rw [K128]
        exact ⟨rfl, N128⟩
    · obtain ⟨cq130, kq130, q130a, q130b, q130c⟩ := isOf hZ K124 p121_0
      obtain ⟨_, _, ⟨T130, L130, k130, n130⟩, -, X130, ⟨Lc130, hQ130, l130, y130, z130⟩, st130⟩ := X124.virtualBack hx (y := (⟨"com/example/holdfast/holdfast/NodeClock", "read", "(JJ)V"⟩ : MethodName)) (z := (⟨"com/example/holdfast/holdfast/NodeClock", "read", "(JJ)V"⟩ : MethodName)) hown (mvT hZ (hw _ (List.mem_of_getElem? (i := 23) rfl))) (mvT hZ (hw _ (List.mem_of_getElem? (i := 24) rfl))) (notFace_of_selects (args := #[]) (mvT hZ (hw _ (List.mem_of_getElem? (i := 26) rfl)))) (mvT hZ (hw _ (List.mem_of_getElem? (i := 26) rfl))) (mvT hZ (hw _ (List.mem_of_getElem? (i := 25) rfl))) (by decide) (backOf (W := 0) (rm5 l Z a0 hw [] b101 ((-9223372036854775808 : Int64) + (own_f1 P3)) P3 (((-9223372036854775808 : Int64) + (own_f1 P1)) - (own_fd P1 ((1000 : Int32).toInt64))) T121.heap n0 Z122 p121_1 p121_0 g_b101) hZ (hw _ (List.mem_of_getElem? (i := 27) rfl)) (hw _ (List.mem_of_getElem? (i := 2) rfl)) (by decide) (by decide)) q130a q130c (g := (mkF m 109 #[.val (.long P0), .second, .val (.long P1), .second, .val (.long P2), .second, .val (.long P3), .second, .val (.int P4), .val (.ref b101), .val (.long (own_f1 P1)), .second, .val (.long ((-9223372036854775808 : Int64) + (own_f1 P1))), .second, .val (.long (((-9223372036854775808 : Int64) + (own_f1 P1)) - (own_f1 P1))), .second, .val (.long (own_f1 P3)), .second, .val (.long ((-9223372036854775808 : Int64) + (own_f1 P3))), .second, .val (.long (((-9223372036854775808 : Int64) + (own_f1 P3)) - (own_f1 P3))), .second] [(.long P3), (.long ((-9223372036854775808 : Int64) + (own_f1 P3))), (.ref b101)])) rfl (by rw [hml]; rfl) (Steps.refl _) (argsL := [(.long ((-9223372036854775808 : Int64) + (own_f1 P3))), (.long P3)]) (rest := []) (lenOf pd_0_3 rfl) rfl (by show 2 * 0 + _ ≤ _; exact Nat.le_of_eq rfl) (hb hby at_109) (fun _ _ => ⟨rfl, K124, (by decide : 1 + 0 ≤ _), (by decide : 1 + 0 ≤ _)⟩)
      dsimp only [Pt.U, Pt.locs, Pt.cells, Pt.slots] at X130 l130 y130 z130 st130 hQ130
      subst l130 y130 z130
      obtain ⟨rfl, N130q, K130, p130_0, p130_1⟩ := hQ130
      have N130 := Fr.app N124 N130q
      have Z131 : n0 ≤ T130.heap.size := Nat.le_trans Z122 K130.1
      obtain ⟨_, _, ⟨T132, L132, k132, n132⟩, -, X132, ⟨Lc132, hQ132, l132, y132, z132⟩, st132⟩ := Jvm.LawKit.callS X130 hx (y := (⟨"com/example/holdfast/holdfast/NodeClockIsKnownPinLaw", "checkAfterRead", "(Lcom/example/holdfast/holdfast/NodeClock;J)Z"⟩ : MethodName)) hown (mvT hZ (hw _ (List.mem_of_getElem? (i := 35) rfl))) (mvT hZ (hw _ (List.mem_of_getElem? (i := 36) rfl))) (mvT hZ (hw _ (List.mem_of_getElem? (i := 19) rfl))) (mvT hZ (hw _ (List.mem_of_getElem? (i := 37) rfl))) (by decide) (backOf (W := 0) (rm8 l Z a0 hw [] b101 (((-9223372036854775808 : Int64) + (own_f1 P3)) - (own_f1 P3)) (((-9223372036854775808 : Int64) + (own_f1 P3)) - (own_fd P3 ((1000 : Int32).toInt64))) T130.heap n0 Z131 p130_1 p130_0 (show (((-9223372036854775808 : Int64) + (own_f1 P3)) - (own_fd P3 ((1000 : Int32).toInt64))) = (((-9223372036854775808 : Int64) + (own_f1 P3)) - (own_f1 P3)) from (by rw [own_fd1]))) hZ (hw _ (List.mem_of_getElem? (i := 37) rfl)) (hw _ (List.mem_of_getElem? (i := 19) rfl)) (by decide) (by decide)) (g := (mkF m 116 #[.val (.long P0), .second, .val (.long P1), .second, .val (.long P2), .second, .val (.long P3), .second, .val (.int P4), .val (.ref b101), .val (.long (own_f1 P1)), .second, .val (.long ((-9223372036854775808 : Int64) + (own_f1 P1))), .second, .val (.long (((-9223372036854775808 : Int64) + (own_f1 P1)) - (own_f1 P1))), .second, .val (.long (own_f1 P3)), .second, .val (.long ((-9223372036854775808 : Int64) + (own_f1 P3))), .second, .val (.long (((-9223372036854775808 : Int64) + (own_f1 P3)) - (own_f1 P3))), .second] [(.long (((-9223372036854775808 : Int64) + (own_f1 P3)) - (own_f1 P3))), (.ref b101)])) rfl (by rw [hml]; rfl) (argsL := [(.ref b101), (.long (((-9223372036854775808 : Int64) + (own_f1 P3)) - (own_f1 P3)))]) (rest := []) (lenOf pd_0_4 rfl) rfl (by show 2 * 0 + _ ≤ _; exact Nat.le_of_eq rfl) (hb hby at_116) (fun _ _ => ⟨rfl, rfl, (by decide : 1 + 0 ≤ _), (by decide : 1 + 0 ≤ _)⟩)
      dsimp only [Pt.U, Pt.locs, Pt.cells, Pt.slots] at X132 l132 y132 z132 st132 hQ132
      subst l132 y132 z132
      obtain ⟨rfl, N132q, K132⟩ := hQ132
      have N132 := Fr.app N130 N132q
      have pre133 : ∀ t, Steps p.tables e below (T132.setTop (mkF m 119 #[.val (.long P0), .second, .val (.long P1), .second, .val (.long P2), .second, .val (.long P3), .second, .val (.int P4), .val (.ref b101), .val (.long (own_f1 P1)), .second, .val (.long ((-9223372036854775808 : Int64) + (own_f1 P1))), .second, .val (.long (((-9223372036854775808 : Int64) + (own_f1 P1)) - (own_f1 P1))), .second, .val (.long (own_f1 P3)), .second, .val (.long ((-9223372036854775808 : Int64) + (own_f1 P3))), .second, .val (.long (((-9223372036854775808 : Int64) + (own_f1 P3)) - (own_f1 P3))), .second] [(.int (1 : Int32))])) t → Steps p.tables e below (s₁.setTop (entryFrame m #[(.long P0), (.long P1), (.long P2), (.long P3), (.int P4)] maxLocals)) t := fun t kt => pre125 t (by
          show Steps p.tables e below (T124.setTop (mkF m 85 #[.val (.long P0), .second, .val (.long P1), .second, .val (.long P2), .second, .val (.long P3), .second, .val (.int P4), .val (.ref b101), .val (.long (own_f1 P1)), .second, .val (.long ((-9223372036854775808 : Int64) + (own_f1 P1))), .second, .val (.long (((-9223372036854775808 : Int64) + (own_f1 P1)) - (own_f1 P1))), .second, .val (.long (own_f1 P3)), .second, .val (.long P2), .second, .unset, .unset] [(.int (P4 &&& (2 : Int32)))])) _
          refine XS.ifNo X124.here hx rfl (hb hby at_85) rfl ((if0 _ _).trans (feq hc85).1) ?_
          show Steps p.tables e below (T124.setTop (mkF m 88 #[.val (.long P0), .second, .val (.long P1), .second, .val (.long P2), .second, .val (.long P3), .second, .val (.int P4), .val (.ref b101), .val (.long (own_f1 P1)), .second, .val (.long ((-9223372036854775808 : Int64) + (own_f1 P1))), .second, .val (.long (((-9223372036854775808 : Int64) + (own_f1 P1)) - (own_f1 P1))), .second, .val (.long (own_f1 P3)), .second, .val (.long P2), .second, .unset, .unset] [])) _
          refine X124.ldc2Long hx hown (mvT hZ (hw _ (List.mem_of_getElem? (i := 22) rfl))) (g := (mkF m 88 #[.val (.long P0), .second, .val (.long P1), .second, .val (.long P2), .second, .val (.long P3), .second, .val (.int P4), .val (.ref b101), .val (.long (own_f1 P1)), .second, .val (.long ((-9223372036854775808 : Int64) + (own_f1 P1))), .second, .val (.long (((-9223372036854775808 : Int64) + (own_f1 P1)) - (own_f1 P1))), .second, .val (.long (own_f1 P3)), .second, .val (.long P2), .second, .unset, .unset] [])) rfl (hb hby at_88) _ ?_
          show Steps p.tables e below (T124.setTop (mkF m 91 #[.val (.long P0), .second, .val (.long P1), .second, .val (.long P2), .second, .val (.long P3), .second, .val (.int P4), .val (.ref b101), .val (.long (own_f1 P1)), .second, .val (.long ((-9223372036854775808 : Int64) + (own_f1 P1))), .second, .val (.long (((-9223372036854775808 : Int64) + (own_f1 P1)) - (own_f1 P1))), .second, .val (.long (own_f1 P3)), .second, .val (.long P2), .second, .unset, .unset] [(.long (-9223372036854775808 : Int64))])) _
          refine XS.lload X124.here hx rfl (hb hby at_91) rfl ?_
          show Steps p.tables e below (T124.setTop (mkF m 93 #[.val (.long P0), .second, .val (.long P1), .second, .val (.long P2), .second, .val (.long P3), .second, .val (.int P4), .val (.ref b101), .val (.long (own_f1 P1)), .second, .val (.long ((-9223372036854775808 : Int64) + (own_f1 P1))), .second, .val (.long (((-9223372036854775808 : Int64) + (own_f1 P1)) - (own_f1 P1))), .second, .val (.long (own_f1 P3)), .second, .val (.long P2), .second, .unset, .unset] [(.long (own_f1 P3)), (.long (-9223372036854775808 : Int64))])) _
          refine XS.ladd X124.here hx rfl (hb hby at_93) rfl ?_
          show Steps p.tables e below (T124.setTop (mkF m 94 #[.val (.long P0), .second, .val (.long P1), .second, .val (.long P2), .second, .val (.long P3), .second, .val (.int P4), .val (.ref b101), .val (.long (own_f1 P1)), .second, .val (.long ((-9223372036854775808 : Int64) + (own_f1 P1))), .second, .val (.long (((-9223372036854775808 : Int64) + (own_f1 P1)) - (own_f1 P1))), .second, .val (.long (own_f1 P3)), .second, .val (.long P2), .second, .unset, .unset] [(.long ((-9223372036854775808 : Int64) + (own_f1 P3)))])) _
          refine XS.lstore X124.here hx rfl (hb hby at_94) rfl (l' := #[.val (.long P0), .second, .val (.long P1), .second, .val (.long P2), .second, .val (.long P3), .second, .val (.int P4), .val (.ref b101), .val (.long (own_f1 P1)), .second, .val (.long ((-9223372036854775808 : Int64) + (own_f1 P1))), .second, .val (.long (((-9223372036854775808 : Int64) + (own_f1 P1)) - (own_f1 P1))), .second, .val (.long (own_f1 P3)), .second, .val (.long ((-9223372036854775808 : Int64) + (own_f1 P3))), .second, .unset, .unset]) rfl ?_
          show Steps p.tables e below (T124.setTop (mkF m 96 #[.val (.long P0), .second, .val (.long P1), .second, .val (.long P2), .second, .val (.long P3), .second, .val (.int P4), .val (.ref b101), .val (.long (own_f1 P1)), .second, .val (.long ((-9223372036854775808 : Int64) + (own_f1 P1))), .second, .val (.long (((-9223372036854775808 : Int64) + (own_f1 P1)) - (own_f1 P1))), .second, .val (.long (own_f1 P3)), .second, .val (.long ((-9223372036854775808 : Int64) + (own_f1 P3))), .second, .unset, .unset] [])) _
          refine XS.lload X124.here hx rfl (hb hby at_96) rfl ?_
          show Steps p.tables e below (T124.setTop (mkF m 98 #[.val (.long P0), .second, .val (.long P1), .second, .val (.long P2), .second, .val (.long P3), .second, .val (.int P4), .val (.ref b101), .val (.long (own_f1 P1)), .second, .val (.long ((-9223372036854775808 : Int64) + (own_f1 P1))), .second, .val (.long (((-9223372036854775808 : Int64) + (own_f1 P1)) - (own_f1 P1))), .second, .val (.long (own_f1 P3)), .second, .val (.long ((-9223372036854775808 : Int64) + (own_f1 P3))), .second, .unset, .unset] [(.long ((-9223372036854775808 : Int64) + (own_f1 P3)))])) _
          refine XS.lload X124.here hx rfl (hb hby at_98) rfl ?_
          show Steps p.tables e below (T124.setTop (mkF m 100 #[.val (.long P0), .second, .val (.long P1), .second, .val (.long P2), .second, .val (.long P3), .second, .val (.int P4), .val (.ref b101), .val (.long (own_f1 P1)), .second, .val (.long ((-9223372036854775808 : Int64) + (own_f1 P1))), .second, .val (.long (((-9223372036854775808 : Int64) + (own_f1 P1)) - (own_f1 P1))), .second, .val (.long (own_f1 P3)), .second, .val (.long ((-9223372036854775808 : Int64) + (own_f1 P3))), .second, .unset, .unset] [(.long (own_f1 P3)), (.long ((-9223372036854775808 : Int64) + (own_f1 P3)))])) _
          refine XS.lsub X124.here hx rfl (hb hby at_100) rfl ?_
          show Steps p.tables e below (T124.setTop (mkF m 101 #[.val (.long P0), .second, .val (.long P1), .second, .val (.long P2), .second, .val (.long P3), .second, .val (.int P4), .val (.ref b101), .val (.long (own_f1 P1)), .second, .val (.long ((-9223372036854775808 : Int64) + (own_f1 P1))), .second, .val (.long (((-9223372036854775808 : Int64) + (own_f1 P1)) - (own_f1 P1))), .second, .val (.long (own_f1 P3)), .second, .val (.long ((-9223372036854775808 : Int64) + (own_f1 P3))), .second, .unset, .unset] [(.long (((-9223372036854775808 : Int64) + (own_f1 P3)) - (own_f1 P3)))])) _
          refine XS.lstore X124.here hx rfl (hb hby at_101) rfl (l' := #[.val (.long P0), .second, .val (.long P1), .second, .val (.long P2), .second, .val (.long P3), .second, .val (.int P4), .val (.ref b101), .val (.long (own_f1 P1)), .second, .val (.long ((-9223372036854775808 : Int64) + (own_f1 P1))), .second, .val (.long (((-9223372036854775808 : Int64) + (own_f1 P1)) - (own_f1 P1))), .second, .val (.long (own_f1 P3)), .second, .val (.long ((-9223372036854775808 : Int64) + (own_f1 P3))), .second, .val (.long (((-9223372036854775808 : Int64) + (own_f1 P3)) - (own_f1 P3))), .second]) rfl ?_
          show Steps p.tables e below (T124.setTop (mkF m 103 #[.val (.long P0), .second, .val (.long P1), .second, .val (.long P2), .second, .val (.long P3), .second, .val (.int P4), .val (.ref b101), .val (.long (own_f1 P1)), .second, .val (.long ((-9223372036854775808 : Int64) + (own_f1 P1))), .second, .val (.long (((-9223372036854775808 : Int64) + (own_f1 P1)) - (own_f1 P1))), .second, .val (.long (own_f1 P3)), .second, .val (.long ((-9223372036854775808 : Int64) + (own_f1 P3))), .second, .val (.long (((-9223372036854775808 : Int64) + (own_f1 P3)) - (own_f1 P3))), .second] [])) _
          refine XS.aload X124.here hx rfl (hb hby at_103) rfl rfl ?_
          show Steps p.tables e below (T124.setTop (mkF m 105 #[.val (.long P0), .second, .val (.long P1), .second, .val (.long P2), .second, .val (.long P3), .second, .val (.int P4), .val (.ref b101), .val (.long (own_f1 P1)), .second, .val (.long ((-9223372036854775808 : Int64) + (own_f1 P1))), .second, .val (.long (((-9223372036854775808 : Int64) + (own_f1 P1)) - (own_f1 P1))), .second, .val (.long (own_f1 P3)), .second, .val (.long ((-9223372036854775808 : Int64) + (own_f1 P3))), .second, .val (.long (((-9223372036854775808 : Int64) + (own_f1 P3)) - (own_f1 P3))), .second] [(.ref b101)])) _
          refine XS.lload X124.here hx rfl (hb hby at_105) rfl ?_
          show Steps p.tables e below (T124.setTop (mkF m 107 #[.val (.long P0), .second, .val (.long P1), .second, .val (.long P2), .second, .val (.long P3), .second, .val (.int P4), .val (.ref b101), .val (.long (own_f1 P1)), .second, .val (.long ((-9223372036854775808 : Int64) + (own_f1 P1))), .second, .val (.long (((-9223372036854775808 : Int64) + (own_f1 P1)) - (own_f1 P1))), .second, .val (.long (own_f1 P3)), .second, .val (.long ((-9223372036854775808 : Int64) + (own_f1 P3))), .second, .val (.long (((-9223372036854775808 : Int64) + (own_f1 P3)) - (own_f1 P3))), .second] [(.long ((-9223372036854775808 : Int64) + (own_f1 P3))), (.ref b101)])) _
          refine XS.lload X124.here hx rfl (hb hby at_107) rfl ?_
          show Steps p.tables e below (T124.setTop (mkF m 109 #[.val (.long P0), .second, .val (.long P1), .second, .val (.long P2), .second, .val (.long P3), .second, .val (.int P4), .val (.ref b101), .val (.long (own_f1 P1)), .second, .val (.long ((-9223372036854775808 : Int64) + (own_f1 P1))), .second, .val (.long (((-9223372036854775808 : Int64) + (own_f1 P1)) - (own_f1 P1))), .second, .val (.long (own_f1 P3)), .second, .val (.long ((-9223372036854775808 : Int64) + (own_f1 P3))), .second, .val (.long (((-9223372036854775808 : Int64) + (own_f1 P3)) - (own_f1 P3))), .second] [(.long P3), (.long ((-9223372036854775808 : Int64) + (own_f1 P3))), (.ref b101)])) _
          refine st130.trans ?_
          show Steps p.tables e below (T130.setTop (mkF m 112 #[.val (.long P0), .second, .val (.long P1), .second, .val (.long P2), .second, .val (.long P3), .second, .val (.int P4), .val (.ref b101), .val (.long (own_f1 P1)), .second, .val (.long ((-9223372036854775808 : Int64) + (own_f1 P1))), .second, .val (.long (((-9223372036854775808 : Int64) + (own_f1 P1)) - (own_f1 P1))), .second, .val (.long (own_f1 P3)), .second, .val (.long ((-9223372036854775808 : Int64) + (own_f1 P3))), .second, .val (.long (((-9223372036854775808 : Int64) + (own_f1 P3)) - (own_f1 P3))), .second] [])) _
          refine XS.aload X130.here hx rfl (hb hby at_112) rfl rfl ?_
          show Steps p.tables e below (T130.setTop (mkF m 114 #[.val (.long P0), .second, .val (.long P1), .second, .val (.long P2), .second, .val (.long P3), .second, .val (.int P4), .val (.ref b101), .val (.long (own_f1 P1)), .second, .val (.long ((-9223372036854775808 : Int64) + (own_f1 P1))), .second, .val (.long (((-9223372036854775808 : Int64) + (own_f1 P1)) - (own_f1 P1))), .second, .val (.long (own_f1 P3)), .second, .val (.long ((-9223372036854775808 : Int64) + (own_f1 P3))), .second, .val (.long (((-9223372036854775808 : Int64) + (own_f1 P3)) - (own_f1 P3))), .second] [(.ref b101)])) _
          refine XS.lload X130.here hx rfl (hb hby at_114) rfl ?_
          show Steps p.tables e below (T130.setTop (mkF m 116 #[.val (.long P0), .second, .val (.long P1), .second, .val (.long P2), .second, .val (.long P3), .second, .val (.int P4), .val (.ref b101), .val (.long (own_f1 P1)), .second, .val (.long ((-9223372036854775808 : Int64) + (own_f1 P1))), .second, .val (.long (((-9223372036854775808 : Int64) + (own_f1 P1)) - (own_f1 P1))), .second, .val (.long (own_f1 P3)), .second, .val (.long ((-9223372036854775808 : Int64) + (own_f1 P3))), .second, .val (.long (((-9223372036854775808 : Int64) + (own_f1 P3)) - (own_f1 P3))), .second] [(.long (((-9223372036854775808 : Int64) + (own_f1 P3)) - (own_f1 P3))), (.ref b101)])) _
          refine st132 _ ?_
          exact kt)
      obtain ⟨fs, hr, hrun, hended, hW, hsame⟩ := X132.leave (v := some (.int (1 : Int32))) (fun h => by rw [Bd.returns] at h; cases h)
      refine ⟨_, _, pre133 _ ?_, hrun, hended, _, _, rfl, ?_, ⟨_, rfl⟩, hW, hsame.mono (by decide) (by decide)⟩
      · show Steps p.tables e below (T132.setTop (mkF m 119 #[.val (.long P0), .second, .val (.long P1), .second, .val (.long P2), .second, .val (.long P3), .second, .val (.int P4), .val (.ref b101), .val (.long (own_f1 P1)), .second, .val (.long ((-9223372036854775808 : Int64) + (own_f1 P1))), .second, .val (.long (((-9223372036854775808 : Int64) + (own_f1 P1)) - (own_f1 P1))), .second, .val (.long (own_f1 P3)), .second, .val (.long ((-9223372036854775808 : Int64) + (own_f1 P3))), .second, .val (.long (((-9223372036854775808 : Int64) + (own_f1 P3)) - (own_f1 P3))), .second] [(.int (1 : Int32))])) _
        exact retN X132 hx (t := .boolean) Bd.returns (by simp) (hb hby at_119) hr
      · show Q0 Z P0 P1 P2 P3 P4 h0 n0 _ T132.heap _
        rw [K132]
        exact ⟨rfl, N132⟩
set_option maxRecDepth 65536 in
set_option maxHeartbeats 40000000 in
theorem comes_1 {Post : Tables → Env → Array Value → State → Outcome → State → Prop} (hpost : ∀ tb e args s v u, (limb_1_1.after args s (.returned v) u = true ∧ limb_1_2.after args s (.returned v) u = true ∧ True) → FrameEnd s (.returned v) u (Jvm.fieldLocs frame_1_writes args s ++ Jvm.arrayLocs frame_1_arrays args s ++ Jvm.staticLocs frame_1_statics s) 16 128 → Post tb e args s (.returned v) u) :
    ArmFor flags0 classFile x code maxLocals ret World_1 tables_1 room_1 Calls_1 rest_1 Pre_1 Post := by
  intro l hfl _ _ p e ha hc hk s m args below hf hA hF happ hP
  obtain ⟨hcalls, hrest, hpre⟩ := hP
  obtain ⟨-, -, -, hnamed, -, -, -, hat⟩ := (Spec.applies_iff hf).mp happ
  obtain ⟨hg, hn⟩ := and_e (Cond.before_iff.mp (show (Jvm.Cond.and given_1 narrow_1).before args s = true from hpre))
  obtain ⟨gv1, gv2⟩ := and_e hg
  obtain ⟨gv3, gv4⟩ := and_e gv2
  obtain ⟨gv5, gv6⟩ := and_e gv4
  obtain ⟨gv7, gv8⟩ := and_e gv6
  obtain ⟨gv9, gv10⟩ := and_e gv8
  obtain ⟨w0, w1, w2, w3, w4, rfl⟩ : ∃ w0 w1 w2 w3 w4 : Value, args = #[w0, w1, w2, w3, w4] := by
    have hs : args.size = 5 := by simpa [Cond.value, given_1] using gv1
    obtain ⟨L⟩ := args
    match L, hs with
    | [w0, w1, w2, w3, w4], _ => exact ⟨w0, w1, w2, w3, w4, rfl⟩
  have hw := fun d (hd : d ∈ tables_1) => atoms_spec (ws := Jvm.Cond.code x code maxLocals ret :: tables_1) hat d (List.mem_cons_of_mem _ hd)
  have hfit : Fit s := fun {y c} hc i hi => by
    obtain ⟨ha, rfl⟩ := Array.getElem?_eq_some_iff.mp hc
    have q := List.all_eq_true.mp ((Array.all_eq_true_iff_forall_mem.mp hF) _ (Array.getElem_mem ha)) i (List.mem_range.mpr hi)
    simpa [Array.getElem?_eq_getElem hi] using q
  obtain ⟨i0, ei0⟩ := isL_v gv3
  obtain rfl : w0 = (.long i0) := Option.some.inj ei0
  obtain ⟨i1, ei1⟩ := isL_v gv5
  obtain rfl : w1 = (.long i1) := Option.some.inj ei1
  obtain ⟨i2, ei2⟩ := isL_v gv7
  obtain rfl : w2 = (.long i2) := Option.some.inj ei2
  obtain ⟨i3, ei3⟩ := isL_v gv9
  obtain rfl : w3 = (.long i3) := Option.some.inj ei3
  obtain ⟨i4, ei4⟩ := is_v gv10
  obtain rfl : w4 = (.int i4) := Option.some.inj ei4
  obtain ⟨n, o, h1, h2, h3, _, L, rfl, ⟨rfl, N⟩, hq⟩ := rm0 l s _ hw tables_1 i0 i1 i2 i3 i4  s.heap s.heap.size (Nat.le_refl _)  p e ha hc hk s m _ below hf ((Spec.applies_iff_loose hf).mp happ).1 ⟨rfl, State.Warmed39.refl s, rfl⟩ trivial
  refine ⟨n, _, h1, h2, h3, hpost _ _ _ _ _ _ ⟨Cond.after_iff.mpr rfl, Cond.after_iff.mpr (eq_i res_at (Term.int_eval (1)) rfl), trivial⟩ ⟨hq.1, hq.2.1, (hq.2.2.sift fun y hy => Or.inr (N y hy)).mono (by decide) (by decide)⟩⟩
theorem main_1_1 : Claimed_1_1 := comes_1 fun _ _ _ _ _ _ h hF => ⟨h.1, hF⟩
theorem main_1_2 : Claimed_1_2 := comes_1 fun _ _ _ _ _ _ h hF => ⟨h.2.1, hF⟩
end Jvm.Pilot.@@N@@
namespace Jvm.Pilot.@@N@@
open Jvm Jvm.ClassFile Sem Op Lib Jvm.Free Jvm.Stand Jvm.Pilot.@@N@@.Jvm.D
/-! MADE BY PROGRAM (witnessworld.py) out of the Statement's table words and the real class files: 10 classes; the members and pool entries that the words name. The judged class is class 1, her method 3. -/
namespace start1
open Jvm.ClassFile
def u (s : String) : CpInfo := .utf8 (stringToUtf16 s)
/-- a pool by its gaps: so many unusable entries, then the entry; so many at the end -/
def gap : Nat → List CpInfo → List CpInfo
  | 0, r => r
  | n + 1, r => .unusable :: gap n r
def poolList (es : List (Nat × CpInfo)) (last : Nat) : List CpInfo := es.foldr (fun e r => gap e.1 (e.2 :: r)) (gap last [])
def pool (es : List (Nat × CpInfo)) (last : Nat) : Array CpInfo := ⟨poolList es last⟩
def fileOf (pool : Array CpInfo) (this : Nat) (attrs : Array Attribute := #[]) (ms : Array MethodInfo := #[]) (fl : Nat := 33) (sup : Nat := 0) (ifs : Array Nat := #[]) (fds : Array FieldInfo := #[]) : ClassFile where
  minorVersion := 0
  majorVersion := 65
  constantPool := pool
  accessFlags := fl
  thisClass := this
  superClass := sup
  interfaces := ifs
  fields := fds
  methods := ms
  attributes := attrs
def plain (name : String) (sup : Option ClassId) : Class where
  name := name
  kind := .ordinary
  loader := none
  accessFlags := 33
  super := sup
  interfaces := #[]
  cf := none
  fields := #[]
  methods := #[]
  instanceTypes := #[]
  staticTypes := #[]
  resolved := #[]
  callSites := []
  init := .initialized
  statics := none
  mirror := none

def pool0 : Array CpInfo := pool [(5, u "<init>"), (0, u "()V"), (1, .class_ 10), (1, u "java/lang/Object")] 113

def k0c0 : Code := { maxStack := 0, maxLocals := 1, code := object_method_1_code, exceptionTable := #[], attributes := #[] }
def k0m0 : Method := { name := "<init>", desc := "()V", sig := { parameters := [], returnType := none }, accessFlags := 1, code := some k0c0 }
/-- java/lang/Object -/
def k0 : Class := { plain "java/lang/Object" none with
  accessFlags := 33
  interfaces := #[]
  cf := some (fileOf pool0 8 #[] #[{ accessFlags := 1, nameIndex := 5, descriptorIndex := 6, attributes := #[] }] 33 0 #[] #[])
  fields := #[]
  methods := #[k0m0]
  instanceTypes := #[]
  staticTypes := #[]
  resolved := Array.replicate 124 none
  statics := none }

def pool1 : Array CpInfo := pool [(2, .class_ 4), (0, .nameAndType 5 6), (0, u "java/lang/Object"), (0, u "<init>"), (0, u "()V"), (0, .long 1000), (1, .methodref 10 11), (0, .class_ 12), (0, .nameAndType 13 14), (0, u "com/example/holdfast/holdfast/NodeClock"), (0, u "isKnown"), (0, u "()Z"), (2, .long 9223372036854775808), (1, .methodref 10 20), (0, .nameAndType 21 22), (0, u "deadline"), (0, u "(JJ)J"), (0, .methodref 10 3), (0, .methodref 25 26), (0, .class_ 27), (0, .nameAndType 28 29), (0, u "com/example/holdfast/holdfast/NodeClockIsKnownPinLaw"), (0, u "floorDiv1000"), (0, u "(J)J"), (0, .methodref 10 31), (0, .nameAndType 32 33), (0, u "read"), (0, u "(JJ)V"), (0, .methodref 25 35), (0, .nameAndType 36 37), (0, u "checkAfterRead"), (0, u "(Lcom/example/holdfast/holdfast/NodeClock;J)Z"), (3, u "law"), (0, u "(JJJJI)Z")] 2

def k1m0 : Method := { name := "<init>", desc := "()V", sig := { parameters := [], returnType := none }, accessFlags := 1, code := none }
def k1c1 : Code := { maxStack := 4, maxLocals := 4, code := method_2_code, exceptionTable := #[], attributes := #[] }
def k1m1 : Method := { name := "floorDiv1000", desc := "(J)J", sig := { parameters := [.long], returnType := some .long }, accessFlags := 10, code := some k1c1 }
def k1c2 : Code := { maxStack := 5, maxLocals := 4, code := method_3_code, exceptionTable := #[], attributes := #[] }
def k1m2 : Method := { name := "checkAfterRead", desc := "(Lcom/example/holdfast/holdfast/NodeClock;J)Z", sig := { parameters := [(.object "com/example/holdfast/holdfast/NodeClock"), .long], returnType := some .boolean }, accessFlags := 10, code := some k1c2 }
def k1c3 : Code := { maxStack := 5, maxLocals := 22, code := code, exceptionTable := #[], attributes := #[] }
def k1m3 : Method := { name := "law", desc := "(JJJJI)Z", sig := { parameters := [.long, .long, .long, .long, .int], returnType := some .boolean }, accessFlags := 9, code := some k1c3 }
/-- com/example/holdfast/holdfast/NodeClockIsKnownPinLaw -/
def k1 : Class := { plain "com/example/holdfast/holdfast/NodeClockIsKnownPinLaw" (some 0) with
  accessFlags := 49
  interfaces := #[]
  cf := some (fileOf pool1 25 #[] #[{ accessFlags := 1, nameIndex := 5, descriptorIndex := 6, attributes := #[] }, { accessFlags := 10, nameIndex := 28, descriptorIndex := 29, attributes := #[] }, { accessFlags := 10, nameIndex := 36, descriptorIndex := 37, attributes := #[] }, { accessFlags := 9, nameIndex := 41, descriptorIndex := 42, attributes := #[] }] 49 2 #[] #[])
  fields := #[]
  methods := #[k1m0, k1m1, k1m2, k1m3]
  instanceTypes := #[]
  staticTypes := #[]
  resolved := Array.replicate 45 none
  statics := none }

def pool2 : Array CpInfo := pool [(3, .methodref 4 5), (0, .class_ 6), (0, .nameAndType 7 8), (0, u "java/lang/Object"), (0, u "<init>"), (0, u "()V"), (0, .class_ 10), (0, u "com/example/holdfast/holdfast/NodeClock"), (0, .long 9223372036854775808), (1, .fieldref 9 14), (0, .nameAndType 15 16), (0, u "leadMicros"), (0, u "J"), (0, .methodref 18 19), (0, .class_ 20), (0, .nameAndType 21 22), (0, u "java/lang/Math"), (0, u "floorDiv"), (0, u "(JI)J"), (7, u "UNKNOWN"), (3, u "isKnown"), (0, u "()Z"), (1, u "read"), (0, u "(JJ)V"), (0, u "deadline"), (0, u "(JJ)J")] 2

def k2c0 : Code := { maxStack := 3, maxLocals := 1, code := prog_9_method_1_code, exceptionTable := #[], attributes := #[] }
def k2m0 : Method := { name := "<init>", desc := "()V", sig := { parameters := [], returnType := none }, accessFlags := 0, code := some k2c0 }
def k2c1 : Code := { maxStack := 4, maxLocals := 1, code := prog_9_method_2_code, exceptionTable := #[], attributes := #[] }
def k2m1 : Method := { name := "isKnown", desc := "()Z", sig := { parameters := [], returnType := some .boolean }, accessFlags := 0, code := some k2c1 }
def k2c2 : Code := { maxStack := 6, maxLocals := 5, code := prog_9_method_3_code, exceptionTable := #[], attributes := #[] }
def k2m2 : Method := { name := "read", desc := "(JJ)V", sig := { parameters := [.long, .long], returnType := none }, accessFlags := 0, code := some k2c2 }
def k2c3 : Code := { maxStack := 5, maxLocals := 7, code := prog_9_method_4_code, exceptionTable := #[], attributes := #[] }
def k2m3 : Method := { name := "deadline", desc := "(JJ)J", sig := { parameters := [.long, .long], returnType := some .long }, accessFlags := 0, code := some k2c3 }
/-- com/example/holdfast/holdfast/NodeClock -/
def k2 : Class := { plain "com/example/holdfast/holdfast/NodeClock" (some 0) with
  accessFlags := 48
  interfaces := #[]
  cf := some (fileOf pool2 9 #[] #[{ accessFlags := 0, nameIndex := 7, descriptorIndex := 8, attributes := #[] }, { accessFlags := 0, nameIndex := 34, descriptorIndex := 35, attributes := #[] }, { accessFlags := 0, nameIndex := 37, descriptorIndex := 38, attributes := #[] }, { accessFlags := 0, nameIndex := 39, descriptorIndex := 40, attributes := #[] }] 48 4 #[] #[{ accessFlags := 26, nameIndex := 30, descriptorIndex := 16, attributes := #[] }, { accessFlags := 66, nameIndex := 15, descriptorIndex := 16, attributes := #[] }])
  fields := #[{ name := "UNKNOWN", type := .long, accessFlags := 26, slot := 0, constantValue := 0 }, { name := "leadMicros", type := .long, accessFlags := 66, slot := 0, constantValue := 0 }]
  methods := #[k2m0, k2m1, k2m2, k2m3]
  instanceTypes := #[.long]
  staticTypes := #[.long]
  resolved := Array.replicate 43 none
  statics := none }

def pool3 : Array CpInfo := pool [(1, .class_ 2), (0, u "java/lang/Math"), (1, .class_ 6), (1, u "java/lang/Object"), (0, u "<init>"), (0, u "()V"), (89, .class_ 100), (1, u "java/lang/Math$RandomNumberGeneratorHolder"), (20, u "(JJ)J"), (21, .methodref 1 144), (0, .nameAndType 145 121), (0, u "floorDiv"), (26, u "negativeZeroFloatBits"), (0, u "J"), (2, u "negativeZeroDoubleBits"), (68, u "$assertionsDisabled"), (0, u "Z"), (91, u "twoToTheDoubleScaleDown"), (0, u "D"), (4, u "twoToTheDoubleScaleUp"), (9, u "E"), (3, u "PI"), (2, u "TAU"), (2, u "DEGREES_TO_RADIANS"), (0, u "RADIANS_TO_DEGREES"), (29, u "(JI)J")] 64

def k3m0 : Method := { name := "<init>", desc := "()V", sig := { parameters := [], returnType := none }, accessFlags := 2, code := none }
def k3c1 : Code := { maxStack := 4, maxLocals := 3, code := jdk_29_method_48_code, exceptionTable := #[], attributes := #[] }
def k3m1 : Method := { name := "floorDiv", desc := "(JI)J", sig := { parameters := [.long, .int], returnType := some .long }, accessFlags := 9, code := some k3c1 }
def k3c2 : Code := { maxStack := 4, maxLocals := 6, code := jdk_29_method_49_code, exceptionTable := #[], attributes := #[] }
def k3m2 : Method := { name := "floorDiv", desc := "(JJ)J", sig := { parameters := [.long, .long], returnType := some .long }, accessFlags := 9, code := some k3c2 }
/-- java/lang/Math -/
def k3 : Class := { plain "java/lang/Math" (some 0) with
  accessFlags := 49
  interfaces := #[]
  cf := some (fileOf pool3 1 #[.nestMembers #[98]] #[{ accessFlags := 2, nameIndex := 7, descriptorIndex := 8, attributes := #[] }, { accessFlags := 9, nameIndex := 145, descriptorIndex := 395, attributes := #[] }, { accessFlags := 9, nameIndex := 145, descriptorIndex := 121, attributes := #[] }] 49 4 #[] #[{ accessFlags := 25, nameIndex := 354, descriptorIndex := 339, attributes := #[] }, { accessFlags := 25, nameIndex := 358, descriptorIndex := 339, attributes := #[] }, { accessFlags := 25, nameIndex := 361, descriptorIndex := 339, attributes := #[] }, { accessFlags := 26, nameIndex := 364, descriptorIndex := 339, attributes := #[] }, { accessFlags := 26, nameIndex := 365, descriptorIndex := 339, attributes := #[] }, { accessFlags := 26, nameIndex := 172, descriptorIndex := 173, attributes := #[] }, { accessFlags := 26, nameIndex := 176, descriptorIndex := 173, attributes := #[] }, { accessFlags := 8, nameIndex := 344, descriptorIndex := 339, attributes := #[] }, { accessFlags := 8, nameIndex := 338, descriptorIndex := 339, attributes := #[] }, { accessFlags := 4120, nameIndex := 245, descriptorIndex := 246, attributes := #[] }])
  fields := #[{ name := "E", type := .double, accessFlags := 25, slot := 0, constantValue := 0 }, { name := "PI", type := .double, accessFlags := 25, slot := 1, constantValue := 0 }, { name := "TAU", type := .double, accessFlags := 25, slot := 2, constantValue := 0 }, { name := "DEGREES_TO_RADIANS", type := .double, accessFlags := 26, slot := 3, constantValue := 0 }, { name := "RADIANS_TO_DEGREES", type := .double, accessFlags := 26, slot := 4, constantValue := 0 }, { name := "negativeZeroFloatBits", type := .long, accessFlags := 26, slot := 5, constantValue := 0 }, { name := "negativeZeroDoubleBits", type := .long, accessFlags := 26, slot := 6, constantValue := 0 }, { name := "twoToTheDoubleScaleUp", type := .double, accessFlags := 8, slot := 7, constantValue := 0 }, { name := "twoToTheDoubleScaleDown", type := .double, accessFlags := 8, slot := 8, constantValue := 0 }, { name := "$assertionsDisabled", type := .boolean, accessFlags := 4120, slot := 9, constantValue := 0 }]
  methods := #[k3m0, k3m1, k3m2]
  instanceTypes := #[]
  staticTypes := #[.double, .double, .double, .double, .double, .long, .long, .double, .double, .boolean]
  resolved := Array.replicate 460 none
  statics := none }

def pool4 : Array CpInfo := pool [(1, u "java/lang/Cloneable"), (0, .class_ 1), (0, u "java/lang/Object"), (0, .class_ 3)] 3

/-- java/lang/Cloneable -/
def k4 : Class := { plain "java/lang/Cloneable" (some 0) with
  accessFlags := 1537
  interfaces := #[]
  cf := some (fileOf pool4 2 #[] #[] 1537 4 #[] #[])
  fields := #[]
  methods := #[]
  instanceTypes := #[]
  staticTypes := #[]
  resolved := Array.replicate 8 none
  statics := none }

def pool5 : Array CpInfo := pool [(1, u "java/io/Serializable"), (0, .class_ 1), (0, u "java/lang/Object"), (0, .class_ 3)] 3

/-- java/io/Serializable -/
def k5 : Class := { plain "java/io/Serializable" (some 0) with
  accessFlags := 1537
  interfaces := #[]
  cf := some (fileOf pool5 2 #[] #[] 1537 4 #[] #[])
  fields := #[]
  methods := #[]
  instanceTypes := #[]
  staticTypes := #[]
  resolved := Array.replicate 8 none
  statics := none }

/-- the primitive byte -/
def k6 : Class := { plain "byte" none with kind := .primitive 'B', accessFlags := 0x411 }
/-- [B -/
def k7 : Class := { plain "[B" (some 0) with kind := .array 6 .byte, interfaces := #[4, 5], accessFlags := 1041 }

/-- the primitive int -/
def k8 : Class := { plain "int" none with kind := .primitive 'I', accessFlags := 0x411 }
/-- [I -/
def k9 : Class := { plain "[I" (some 0) with kind := .array 8 .int, interfaces := #[4, 5], accessFlags := 1041 }

def heap : Heap := #[]
def classes : Array Class := #[k0, k1, k2, k3, k4, k5, k6, k7, k8, k9]
def interned : List (Array UInt16 × Addr) := []
def slotsUsed : Nat := 0
def theMethod : MethodId := ⟨1, 3⟩
def args0 : Array Value := #[.long 5, .long 6, .long 7, .long 8, .int 1]
def aboutOver (below : List Frame) : State where
  vm := { classes := classes, interned := interned.toArray }
  heap := heap
  slotsUsed := slotsUsed
  threads := #[{ frames := .invoking theMethod args0 :: below }]
def below0 : List Frame := [.native { method := ⟨0, 0⟩, args := #[] }]
def about1 : State := aboutOver below0
def p0 : Program := .bare "" "" ""
def e0 : Env := launch0.env 0 0 0
theorem w_frames : about1.frames = Frame.invoking theMethod args0 :: below0 := rfl
set_option maxRecDepth 65536 in
theorem w_args : argsFit about1.vm theMethod args0 = true := by decide +kernel
set_option maxRecDepth 65536 in
theorem w_heap : heapFits about1 = true := by decide +kernel
set_option maxRecDepth 65536 in
theorem w_runnable : about1.curStatus? = some .runnable := by decide +kernel
set_option maxRecDepth 65536 in
theorem w_alone : about1.alone = true := by decide +kernel
set_option maxRecDepth 65536 in
theorem w_named : about1.methodNamed? x = some theMethod := by decide +kernel
set_option maxRecDepth 65536 in
theorem w_hears : about1.hears theMethod below0 = true := by decide +kernel
set_option maxRecDepth 65536 in
theorem w_ripe : about1.ripe theMethod args0 below0 = true := by decide +kernel
theorem w_running : about1.status = .running := rfl
set_option maxRecDepth 65536 in
theorem w_room : about1.hasRoom e0.platform room_1 = true :=
  launch0.hasRoom_least _ room_1 (by decide +kernel) (by decide +kernel) (by decide +kernel) (by decide +kernel) (by decide +kernel) (by decide +kernel)
theorem allAtoms_all (ts : List Jvm.Cond) (a : Array Jvm.Value) (st : Jvm.State) : (allAtoms ts).before a st = ts.all (fun c => c.before a st) := by
  induction ts with
  | nil => rfl
  | cons c t ih =>
    show (Jvm.Cond.and c (allAtoms t)).before a st = _
    rw [Jvm.Cond.before_and, ih, List.all_cons]
def words1 : List Jvm.Cond := Jvm.Cond.code x code maxLocals ret :: tables_1
/-- a 'code' word, met by the world's own term for the bytes: nothing is compared byte by byte -/
theorem code_word {y : MethodName} {bytes : ByteArray} {mx : Nat} {rt : Option FieldType} {a : Array Value} {s : State} {m : MethodId} {meth : Method} {c : Code} (h1 : s.methodNamed? y = some m) (h2 : s.vm.method? m = some meth) (h3 : meth.code = some c) (h4 : c.code = bytes)
    (h5 : (c.maxLocals == mx && c.exceptionTable.isEmpty && decide (c.maxStack ≤ mostOperands) && decide (meth.sig.returnType = rt) && !meth.locks && decide (parseMethodDescriptor y.desc = some meth.sig)) = true) : (Jvm.Cond.code y bytes mx rt).before a s = true := by
  simp only [Bool.and_eq_true, beq_iff_eq, Bool.not_eq_true', decide_eq_true_eq] at h5
  obtain ⟨⟨⟨⟨⟨g1, g2⟩, g3⟩, g4⟩, g5⟩, g6⟩ := h5
  simp [Cond.before, Cond.holds, Cond.value, h1, h2, h3, h4, g1, g2, g3, g4, g5, g6]
def isCode : Jvm.Cond → Bool
  | .code _ _ _ _ => true
  | _ => false
theorem all_split {L : List Jvm.Cond} {P : Jvm.Cond → Bool} (h1 : L.all (fun c => isCode c || P c) = true) (h2 : ∀ c ∈ L.filter isCode, P c = true) : L.all P = true := by
  refine List.all_eq_true.mpr fun c hc => ?_
  have h := List.all_eq_true.mp h1 c hc
  rcases Bool.eq_false_or_eq_true (isCode c) with hi | hi
  · exact h2 c (List.mem_filter.mpr ⟨hc, hi⟩)
  · simpa [hi] using h
set_option maxRecDepth 65536 in
theorem w_c0 : (Jvm.Cond.code x code maxLocals ret).before args0 about1 = true := code_word (m := ⟨1, 3⟩) (meth := k1m3) (c := k1c3) (by decide +kernel) rfl rfl rfl (by decide +kernel)
set_option maxRecDepth 65536 in
theorem w_c1 : (Jvm.Cond.code ({ cls := "com/example/holdfast/holdfast/NodeClock", name := "<init>", desc := "()V" } : Jvm.MethodName) prog_9_method_1_code (1 : Nat) (Option.none : Option Jvm.ClassFile.FieldType)).before args0 about1 = true := code_word (m := ⟨2, 0⟩) (meth := k2m0) (c := k2c0) (by decide +kernel) rfl rfl rfl (by decide +kernel)
set_option maxRecDepth 65536 in
theorem w_c2 : (Jvm.Cond.code ({ cls := "java/lang/Object", name := "<init>", desc := "()V" } : Jvm.MethodName) object_method_1_code (1 : Nat) (Option.none : Option Jvm.ClassFile.FieldType)).before args0 about1 = true := code_word (m := ⟨0, 0⟩) (meth := k0m0) (c := k0c0) (by decide +kernel) rfl rfl rfl (by decide +kernel)
set_option maxRecDepth 65536 in
theorem w_c3 : (Jvm.Cond.code ({ cls := "com/example/holdfast/holdfast/NodeClock", name := "isKnown", desc := "()Z" } : Jvm.MethodName) prog_9_method_2_code (1 : Nat) (Option.some Jvm.ClassFile.FieldType.boolean)).before args0 about1 = true := code_word (m := ⟨2, 1⟩) (meth := k2m1) (c := k2c1) (by decide +kernel) rfl rfl rfl (by decide +kernel)
set_option maxRecDepth 65536 in
theorem w_c4 : (Jvm.Cond.code ({ cls := "com/example/holdfast/holdfast/NodeClockIsKnownPinLaw", name := "floorDiv1000", desc := "(J)J" } : Jvm.MethodName) method_2_code (4 : Nat) (Option.some Jvm.ClassFile.FieldType.long)).before args0 about1 = true := code_word (m := ⟨1, 1⟩) (meth := k1m1) (c := k1c1) (by decide +kernel) rfl rfl rfl (by decide +kernel)
set_option maxRecDepth 65536 in
theorem w_c5 : (Jvm.Cond.code ({ cls := "com/example/holdfast/holdfast/NodeClock", name := "read", desc := "(JJ)V" } : Jvm.MethodName) prog_9_method_3_code (5 : Nat) (Option.none : Option Jvm.ClassFile.FieldType)).before args0 about1 = true := code_word (m := ⟨2, 2⟩) (meth := k2m2) (c := k2c2) (by decide +kernel) rfl rfl rfl (by decide +kernel)
set_option maxRecDepth 65536 in
theorem w_c6 : (Jvm.Cond.code ({ cls := "java/lang/Math", name := "floorDiv", desc := "(JI)J" } : Jvm.MethodName) jdk_29_method_48_code (3 : Nat) (Option.some Jvm.ClassFile.FieldType.long)).before args0 about1 = true := code_word (m := ⟨3, 1⟩) (meth := k3m1) (c := k3c1) (by decide +kernel) rfl rfl rfl (by decide +kernel)
set_option maxRecDepth 65536 in
theorem w_c7 : (Jvm.Cond.code ({ cls := "java/lang/Math", name := "floorDiv", desc := "(JJ)J" } : Jvm.MethodName) jdk_29_method_49_code (6 : Nat) (Option.some Jvm.ClassFile.FieldType.long)).before args0 about1 = true := code_word (m := ⟨3, 2⟩) (meth := k3m2) (c := k3c2) (by decide +kernel) rfl rfl rfl (by decide +kernel)
set_option maxRecDepth 65536 in
theorem w_c8 : (Jvm.Cond.code ({ cls := "com/example/holdfast/holdfast/NodeClockIsKnownPinLaw", name := "checkAfterRead", desc := "(Lcom/example/holdfast/holdfast/NodeClock;J)Z" } : Jvm.MethodName) method_3_code (4 : Nat) (Option.some Jvm.ClassFile.FieldType.boolean)).before args0 about1 = true := code_word (m := ⟨1, 2⟩) (meth := k1m2) (c := k1c2) (by decide +kernel) rfl rfl rfl (by decide +kernel)
set_option maxRecDepth 65536 in
theorem w_c9 : (Jvm.Cond.code ({ cls := "com/example/holdfast/holdfast/NodeClock", name := "deadline", desc := "(JJ)J" } : Jvm.MethodName) prog_9_method_4_code (7 : Nat) (Option.some Jvm.ClassFile.FieldType.long)).before args0 about1 = true := code_word (m := ⟨2, 3⟩) (meth := k2m3) (c := k2c3) (by decide +kernel) rfl rfl rfl (by decide +kernel)
def codes1 : List Jvm.Cond := [Jvm.Cond.code x code maxLocals ret, Jvm.Cond.code ({ cls := "com/example/holdfast/holdfast/NodeClock", name := "<init>", desc := "()V" } : Jvm.MethodName) prog_9_method_1_code (1 : Nat) (Option.none : Option Jvm.ClassFile.FieldType), Jvm.Cond.code ({ cls := "java/lang/Object", name := "<init>", desc := "()V" } : Jvm.MethodName) object_method_1_code (1 : Nat) (Option.none : Option Jvm.ClassFile.FieldType), Jvm.Cond.code ({ cls := "com/example/holdfast/holdfast/NodeClock", name := "isKnown", desc := "()Z" } : Jvm.MethodName) prog_9_method_2_code (1 : Nat) (Option.some Jvm.ClassFile.FieldType.boolean), Jvm.Cond.code ({ cls := "com/example/holdfast/holdfast/NodeClockIsKnownPinLaw", name := "floorDiv1000", desc := "(J)J" } : Jvm.MethodName) method_2_code (4 : Nat) (Option.some Jvm.ClassFile.FieldType.long), Jvm.Cond.code ({ cls := "com/example/holdfast/holdfast/NodeClock", name := "read", desc := "(JJ)V" } : Jvm.MethodName) prog_9_method_3_code (5 : Nat) (Option.none : Option Jvm.ClassFile.FieldType), Jvm.Cond.code ({ cls := "java/lang/Math", name := "floorDiv", desc := "(JI)J" } : Jvm.MethodName) jdk_29_method_48_code (3 : Nat) (Option.some Jvm.ClassFile.FieldType.long), Jvm.Cond.code ({ cls := "java/lang/Math", name := "floorDiv", desc := "(JJ)J" } : Jvm.MethodName) jdk_29_method_49_code (6 : Nat) (Option.some Jvm.ClassFile.FieldType.long), Jvm.Cond.code ({ cls := "com/example/holdfast/holdfast/NodeClockIsKnownPinLaw", name := "checkAfterRead", desc := "(Lcom/example/holdfast/holdfast/NodeClock;J)Z" } : Jvm.MethodName) method_3_code (4 : Nat) (Option.some Jvm.ClassFile.FieldType.boolean), Jvm.Cond.code ({ cls := "com/example/holdfast/holdfast/NodeClock", name := "deadline", desc := "(JJ)J" } : Jvm.MethodName) prog_9_method_4_code (7 : Nat) (Option.some Jvm.ClassFile.FieldType.long)]
set_option maxRecDepth 65536 in
theorem codes_eq : words1.filter isCode = codes1 := rfl
theorem w_codes : ∀ c ∈ words1.filter isCode, c.before args0 about1 = true := by
  rw [codes_eq]
  intro c hc
  simp only [codes1, List.mem_cons, List.not_mem_nil, or_false] at hc
  rcases hc with rfl | rfl | rfl | rfl | rfl | rfl | rfl | rfl | rfl | rfl
  · exact w_c0
  · exact w_c1
  · exact w_c2
  · exact w_c3
  · exact w_c4
  · exact w_c5
  · exact w_c6
  · exact w_c7
  · exact w_c8
  · exact w_c9
set_option maxRecDepth 65536 in
theorem w_t1 : (words1.take 24).all (fun c => isCode c || c.before args0 about1) = true := by decide +kernel
set_option maxRecDepth 65536 in
theorem w_t2 : (words1.drop 24).all (fun c => isCode c || c.before args0 about1) = true := by decide +kernel
theorem w_tables : (allAtoms (Jvm.Cond.code x code maxLocals ret :: tables_1)).before args0 about1 = true := by
  rw [allAtoms_all]
  show words1.all (fun c => c.before args0 about1) = true
  refine all_split ?_ w_codes
  rw [← List.take_append_drop 24 words1, List.all_append, w_t1, w_t2]
  rfl
set_option maxRecDepth 65536 in
theorem w_case : (Jvm.Cond.and given_1 narrow_1).before args0 about1 = true := by decide +kernel
theorem w_applies : (headSpec (Jvm.Cond.code x code maxLocals ret :: tables_1) room_1).applies x e0.platform about1 = true :=
  (Spec.applies_iff w_frames).mpr ⟨w_running, w_runnable, w_alone, w_named, w_hears, w_ripe, w_room, w_tables⟩
theorem atStart : AtStart classFile x code maxLocals ret World_1 tables_1 room_1 Calls_1 rest_1 Pre_1 launch0 p0 e0 about1 theMethod args0 below0 :=
  ⟨lists_1, trivial, launch0.admits_env _ _ _, launch0.least_env, fairChoices_fair.cas, fairChoices_fair.clock, w_frames, w_args, w_heap, w_applies, trivial, trivial, w_case⟩
end start1
theorem witness_1 : WitnessClaimed_1 := ⟨start1.p0, start1.e0, start1.about1, start1.theMethod, start1.args0, start1.below0, start1.atStart⟩
end Jvm.Pilot.@@N@@
