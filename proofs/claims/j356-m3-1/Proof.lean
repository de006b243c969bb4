import JvmDerived
import JvmDerived.Pilot.@@N@@Statement
import JvmDerived.Pilot.@@N@@Code
set_option linter.unusedVariables false
set_option linter.unusedSimpArgs false
namespace Jvm.RoadKit
open Sem ClassFile Op Lib Jvm.Stand Jvm.Free Jvm.LawKit
section New
variable {p : Program} {l : Launch} {e : Env} {R : Room} {s : State} {m : MethodId} {args : Array Value} {below : List Frame} {meth : Method} {c : Code} {T : State} {locs : List Loc} {cells slots : Nat}
theorem retI (X : Stand p l e R s m args below meth c T locs cells slots) (hx : p.tables.exec = Jvm.exec) {pc : Nat} {Ls : Array Slot} {z : Int32} {rest : List Value} (hret : meth.sig.returnType = some .int) (hd : decode c.code pc = .ok (.ireturn, 1)) {fs : List Frame}
    (hl : ∀ (f : JFrame) (acts : List Action), f.method = m → f.locked = none → f.entered = [] → (doReturn e (T.setTop f) acts (some (.int z))).1 = T.setFrames fs) : Steps p.tables e below (T.setTop (mkF m pc Ls (.int z :: rest))) (T.setFrames fs) := by
  have hm' : T.vm.method? m = some meth := X.method'
  have hn : narrow .int (.int z) = .int z := rfl
  show Steps p.tables e below (T.setTop { method := m, pc := pc, locals := Ls, stack := _ :: rest, locked := none }) _
  jvm_step X.here [X.here.top, hx, hd, hm', hret, hn]
  first | (intro acts; rw [hl _ acts rfl rfl rfl]) | rw [hl _ _ rfl rfl rfl]
  exact Steps.refl _
end New
end Jvm.RoadKit
namespace Jvm.Pilot.@@N@@
open Jvm Jvm.ClassFile Sem Op Lib Jvm.Free Jvm.Stand Jvm.LawKit Jvm.RoadKit Bundle Jvm.Pilot.@@N@@.Jvm.D
def own_fd (x y : Int64) : Int64 := if (x ^^^ y) < (0 : Int64) then (if ((x / y) * y) = x then (x / y) else ((x / y) - (1 : Int64))) else (x / y)
def own_fm (x : Int64) : Int64 := if (x - (x / (1000 : Int64)) * (1000 : Int64)) < (0 : Int64) then ((x / (1000 : Int64)) - (1 : Int64)) else (x / (1000 : Int64))
theorem d6_0 : decode jdk_29_method_49_code 0 = .ok (.lload_n 0, 1) := by decide +kernel
theorem d6_1 : decode jdk_29_method_49_code 1 = .ok (.lload_n 2, 1) := by decide +kernel
theorem d6_2 : decode jdk_29_method_49_code 2 = .ok (.ldiv, 1) := by decide +kernel
theorem d6_3 : decode jdk_29_method_49_code 3 = .ok (.lstore 4, 2) := by decide +kernel
theorem d6_5 : decode jdk_29_method_49_code 5 = .ok (.lload_n 0, 1) := by decide +kernel
theorem d6_6 : decode jdk_29_method_49_code 6 = .ok (.lload_n 2, 1) := by decide +kernel
theorem d6_7 : decode jdk_29_method_49_code 7 = .ok (.lxor, 1) := by decide +kernel
theorem d6_8 : decode jdk_29_method_49_code 8 = .ok (.lconst 0, 1) := by decide +kernel
theorem d6_9 : decode jdk_29_method_49_code 9 = .ok (.lcmp, 1) := by decide +kernel
theorem d6_10 : decode jdk_29_method_49_code 10 = .ok (.ifCond .ge 17, 3) := by decide +kernel
theorem d6_13 : decode jdk_29_method_49_code 13 = .ok (.lload 4, 2) := by decide +kernel
theorem d6_15 : decode jdk_29_method_49_code 15 = .ok (.lload_n 2, 1) := by decide +kernel
theorem d6_16 : decode jdk_29_method_49_code 16 = .ok (.lmul, 1) := by decide +kernel
theorem d6_17 : decode jdk_29_method_49_code 17 = .ok (.lload_n 0, 1) := by decide +kernel
theorem d6_18 : decode jdk_29_method_49_code 18 = .ok (.lcmp, 1) := by decide +kernel
theorem d6_19 : decode jdk_29_method_49_code 19 = .ok (.ifCond .eq 8, 3) := by decide +kernel
theorem d6_22 : decode jdk_29_method_49_code 22 = .ok (.lload 4, 2) := by decide +kernel
theorem d6_24 : decode jdk_29_method_49_code 24 = .ok (.lconst 1, 1) := by decide +kernel
theorem d6_25 : decode jdk_29_method_49_code 25 = .ok (.lsub, 1) := by decide +kernel
theorem d6_26 : decode jdk_29_method_49_code 26 = .ok (.lreturn, 1) := by decide +kernel
theorem d6_27 : decode jdk_29_method_49_code 27 = .ok (.lload 4, 2) := by decide +kernel
theorem d6_29 : decode jdk_29_method_49_code 29 = .ok (.lreturn, 1) := by decide +kernel
theorem ef_6 (m : MethodId) (P0 : Int64) (P1 : Int64) : entryFrame m #[(.long P0), (.long P1)] 6 = mkF m 0 #[.val (.long P0), .second, .val (.long P1), .second, .unset, .unset] [] := by first | (simp [entryFrame, mkF, argsToLocals, Value.category]; done) | rfl
def Q6 (Z : State) (P0 : Int64) (P1 : Int64) (h0 : Heap) (n0 : Nat) (v : Option Value) (h : Heap) (L : List Loc) : Prop := (v = some (.long (own_fd P0 P1))) ∧ (Fr n0 L) ∧ (h = h0)
set_option maxRecDepth 65536 in
set_option maxHeartbeats 40000000 in
theorem rm6 (l : Launch) (Z : State) (a0 : Array Value) (hw : ∀ d ∈ tables_1, d.before a0 Z = true) (ws : List Jvm.Cond) (P0 : Int64) (P1 : Int64) (h0 : Heap) (n0 : Nat) (Z0 : n0 ≤ h0.size) (hy : P1 ≠ (0 : Int64)) :
    MetFree l (⟨"java/lang/Math", "floorDiv", "(JJ)J"⟩ : MethodName) (head1 (Jvm.Cond.code (⟨"java/lang/Math", "floorDiv", "(JJ)J"⟩ : MethodName) jdk_29_method_49_code 6 (some .long) :: ws) ({ frames := 0, cells := 0, slots := 0, locals := 0 } : Room)) (fun a U => a = #[(.long P0), (.long P1)] ∧ Z.Warmed39 U.vm ∧ U.heap = h0) (fun _ _ _ _ _ => True) (fun _ U o U' => ∃ v L, o = .returned v ∧ Q6 Z P0 P1 h0 n0 v U'.heap L ∧ FrameEnd U o U' L ({ frames := 0, cells := 0, slots := 0, locals := 0 } : Room).cells ({ frames := 0, cells := 0, slots := 0, locals := 0 } : Room).slots) := by
  refine MetFree.of_bodySF (Jvm.Free.JP.mathPlain rfl (by decide +kernel)) hisR ?_
  intro p e s m args below meth c s₁ Bd hml0 hP hK
  obtain ⟨rfl, hZ, hh⟩ := hP
  have hx := Bd.exec
  have hby := Bd.bytes
  have hml : c.maxLocals = 6 := hml0
  have hown : s.vm.findClass "java/lang/Math" = some m.cls := findClass_of_methodNamed Bd.named
  have hnm := (name_of_methodNamed Bd.named Bd.method).1
  have X0 : Stand p l e ({ frames := 0, cells := 0, slots := 0, locals := 0 } : Room) s m #[(.long P0), (.long P1)] below meth c s₁ [] 0 0 := Stand.of_body Bd
  have e0 : s₁.heap = h0 := by rw [← hh, Bd.state]; rfl
  have N0 := Fr.nil n0
  have pre0 : ∀ t, Steps p.tables e below (s₁.setTop (mkF m 0 #[.val (.long P0), .second, .val (.long P1), .second, .unset, .unset] [])) t → Steps p.tables e below (s₁.setTop (entryFrame m #[(.long P0), (.long P1)] 6)) t := fun t k => castTop (ef_6 m P0 P1) k
  have pre1 : ∀ t, Steps p.tables e below (s₁.setTop (mkF m 10 #[.val (.long P0), .second, .val (.long P1), .second, .val (.long (P0 / P1)), .second] [(.int (lcmpW (P0 ^^^ P1) (0 : Int64)))])) t → Steps p.tables e below (s₁.setTop (entryFrame m #[(.long P0), (.long P1)] 6)) t := fun t kt => pre0 t (by
      show Steps p.tables e below (s₁.setTop (mkF m 0 #[.val (.long P0), .second, .val (.long P1), .second, .unset, .unset] [])) _
      refine XS.lloadN X0.here hx rfl (hb hby d6_0) rfl ?_
      show Steps p.tables e below (s₁.setTop (mkF m 1 #[.val (.long P0), .second, .val (.long P1), .second, .unset, .unset] [(.long P0)])) _
      refine XS.lloadN X0.here hx rfl (hb hby d6_1) rfl ?_
      show Steps p.tables e below (s₁.setTop (mkF m 2 #[.val (.long P0), .second, .val (.long P1), .second, .unset, .unset] [(.long P1), (.long P0)])) _
      refine XS.ldiv X0.here hx rfl (hb hby d6_2) rfl hy ?_
      show Steps p.tables e below (s₁.setTop (mkF m 3 #[.val (.long P0), .second, .val (.long P1), .second, .unset, .unset] [(.long (P0 / P1))])) _
      refine XS.lstore X0.here hx rfl (hb hby d6_3) rfl (l' := #[.val (.long P0), .second, .val (.long P1), .second, .val (.long (P0 / P1)), .second]) rfl ?_
      show Steps p.tables e below (s₁.setTop (mkF m 5 #[.val (.long P0), .second, .val (.long P1), .second, .val (.long (P0 / P1)), .second] [])) _
      refine XS.lloadN X0.here hx rfl (hb hby d6_5) rfl ?_
      show Steps p.tables e below (s₁.setTop (mkF m 6 #[.val (.long P0), .second, .val (.long P1), .second, .val (.long (P0 / P1)), .second] [(.long P0)])) _
      refine XS.lloadN X0.here hx rfl (hb hby d6_6) rfl ?_
      show Steps p.tables e below (s₁.setTop (mkF m 7 #[.val (.long P0), .second, .val (.long P1), .second, .val (.long (P0 / P1)), .second] [(.long P1), (.long P0)])) _
      refine XS.lxor X0.here hx rfl (hb hby d6_7) rfl ?_
      show Steps p.tables e below (s₁.setTop (mkF m 8 #[.val (.long P0), .second, .val (.long P1), .second, .val (.long (P0 / P1)), .second] [(.long (P0 ^^^ P1))])) _
      refine XS.lconst X0.here hx rfl (hb hby d6_8) ?_
      show Steps p.tables e below (s₁.setTop (mkF m 9 #[.val (.long P0), .second, .val (.long P1), .second, .val (.long (P0 / P1)), .second] [(.long (0 : Int64)), (.long (P0 ^^^ P1))])) _
      refine XS.lcmp X0.here hx rfl (hb hby d6_9) rfl ?_
      exact kt)
  by_cases hc10 : (P0 ^^^ P1) < (0 : Int64)
  · have pre2 : ∀ t, Steps p.tables e below (s₁.setTop (mkF m 19 #[.val (.long P0), .second, .val (.long P1), .second, .val (.long (P0 / P1)), .second] [(.int (lcmpW ((P0 / P1) * P1) P0))])) t → Steps p.tables e below (s₁.setTop (entryFrame m #[(.long P0), (.long P1)] 6)) t := fun t kt => pre1 t (by
        show Steps p.tables e below (s₁.setTop (mkF m 10 #[.val (.long P0), .second, .val (.long P1), .second, .val (.long (P0 / P1)), .second] [(.int (lcmpW (P0 ^^^ P1) (0 : Int64)))])) _
        refine XS.ifNo X0.here hx rfl (hb hby d6_10) rfl ((if0 _ _).trans (tlt ((lw_lt (P0 ^^^ P1) (0 : Int64)).mpr hc10)).2.1) ?_
        show Steps p.tables e below (s₁.setTop (mkF m 13 #[.val (.long P0), .second, .val (.long P1), .second, .val (.long (P0 / P1)), .second] [])) _
        refine XS.lload X0.here hx rfl (hb hby d6_13) rfl ?_
        show Steps p.tables e below (s₁.setTop (mkF m 15 #[.val (.long P0), .second, .val (.long P1), .second, .val (.long (P0 / P1)), .second] [(.long (P0 / P1))])) _
        refine XS.lloadN X0.here hx rfl (hb hby d6_15) rfl ?_
        show Steps p.tables e below (s₁.setTop (mkF m 16 #[.val (.long P0), .second, .val (.long P1), .second, .val (.long (P0 / P1)), .second] [(.long P1), (.long (P0 / P1))])) _
        refine XS.lmul X0.here hx rfl (hb hby d6_16) rfl ?_
        show Steps p.tables e below (s₁.setTop (mkF m 17 #[.val (.long P0), .second, .val (.long P1), .second, .val (.long (P0 / P1)), .second] [(.long ((P0 / P1) * P1))])) _
        refine XS.lloadN X0.here hx rfl (hb hby d6_17) rfl ?_
        show Steps p.tables e below (s₁.setTop (mkF m 18 #[.val (.long P0), .second, .val (.long P1), .second, .val (.long (P0 / P1)), .second] [(.long P0), (.long ((P0 / P1) * P1))])) _
        refine XS.lcmp X0.here hx rfl (hb hby d6_18) rfl ?_
        exact kt)
    by_cases hc19 : ((P0 / P1) * P1) = P0
    · have pre3 : ∀ t, Steps p.tables e below (s₁.setTop (mkF m 29 #[.val (.long P0), .second, .val (.long P1), .second, .val (.long (P0 / P1)), .second] [(.long (P0 / P1))])) t → Steps p.tables e below (s₁.setTop (entryFrame m #[(.long P0), (.long P1)] 6)) t := fun t kt => pre2 t (by
          show Steps p.tables e below (s₁.setTop (mkF m 19 #[.val (.long P0), .second, .val (.long P1), .second, .val (.long (P0 / P1)), .second] [(.int (lcmpW ((P0 / P1) * P1) P0))])) _
          refine XS.ifYes X0.here hx rfl (pc0 := 19) (pc' := 27) rfl (hb hby d6_19) rfl ((if0 _ _).trans (teq ((lw_eq ((P0 / P1) * P1) P0).mpr hc19)).1) (by decide) (by decide) ?_
          show Steps p.tables e below (s₁.setTop (mkF m 27 #[.val (.long P0), .second, .val (.long P1), .second, .val (.long (P0 / P1)), .second] [])) _
          refine XS.lload X0.here hx rfl (hb hby d6_27) rfl ?_
          exact kt)
      obtain ⟨fs, hr, hrun, hended, hW, hsame⟩ := X0.leave (v := some (.long (P0 / P1))) (fun h => by rw [Bd.returns] at h; cases h)
      refine ⟨_, _, pre3 _ ?_, hrun, hended, _, _, rfl, ?_, ⟨_, rfl⟩, hW, hsame.mono (by decide) (by decide)⟩
      · show Steps p.tables e below (s₁.setTop (mkF m 29 #[.val (.long P0), .second, .val (.long P1), .second, .val (.long (P0 / P1)), .second] [(.long (P0 / P1))])) _
        exact retOut X0 hx Bd.returns rfl (Or.inr (Or.inl ⟨rfl, rfl, _, rfl⟩)) (hb hby d6_29) hr
      · show Q6 Z P0 P1 h0 n0 _ s₁.heap _
        rw [e0]
        exact ⟨(congrArg (fun z => some (Value.long z)) (show (P0 / P1) = (own_fd P0 P1) from by unfold own_fd; rw [if_pos hc10, if_pos hc19])), N0, rfl⟩
    · have pre4 : ∀ t, Steps p.tables e below (s₁.setTop (mkF m 26 #[.val (.long P0), .second, .val (.long P1), .second, .val (.long (P0 / P1)), .second] [(.long ((P0 / P1) - (1 : Int64)))])) t → Steps p.tables e below (s₁.setTop (entryFrame m #[(.long P0), (.long P1)] 6)) t := fun t kt => pre2 t (by
          show Steps p.tables e below (s₁.setTop (mkF m 19 #[.val (.long P0), .second, .val (.long P1), .second, .val (.long (P0 / P1)), .second] [(.int (lcmpW ((P0 / P1) * P1) P0))])) _
          refine XS.ifNo X0.here hx rfl (hb hby d6_19) rfl ((if0 _ _).trans (feq (fun q => hc19 ((lw_eq ((P0 / P1) * P1) P0).mp q))).1) ?_
          show Steps p.tables e below (s₁.setTop (mkF m 22 #[.val (.long P0), .second, .val (.long P1), .second, .val (.long (P0 / P1)), .second] [])) _
          refine XS.lload X0.here hx rfl (hb hby d6_22) rfl ?_
          show Steps p.tables e below (s₁.setTop (mkF m 24 #[.val (.long P0), .second, .val (.long P1), .second, .val (.long (P0 / P1)), .second] [(.long (P0 / P1))])) _
          refine XS.lconst X0.here hx rfl (hb hby d6_24) ?_
          show Steps p.tables e below (s₁.setTop (mkF m 25 #[.val (.long P0), .second, .val (.long P1), .second, .val (.long (P0 / P1)), .second] [(.long (1 : Int64)), (.long (P0 / P1))])) _
          refine XS.lsub X0.here hx rfl (hb hby d6_25) rfl ?_
          exact kt)
      obtain ⟨fs, hr, hrun, hended, hW, hsame⟩ := X0.leave (v := some (.long ((P0 / P1) - (1 : Int64)))) (fun h => by rw [Bd.returns] at h; cases h)
      refine ⟨_, _, pre4 _ ?_, hrun, hended, _, _, rfl, ?_, ⟨_, rfl⟩, hW, hsame.mono (by decide) (by decide)⟩
      · show Steps p.tables e below (s₁.setTop (mkF m 26 #[.val (.long P0), .second, .val (.long P1), .second, .val (.long (P0 / P1)), .second] [(.long ((P0 / P1) - (1 : Int64)))])) _
        exact retOut X0 hx Bd.returns rfl (Or.inr (Or.inl ⟨rfl, rfl, _, rfl⟩)) (hb hby d6_26) hr
      · show Q6 Z P0 P1 h0 n0 _ s₁.heap _
        rw [e0]
        exact ⟨(congrArg (fun z => some (Value.long z)) (show ((P0 / P1) - (1 : Int64)) = (own_fd P0 P1) from by unfold own_fd; rw [if_pos hc10, if_neg hc19])), N0, rfl⟩
  · have pre5 : ∀ t, Steps p.tables e below (s₁.setTop (mkF m 29 #[.val (.long P0), .second, .val (.long P1), .second, .val (.long (P0 / P1)), .second] [(.long (P0 / P1))])) t → Steps p.tables e below (s₁.setTop (entryFrame m #[(.long P0), (.long P1)] 6)) t := fun t kt => pre1 t (by
        show Steps p.tables e below (s₁.setTop (mkF m 10 #[.val (.long P0), .second, .val (.long P1), .second, .val (.long (P0 / P1)), .second] [(.int (lcmpW (P0 ^^^ P1) (0 : Int64)))])) _
        refine XS.ifYes X0.here hx rfl (pc0 := 10) (pc' := 27) rfl (hb hby d6_10) rfl ((if0 _ _).trans (flt (fun q => hc10 ((lw_lt (P0 ^^^ P1) (0 : Int64)).mp q))).2.1) (by decide) (by decide) ?_
        show Steps p.tables e below (s₁.setTop (mkF m 27 #[.val (.long P0), .second, .val (.long P1), .second, .val (.long (P0 / P1)), .second] [])) _
        refine XS.lload X0.here hx rfl (hb hby d6_27) rfl ?_
        exact kt)
    obtain ⟨fs, hr, hrun, hended, hW, hsame⟩ := X0.leave (v := some (.long (P0 / P1))) (fun h => by rw [Bd.returns] at h; cases h)
    refine ⟨_, _, pre5 _ ?_, hrun, hended, _, _, rfl, ?_, ⟨_, rfl⟩, hW, hsame.mono (by decide) (by decide)⟩
    · show Steps p.tables e below (s₁.setTop (mkF m 29 #[.val (.long P0), .second, .val (.long P1), .second, .val (.long (P0 / P1)), .second] [(.long (P0 / P1))])) _
      exact retOut X0 hx Bd.returns rfl (Or.inr (Or.inl ⟨rfl, rfl, _, rfl⟩)) (hb hby d6_29) hr
    · show Q6 Z P0 P1 h0 n0 _ s₁.heap _
      rw [e0]
      exact ⟨(congrArg (fun z => some (Value.long z)) (show (P0 / P1) = (own_fd P0 P1) from by unfold own_fd; rw [if_neg hc10])), N0, rfl⟩
theorem d5_0 : decode jdk_29_method_48_code 0 = .ok (.lload_n 0, 1) := by decide +kernel
theorem d5_1 : decode jdk_29_method_48_code 1 = .ok (.iload_n 2, 1) := by decide +kernel
theorem d5_2 : decode jdk_29_method_48_code 2 = .ok (.i2l, 1) := by decide +kernel
theorem d5_3 : decode jdk_29_method_48_code 3 = .ok (.invokestatic 143, 3) := by decide +kernel
theorem d5_6 : decode jdk_29_method_48_code 6 = .ok (.lreturn, 1) := by decide +kernel
theorem pd_5_0 : parseMethodDescriptor "(JJ)J" = some ⟨[.long, .long], some .long⟩ := by decide +kernel
theorem ef_5 (m : MethodId) (P0 : Int64) (P1 : Int32) : entryFrame m #[(.long P0), (.int P1)] 3 = mkF m 0 #[.val (.long P0), .second, .val (.int P1)] [] := by first | (simp [entryFrame, mkF, argsToLocals, Value.category]; done) | rfl
def Q5 (Z : State) (P0 : Int64) (P1 : Int32) (h0 : Heap) (n0 : Nat) (v : Option Value) (h : Heap) (L : List Loc) : Prop := (v = some (.long (own_fd P0 (P1.toInt64)))) ∧ (Fr n0 L) ∧ (h = h0)
set_option maxRecDepth 65536 in
set_option maxHeartbeats 40000000 in
theorem rm5 (l : Launch) (Z : State) (a0 : Array Value) (hw : ∀ d ∈ tables_1, d.before a0 Z = true) (ws : List Jvm.Cond) (P0 : Int64) (P1 : Int32) (h0 : Heap) (n0 : Nat) (Z0 : n0 ≤ h0.size) (hy : (P1.toInt64) ≠ (0 : Int64)) :
    MetFree l (⟨"java/lang/Math", "floorDiv", "(JI)J"⟩ : MethodName) (head1 (Jvm.Cond.code (⟨"java/lang/Math", "floorDiv", "(JI)J"⟩ : MethodName) jdk_29_method_48_code 3 (some .long) :: ws) ({ frames := 1, cells := 0, slots := 0, locals := 17 } : Room)) (fun a U => a = #[(.long P0), (.int P1)] ∧ Z.Warmed39 U.vm ∧ U.heap = h0) (fun _ _ _ _ _ => True) (fun _ U o U' => ∃ v L, o = .returned v ∧ Q5 Z P0 P1 h0 n0 v U'.heap L ∧ FrameEnd U o U' L ({ frames := 1, cells := 0, slots := 0, locals := 17 } : Room).cells ({ frames := 1, cells := 0, slots := 0, locals := 17 } : Room).slots) := by
  refine MetFree.of_bodySF (Jvm.Free.JP.mathPlain rfl (by decide +kernel)) hisR ?_
  intro p e s m args below meth c s₁ Bd hml0 hP hK
  obtain ⟨rfl, hZ, hh⟩ := hP
  have hx := Bd.exec
  have hby := Bd.bytes
  have hml : c.maxLocals = 3 := hml0
  have hown : s.vm.findClass "java/lang/Math" = some m.cls := findClass_of_methodNamed Bd.named
  have hnm := (name_of_methodNamed Bd.named Bd.method).1
  have X0 : Stand p l e ({ frames := 1, cells := 0, slots := 0, locals := 17 } : Room) s m #[(.long P0), (.int P1)] below meth c s₁ [] 0 0 := Stand.of_body Bd
  have e0 : s₁.heap = h0 := by rw [← hh, Bd.state]; rfl
  have N0 := Fr.nil n0
  have pre0 : ∀ t, Steps p.tables e below (s₁.setTop (mkF m 0 #[.val (.long P0), .second, .val (.int P1)] [])) t → Steps p.tables e below (s₁.setTop (entryFrame m #[(.long P0), (.int P1)] 3)) t := fun t k => castTop (ef_5 m P0 P1) k
  obtain ⟨_, _, ⟨T1, L1, k1, n1⟩, -, X1, ⟨Lc1, hQ1, l1, y1, z1⟩, st1⟩ := Jvm.LawKit.callS X0 hx (y := (⟨"java/lang/Math", "floorDiv", "(JJ)J"⟩ : MethodName)) hown (mvT hZ (hw _ (List.mem_of_getElem? (i := 26) rfl))) (mvT hZ (hw _ (List.mem_of_getElem? (i := 27) rfl))) (mvT hZ (hw _ (List.mem_of_getElem? (i := 24) rfl))) (mvT hZ (hw _ (List.mem_of_getElem? (i := 28) rfl))) (by decide) (backOf (W := 0) (rm6 l Z a0 hw [] P0 (P1.toInt64) h0 n0 Z0 (show (P1.toInt64) ≠ (0 : Int64) from hy)) hZ (hw _ (List.mem_of_getElem? (i := 28) rfl)) (hw _ (List.mem_of_getElem? (i := 24) rfl)) (by decide) (by decide)) (g := (mkF m 3 #[.val (.long P0), .second, .val (.int P1)] [(.long (P1.toInt64)), (.long P0)])) rfl (by rw [hml]; rfl) (argsL := [(.long P0), (.long (P1.toInt64))]) (rest := []) (lenOf pd_5_0 rfl) rfl (by show 2 * 0 + _ ≤ _; exact Nat.le_of_eq rfl) (hb hby d5_3) (fun _ _ => ⟨rfl, e0, (by decide : 0 + 0 ≤ _), (by decide : 0 + 0 ≤ _)⟩)
  dsimp only [Pt.U, Pt.locs, Pt.cells, Pt.slots] at X1 l1 y1 z1 st1 hQ1
  subst l1 y1 z1
  obtain ⟨rfl, N1q, K1⟩ := hQ1
  have N1 := Fr.app N0 N1q
  have pre2 : ∀ t, Steps p.tables e below (T1.setTop (mkF m 6 #[.val (.long P0), .second, .val (.int P1)] [(.long (own_fd P0 (P1.toInt64)))])) t → Steps p.tables e below (s₁.setTop (entryFrame m #[(.long P0), (.int P1)] 3)) t := fun t kt => pre0 t (by
      show Steps p.tables e below (s₁.setTop (mkF m 0 #[.val (.long P0), .second, .val (.int P1)] [])) _
      refine XS.lloadN X0.here hx rfl (hb hby d5_0) rfl ?_
      show Steps p.tables e below (s₁.setTop (mkF m 1 #[.val (.long P0), .second, .val (.int P1)] [(.long P0)])) _
      refine XS.iloadN X0.here hx rfl (hb hby d5_1) rfl ?_
      show Steps p.tables e below (s₁.setTop (mkF m 2 #[.val (.long P0), .second, .val (.int P1)] [(.int P1), (.long P0)])) _
      refine XS.i2l X0.here hx rfl (hb hby d5_2) rfl ?_
      show Steps p.tables e below (s₁.setTop (mkF m 3 #[.val (.long P0), .second, .val (.int P1)] [(.long (P1.toInt64)), (.long P0)])) _
      refine st1 _ ?_
      exact kt)
  obtain ⟨fs, hr, hrun, hended, hW, hsame⟩ := X1.leave (v := some (.long (own_fd P0 (P1.toInt64)))) (fun h => by rw [Bd.returns] at h; cases h)
  refine ⟨_, _, pre2 _ ?_, hrun, hended, _, _, rfl, ?_, ⟨_, rfl⟩, hW, hsame.mono (by decide) (by decide)⟩
  · show Steps p.tables e below (T1.setTop (mkF m 6 #[.val (.long P0), .second, .val (.int P1)] [(.long (own_fd P0 (P1.toInt64)))])) _
    exact retOut X1 hx Bd.returns rfl (Or.inr (Or.inl ⟨rfl, rfl, _, rfl⟩)) (hb hby d5_6) hr
  · show Q5 Z P0 P1 h0 n0 _ T1.heap _
    rw [K1]
    exact ⟨rfl, N1, rfl⟩
theorem d1_0 : decode prog_9_method_1_code 0 = .ok (.aload_n 0, 1) := by decide +kernel
theorem d1_1 : decode prog_9_method_1_code 1 = .ok (.invokespecial 3, 3) := by decide +kernel
theorem d1_4 : decode prog_9_method_1_code 4 = .ok (.aload_n 0, 1) := by decide +kernel
theorem d1_5 : decode prog_9_method_1_code 5 = .ok (.ldc2_w 11, 3) := by decide +kernel
theorem d1_8 : decode prog_9_method_1_code 8 = .ok (.putfield 13, 3) := by decide +kernel
theorem d1_11 : decode prog_9_method_1_code 11 = .ok (.return_, 1) := by decide +kernel
theorem pn_1 : plainName "com/example/holdfast/holdfast/NodeClock" = true := by first | (simp [plainName, overriddenIn]; done) | decide +kernel
theorem ef_1 (m : MethodId) (A0 : Addr) : entryFrame m #[(.ref A0)] 1 = mkF m 0 #[.val (.ref A0)] [] := by first | (simp [entryFrame, mkF, argsToLocals, Value.category]; done) | rfl
def Q1 (Z : State) (A0 : Addr) (W0 : Int64) (h0 : Heap) (n0 : Nat) (v : Option Value) (h : Heap) (L : List Loc) : Prop := (v = none) ∧ (Fr n0 L) ∧ (Keep h0 h [A0]) ∧ (Exa Z h A0 "com/example/holdfast/holdfast/NodeClock") ∧ (Fld Z h A0 "com/example/holdfast/holdfast/NodeClock" "leadMicros" "J" (.long (-9223372036854775808 : Int64)))
set_option maxRecDepth 65536 in
set_option maxHeartbeats 40000000 in
theorem rm1 (l : Launch) (Z : State) (a0 : Array Value) (hw : ∀ d ∈ tables_1, d.before a0 Z = true) (ws : List Jvm.Cond) (A0 : Addr) (W0 : Int64) (h0 : Heap) (n0 : Nat) (Z0 : n0 ≤ h0.size) (pm0 : Fld Z h0 A0 "com/example/holdfast/holdfast/NodeClock" "leadMicros" "J" (.long W0)) (pm1 : Exa Z h0 A0 "com/example/holdfast/holdfast/NodeClock") (g_A0 : n0 ≤ A0) :
    MetFree l (⟨"com/example/holdfast/holdfast/NodeClock", "<init>", "()V"⟩ : MethodName) (head1 (Jvm.Cond.code (⟨"com/example/holdfast/holdfast/NodeClock", "<init>", "()V"⟩ : MethodName) prog_9_method_1_code 1 none :: ws) ({ frames := 1, cells := 0, slots := 0, locals := 12 } : Room)) (fun a U => a = #[(.ref A0)] ∧ Z.Warmed39 U.vm ∧ U.heap = h0) (fun _ _ _ _ _ => True) (fun _ U o U' => ∃ v L, o = .returned v ∧ Q1 Z A0 W0 h0 n0 v U'.heap L ∧ FrameEnd U o U' L ({ frames := 1, cells := 0, slots := 0, locals := 12 } : Room).cells ({ frames := 1, cells := 0, slots := 0, locals := 12 } : Room).slots) := by
  refine MetFree.of_bodySF (plainFor_of_name pn_1) hisR ?_
  intro p e s m args below meth c s₁ Bd hml0 hP hK
  obtain ⟨rfl, hZ, hh⟩ := hP
  have hx := Bd.exec
  have hby := Bd.bytes
  have hml : c.maxLocals = 1 := hml0
  have hown : s.vm.findClass "com/example/holdfast/holdfast/NodeClock" = some m.cls := findClass_of_methodNamed Bd.named
  have hnm := (name_of_methodNamed Bd.named Bd.method).1
  have X0 : Stand p l e ({ frames := 1, cells := 0, slots := 0, locals := 12 } : Room) s m #[(.ref A0)] below meth c s₁ [] 0 0 := Stand.of_body Bd
  have e0 : s₁.heap = h0 := by rw [← hh, Bd.state]; rfl
  have N0 := Fr.nil n0
  have pre0 : ∀ t, Steps p.tables e below (s₁.setTop (mkF m 0 #[.val (.ref A0)] [])) t → Steps p.tables e below (s₁.setTop (entryFrame m #[(.ref A0)] 1)) t := fun t k => castTop (ef_1 m A0) k
  have K_0 : Keep h0 h0 [A0] := Keep.refl h0 _
  obtain ⟨T1, X1, e1, st1⟩ := initO X0 hx hZ hown (hw _ (List.mem_of_getElem? (i := 6) rfl)) (hw _ (List.mem_of_getElem? (i := 7) rfl)) (hw _ (List.mem_of_getElem? (i := 8) rfl)) e0 (g := (mkF m 1 #[.val (.ref A0)] [(.ref A0)])) rfl (by rw [hml]; rfl) rfl (hb hby d1_1) (by decide) (W := 0) (by show 2 * 0 + _ ≤ _; exact Nat.le_of_eq rfl) (by decide)
  obtain ⟨T2, h2, X2, e2, W2, st2⟩ := putF X1 hx hZ hown (host := "") (Or.inl (hw _ (List.mem_of_getElem? (i := 10) rfl))) Via.refl e1 pm0 pm1 (Or.inl (hw _ (List.mem_of_getElem? (i := 11) rfl))) (hw _ (List.mem_of_getElem? (i := 1) rfl)) (ty := .long) (by decide) rfl rfl (g := (mkF m 8 #[.val (.ref A0)] [(.long (-9223372036854775808 : Int64)), (.ref A0)])) rfl rfl (hb hby d1_8)
  have Z3 : n0 ≤ h2.size := Nat.le_trans Z0 (Nat.le_of_eq W2.size.symm)
  have K_3 : Keep h0 h2 [A0] := K_0.wr W2 (Or.inl (List.mem_of_getElem? (i := 0) rfl))
  have Fw2 : Fld Z h2 A0 "com/example/holdfast/holdfast/NodeClock" "leadMicros" "J" (.long (-9223372036854775808 : Int64)) := pm0.same W2
  have N2 := Fr.snoc X2 N0 g_A0
  have pre4 : ∀ t, Steps p.tables e below (T2.setTop (mkF m 11 #[.val (.ref A0)] [])) t → Steps p.tables e below (s₁.setTop (entryFrame m #[(.ref A0)] 1)) t := fun t kt => pre0 t (by
      show Steps p.tables e below (s₁.setTop (mkF m 0 #[.val (.ref A0)] [])) _
      refine XS.aloadN X0.here hx rfl (hb hby d1_0) rfl rfl ?_
      show Steps p.tables e below (s₁.setTop (mkF m 1 #[.val (.ref A0)] [(.ref A0)])) _
      refine st1 _ ?_
      show Steps p.tables e below (T1.setTop (mkF m 4 #[.val (.ref A0)] [])) _
      refine XS.aloadN X1.here hx rfl (hb hby d1_4) rfl rfl ?_
      show Steps p.tables e below (T1.setTop (mkF m 5 #[.val (.ref A0)] [(.ref A0)])) _
      refine X1.ldc2Long hx hown (mvT hZ (hw _ (List.mem_of_getElem? (i := 9) rfl))) (g := (mkF m 5 #[.val (.ref A0)] [(.ref A0)])) rfl (hb hby d1_5) _ ?_
      show Steps p.tables e below (T1.setTop (mkF m 8 #[.val (.ref A0)] [(.long (-9223372036854775808 : Int64)), (.ref A0)])) _
      refine st2 _ ?_
      exact kt)
  have c5 : Exa Z h2 A0 "com/example/holdfast/holdfast/NodeClock" := (pm1.wr W2)
  obtain ⟨fs, hr, hrun, hended, hW, hsame⟩ := X2.leave (v := none) (fun _ => rfl)
  refine ⟨_, _, pre4 _ ?_, hrun, hended, _, _, rfl, ?_, ⟨_, rfl⟩, hW, hsame.mono (by decide) (by decide)⟩
  · show Steps p.tables e below (T2.setTop (mkF m 11 #[.val (.ref A0)] [])) _
    exact X2.returnOut hx Bd.returns (hb hby d1_11) hr
  · show Q1 Z A0 W0 h0 n0 _ T2.heap _
    rw [e2]
    exact ⟨rfl, N2, K_3, c5, Fw2⟩
theorem d3_0 : decode prog_9_method_2_code 0 = .ok (.aload_n 0, 1) := by decide +kernel
theorem d3_1 : decode prog_9_method_2_code 1 = .ok (.getfield 13, 3) := by decide +kernel
theorem d3_4 : decode prog_9_method_2_code 4 = .ok (.ldc2_w 11, 3) := by decide +kernel
theorem d3_7 : decode prog_9_method_2_code 7 = .ok (.lcmp, 1) := by decide +kernel
theorem d3_8 : decode prog_9_method_2_code 8 = .ok (.ifCond .eq 7, 3) := by decide +kernel
theorem d3_11 : decode prog_9_method_2_code 11 = .ok (.iconst 1, 1) := by decide +kernel
theorem d3_12 : decode prog_9_method_2_code 12 = .ok (.goto 4, 3) := by decide +kernel
theorem d3_15 : decode prog_9_method_2_code 15 = .ok (.iconst 0, 1) := by decide +kernel
theorem d3_16 : decode prog_9_method_2_code 16 = .ok (.ireturn, 1) := by decide +kernel
theorem pn_3 : plainName "com/example/holdfast/holdfast/NodeClock" = true := by first | (simp [plainName, overriddenIn]; done) | decide +kernel
theorem ef_3 (m : MethodId) (A0 : Addr) : entryFrame m #[(.ref A0)] 1 = mkF m 0 #[.val (.ref A0)] [] := by first | (simp [entryFrame, mkF, argsToLocals, Value.category]; done) | rfl
def Q3 (Z : State) (A0 : Addr) (W0 : Int64) (h0 : Heap) (n0 : Nat) (v : Option Value) (h : Heap) (L : List Loc) : Prop := (v = some (.int (if ¬ (W0 = (-9223372036854775808 : Int64)) then (1 : Int32) else (0 : Int32)))) ∧ (Fr n0 L) ∧ (h = h0)
set_option maxRecDepth 65536 in
set_option maxHeartbeats 40000000 in
theorem rm3 (l : Launch) (Z : State) (a0 : Array Value) (hw : ∀ d ∈ tables_1, d.before a0 Z = true) (ws : List Jvm.Cond) (A0 : Addr) (W0 : Int64) (h0 : Heap) (n0 : Nat) (Z0 : n0 ≤ h0.size) (pm0 : Fld Z h0 A0 "com/example/holdfast/holdfast/NodeClock" "leadMicros" "J" (.long W0)) :
    MetFree l (⟨"com/example/holdfast/holdfast/NodeClock", "isKnown", "()Z"⟩ : MethodName) (head1 (Jvm.Cond.code (⟨"com/example/holdfast/holdfast/NodeClock", "isKnown", "()Z"⟩ : MethodName) prog_9_method_2_code 1 (some .boolean) :: ws) ({ frames := 0, cells := 0, slots := 0, locals := 0 } : Room)) (fun a U => a = #[(.ref A0)] ∧ Z.Warmed39 U.vm ∧ U.heap = h0) (fun _ _ _ _ _ => True) (fun _ U o U' => ∃ v L, o = .returned v ∧ Q3 Z A0 W0 h0 n0 v U'.heap L ∧ FrameEnd U o U' L ({ frames := 0, cells := 0, slots := 0, locals := 0 } : Room).cells ({ frames := 0, cells := 0, slots := 0, locals := 0 } : Room).slots) := by
  refine MetFree.of_bodySF (plainFor_of_name pn_3) hisR ?_
  intro p e s m args below meth c s₁ Bd hml0 hP hK
  obtain ⟨rfl, hZ, hh⟩ := hP
  have hx := Bd.exec
  have hby := Bd.bytes
  have hml : c.maxLocals = 1 := hml0
  have hown : s.vm.findClass "com/example/holdfast/holdfast/NodeClock" = some m.cls := findClass_of_methodNamed Bd.named
  have hnm := (name_of_methodNamed Bd.named Bd.method).1
  have X0 : Stand p l e ({ frames := 0, cells := 0, slots := 0, locals := 0 } : Room) s m #[(.ref A0)] below meth c s₁ [] 0 0 := Stand.of_body Bd
  have e0 : s₁.heap = h0 := by rw [← hh, Bd.state]; rfl
  have N0 := Fr.nil n0
  have pre0 : ∀ t, Steps p.tables e below (s₁.setTop (mkF m 0 #[.val (.ref A0)] [])) t → Steps p.tables e below (s₁.setTop (entryFrame m #[(.ref A0)] 1)) t := fun t k => castTop (ef_3 m A0) k
  obtain ⟨T1, X1, e1, st1⟩ := getF X0 hx hZ hown (host := "") (Or.inl (hw _ (List.mem_of_getElem? (i := 10) rfl))) Via.refl e0 pm0 (g := (mkF m 1 #[.val (.ref A0)] [(.ref A0)])) rfl rfl (hb hby d3_1)
  have pre2 : ∀ t, Steps p.tables e below (T1.setTop (mkF m 8 #[.val (.ref A0)] [(.int (lcmpW W0 (-9223372036854775808 : Int64)))])) t → Steps p.tables e below (s₁.setTop (entryFrame m #[(.ref A0)] 1)) t := fun t kt => pre0 t (by
      show Steps p.tables e below (s₁.setTop (mkF m 0 #[.val (.ref A0)] [])) _
      refine XS.aloadN X0.here hx rfl (hb hby d3_0) rfl rfl ?_
      show Steps p.tables e below (s₁.setTop (mkF m 1 #[.val (.ref A0)] [(.ref A0)])) _
      refine st1 _ ?_
      show Steps p.tables e below (T1.setTop (mkF m 4 #[.val (.ref A0)] [(.long W0)])) _
      refine X1.ldc2Long hx hown (mvT hZ (hw _ (List.mem_of_getElem? (i := 9) rfl))) (g := (mkF m 4 #[.val (.ref A0)] [(.long W0)])) rfl (hb hby d3_4) _ ?_
      show Steps p.tables e below (T1.setTop (mkF m 7 #[.val (.ref A0)] [(.long (-9223372036854775808 : Int64)), (.long W0)])) _
      refine XS.lcmp X1.here hx rfl (hb hby d3_7) rfl ?_
      exact kt)
  by_cases hc8 : W0 = (-9223372036854775808 : Int64)
  · have pre3 : ∀ t, Steps p.tables e below (T1.setTop (mkF m 16 #[.val (.ref A0)] [(.int (0 : Int32))])) t → Steps p.tables e below (s₁.setTop (entryFrame m #[(.ref A0)] 1)) t := fun t kt => pre2 t (by
        show Steps p.tables e below (T1.setTop (mkF m 8 #[.val (.ref A0)] [(.int (lcmpW W0 (-9223372036854775808 : Int64)))])) _
        refine XS.ifYes X1.here hx rfl (pc0 := 8) (pc' := 15) rfl (hb hby d3_8) rfl ((if0 _ _).trans (teq ((lw_eq W0 (-9223372036854775808 : Int64)).mpr hc8)).1) (by decide) (by decide) ?_
        show Steps p.tables e below (T1.setTop (mkF m 15 #[.val (.ref A0)] [])) _
        refine XS.iconst X1.here hx rfl (hb hby d3_15) ?_
        exact kt)
    obtain ⟨fs, hr, hrun, hended, hW, hsame⟩ := X1.leave (v := some (.int (0 : Int32))) (fun h => by rw [Bd.returns] at h; cases h)
    refine ⟨_, _, pre3 _ ?_, hrun, hended, _, _, rfl, ?_, ⟨_, rfl⟩, hW, hsame.mono (by decide) (by decide)⟩
    · show Steps p.tables e below (T1.setTop (mkF m 16 #[.val (.ref A0)] [(.int (0 : Int32))])) _
      exact retN X1 hx (t := .boolean) Bd.returns (by simp) (hb hby d3_16) hr
    · show Q3 Z A0 W0 h0 n0 _ T1.heap _
      rw [e1]
      exact ⟨(congrArg (fun z => some (Value.int z)) (show (0 : Int32) = (if ¬ (W0 = (-9223372036854775808 : Int64)) then (1 : Int32) else (0 : Int32)) from by simp [hc8])), N0, rfl⟩
  · have pre4 : ∀ t, Steps p.tables e below (T1.setTop (mkF m 16 #[.val (.ref A0)] [(.int (1 : Int32))])) t → Steps p.tables e below (s₁.setTop (entryFrame m #[(.ref A0)] 1)) t := fun t kt => pre2 t (by
        show Steps p.tables e below (T1.setTop (mkF m 8 #[.val (.ref A0)] [(.int (lcmpW W0 (-9223372036854775808 : Int64)))])) _
        refine XS.ifNo X1.here hx rfl (hb hby d3_8) rfl ((if0 _ _).trans (feq (fun q => hc8 ((lw_eq W0 (-9223372036854775808 : Int64)).mp q))).1) ?_
        show Steps p.tables e below (T1.setTop (mkF m 11 #[.val (.ref A0)] [])) _
        refine XS.iconst X1.here hx rfl (hb hby d3_11) ?_
        show Steps p.tables e below (T1.setTop (mkF m 12 #[.val (.ref A0)] [(.int (1 : Int32))])) _
        refine XS.goto X1.here hx rfl (pc0 := 12) (pc' := 16) rfl (hb hby d3_12) (by decide) (by decide) ?_
        exact kt)
    obtain ⟨fs, hr, hrun, hended, hW, hsame⟩ := X1.leave (v := some (.int (1 : Int32))) (fun h => by rw [Bd.returns] at h; cases h)
    refine ⟨_, _, pre4 _ ?_, hrun, hended, _, _, rfl, ?_, ⟨_, rfl⟩, hW, hsame.mono (by decide) (by decide)⟩
    · show Steps p.tables e below (T1.setTop (mkF m 16 #[.val (.ref A0)] [(.int (1 : Int32))])) _
      exact retN X1 hx (t := .boolean) Bd.returns (by simp) (hb hby d3_16) hr
    · show Q3 Z A0 W0 h0 n0 _ T1.heap _
      rw [e1]
      exact ⟨(congrArg (fun z => some (Value.int z)) (show (1 : Int32) = (if ¬ (W0 = (-9223372036854775808 : Int64)) then (1 : Int32) else (0 : Int32)) from by simp [hc8])), N0, rfl⟩
theorem d4_0 : decode prog_9_method_3_code 0 = .ok (.aload_n 0, 1) := by decide +kernel
theorem d4_1 : decode prog_9_method_3_code 1 = .ok (.lload_n 1, 1) := by decide +kernel
theorem d4_2 : decode prog_9_method_3_code 2 = .ok (.lload_n 3, 1) := by decide +kernel
theorem d4_3 : decode prog_9_method_3_code 3 = .ok (.sipush 1000, 3) := by decide +kernel
theorem d4_6 : decode prog_9_method_3_code 6 = .ok (.invokestatic 17, 3) := by decide +kernel
theorem d4_9 : decode prog_9_method_3_code 9 = .ok (.lsub, 1) := by decide +kernel
theorem d4_10 : decode prog_9_method_3_code 10 = .ok (.putfield 13, 3) := by decide +kernel
theorem d4_13 : decode prog_9_method_3_code 13 = .ok (.return_, 1) := by decide +kernel
theorem pn_4 : plainName "com/example/holdfast/holdfast/NodeClock" = true := by first | (simp [plainName, overriddenIn]; done) | decide +kernel
theorem pd_4_0 : parseMethodDescriptor "(JI)J" = some ⟨[.long, .int], some .long⟩ := by decide +kernel
theorem ef_4 (m : MethodId) (A0 : Addr) (P1 : Int64) (P2 : Int64) : entryFrame m #[(.ref A0), (.long P1), (.long P2)] 5 = mkF m 0 #[.val (.ref A0), .val (.long P1), .second, .val (.long P2), .second] [] := by first | (simp [entryFrame, mkF, argsToLocals, Value.category]; done) | rfl
def Q4 (Z : State) (A0 : Addr) (P1 : Int64) (P2 : Int64) (W0 : Int64) (h0 : Heap) (n0 : Nat) (v : Option Value) (h : Heap) (L : List Loc) : Prop := (v = none) ∧ (Fr n0 L) ∧ (Keep h0 h [A0]) ∧ (Exa Z h A0 "com/example/holdfast/holdfast/NodeClock") ∧ (Fld Z h A0 "com/example/holdfast/holdfast/NodeClock" "leadMicros" "J" (.long (P1 - (own_fd P2 ((1000 : Int32).toInt64)))))
set_option maxRecDepth 65536 in
set_option maxHeartbeats 40000000 in
theorem rm4 (l : Launch) (Z : State) (a0 : Array Value) (hw : ∀ d ∈ tables_1, d.before a0 Z = true) (ws : List Jvm.Cond) (A0 : Addr) (P1 : Int64) (P2 : Int64) (W0 : Int64) (h0 : Heap) (n0 : Nat) (Z0 : n0 ≤ h0.size) (pm0 : Fld Z h0 A0 "com/example/holdfast/holdfast/NodeClock" "leadMicros" "J" (.long W0)) (pm1 : Exa Z h0 A0 "com/example/holdfast/holdfast/NodeClock") (g_A0 : n0 ≤ A0) :
    MetFree l (⟨"com/example/holdfast/holdfast/NodeClock", "read", "(JJ)V"⟩ : MethodName) (head1 (Jvm.Cond.code (⟨"com/example/holdfast/holdfast/NodeClock", "read", "(JJ)V"⟩ : MethodName) prog_9_method_3_code 5 none :: ws) ({ frames := 2, cells := 0, slots := 0, locals := 34 } : Room)) (fun a U => a = #[(.ref A0), (.long P1), (.long P2)] ∧ Z.Warmed39 U.vm ∧ U.heap = h0) (fun _ _ _ _ _ => True) (fun _ U o U' => ∃ v L, o = .returned v ∧ Q4 Z A0 P1 P2 W0 h0 n0 v U'.heap L ∧ FrameEnd U o U' L ({ frames := 2, cells := 0, slots := 0, locals := 34 } : Room).cells ({ frames := 2, cells := 0, slots := 0, locals := 34 } : Room).slots) := by
  refine MetFree.of_bodySF (plainFor_of_name pn_4) hisR ?_
  intro p e s m args below meth c s₁ Bd hml0 hP hK
  obtain ⟨rfl, hZ, hh⟩ := hP
  have hx := Bd.exec
  have hby := Bd.bytes
  have hml : c.maxLocals = 5 := hml0
  have hown : s.vm.findClass "com/example/holdfast/holdfast/NodeClock" = some m.cls := findClass_of_methodNamed Bd.named
  have hnm := (name_of_methodNamed Bd.named Bd.method).1
  have X0 : Stand p l e ({ frames := 2, cells := 0, slots := 0, locals := 34 } : Room) s m #[(.ref A0), (.long P1), (.long P2)] below meth c s₁ [] 0 0 := Stand.of_body Bd
  have e0 : s₁.heap = h0 := by rw [← hh, Bd.state]; rfl
  have N0 := Fr.nil n0
  have pre0 : ∀ t, Steps p.tables e below (s₁.setTop (mkF m 0 #[.val (.ref A0), .val (.long P1), .second, .val (.long P2), .second] [])) t → Steps p.tables e below (s₁.setTop (entryFrame m #[(.ref A0), (.long P1), (.long P2)] 5)) t := fun t k => castTop (ef_4 m A0 P1 P2) k
  have K_0 : Keep h0 h0 [A0] := Keep.refl h0 _
  obtain ⟨_, _, ⟨T1, L1, k1, n1⟩, -, X1, ⟨Lc1, hQ1, l1, y1, z1⟩, st1⟩ := Jvm.LawKit.callS X0 hx (y := (⟨"java/lang/Math", "floorDiv", "(JI)J"⟩ : MethodName)) hown (mvT hZ (hw _ (List.mem_of_getElem? (i := 22) rfl))) (mvT hZ (hw _ (List.mem_of_getElem? (i := 23) rfl))) (mvT hZ (hw _ (List.mem_of_getElem? (i := 24) rfl))) (mvT hZ (hw _ (List.mem_of_getElem? (i := 25) rfl))) (by decide) (backOf (W := 3) (rm5 l Z a0 hw [] P2 (1000 : Int32) h0 n0 Z0 (show ((1000 : Int32).toInt64) ≠ (0 : Int64) from (by decide))) hZ (hw _ (List.mem_of_getElem? (i := 25) rfl)) (hw _ (List.mem_of_getElem? (i := 24) rfl)) (by decide) (by decide)) (g := (mkF m 6 #[.val (.ref A0), .val (.long P1), .second, .val (.long P2), .second] [(.int (1000 : Int32)), (.long P2), (.long P1), (.ref A0)])) rfl (by rw [hml]; rfl) (argsL := [(.long P2), (.int (1000 : Int32))]) (rest := [(.long P1), (.ref A0)]) (lenOf pd_4_0 rfl) rfl (by show 2 * 0 + _ ≤ _; exact Nat.le_of_eq rfl) (hb hby d4_6) (fun _ _ => ⟨rfl, e0, (by decide : 0 + 0 ≤ _), (by decide : 0 + 0 ≤ _)⟩)
  dsimp only [Pt.U, Pt.locs, Pt.cells, Pt.slots] at X1 l1 y1 z1 st1 hQ1
  subst l1 y1 z1
  obtain ⟨rfl, N1q, K1⟩ := hQ1
  have N1 := Fr.app N0 N1q
  obtain ⟨T2, h2, X2, e2, W2, st2⟩ := putF X1 hx hZ hown (host := "") (Or.inl (hw _ (List.mem_of_getElem? (i := 10) rfl))) Via.refl K1 pm0 pm1 (Or.inl (hw _ (List.mem_of_getElem? (i := 11) rfl))) (hw _ (List.mem_of_getElem? (i := 1) rfl)) (ty := .long) (by decide) rfl rfl (g := (mkF m 10 #[.val (.ref A0), .val (.long P1), .second, .val (.long P2), .second] [(.long (P1 - (own_fd P2 ((1000 : Int32).toInt64)))), (.ref A0)])) rfl rfl (hb hby d4_10)
  have Z3 : n0 ≤ h2.size := Nat.le_trans Z0 (Nat.le_of_eq W2.size.symm)
  have K_3 : Keep h0 h2 [A0] := K_0.wr W2 (Or.inl (List.mem_of_getElem? (i := 0) rfl))
  have Fw2 : Fld Z h2 A0 "com/example/holdfast/holdfast/NodeClock" "leadMicros" "J" (.long (P1 - (own_fd P2 ((1000 : Int32).toInt64)))) := pm0.same W2
  have N2 := Fr.snoc X2 N1 g_A0
  have pre4 : ∀ t, Steps p.tables e below (T2.setTop (mkF m 13 #[.val (.ref A0), .val (.long P1), .second, .val (.long P2), .second] [])) t → Steps p.tables e below (s₁.setTop (entryFrame m #[(.ref A0), (.long P1), (.long P2)] 5)) t := fun t kt => pre0 t (by
      show Steps p.tables e below (s₁.setTop (mkF m 0 #[.val (.ref A0), .val (.long P1), .second, .val (.long P2), .second] [])) _
      refine XS.aloadN X0.here hx rfl (hb hby d4_0) rfl rfl ?_
      show Steps p.tables e below (s₁.setTop (mkF m 1 #[.val (.ref A0), .val (.long P1), .second, .val (.long P2), .second] [(.ref A0)])) _
      refine XS.lloadN X0.here hx rfl (hb hby d4_1) rfl ?_
      show Steps p.tables e below (s₁.setTop (mkF m 2 #[.val (.ref A0), .val (.long P1), .second, .val (.long P2), .second] [(.long P1), (.ref A0)])) _
      refine XS.lloadN X0.here hx rfl (hb hby d4_2) rfl ?_
      show Steps p.tables e below (s₁.setTop (mkF m 3 #[.val (.ref A0), .val (.long P1), .second, .val (.long P2), .second] [(.long P2), (.long P1), (.ref A0)])) _
      refine XS.sipush X0.here hx rfl (hb hby d4_3) ?_
      show Steps p.tables e below (s₁.setTop (mkF m 6 #[.val (.ref A0), .val (.long P1), .second, .val (.long P2), .second] [(.int (1000 : Int32)), (.long P2), (.long P1), (.ref A0)])) _
      refine st1 _ ?_
      show Steps p.tables e below (T1.setTop (mkF m 9 #[.val (.ref A0), .val (.long P1), .second, .val (.long P2), .second] [(.long (own_fd P2 ((1000 : Int32).toInt64))), (.long P1), (.ref A0)])) _
      refine XS.lsub X1.here hx rfl (hb hby d4_9) rfl ?_
      show Steps p.tables e below (T1.setTop (mkF m 10 #[.val (.ref A0), .val (.long P1), .second, .val (.long P2), .second] [(.long (P1 - (own_fd P2 ((1000 : Int32).toInt64)))), (.ref A0)])) _
      refine st2 _ ?_
      exact kt)
  have c5 : Exa Z h2 A0 "com/example/holdfast/holdfast/NodeClock" := (pm1.wr W2)
  obtain ⟨fs, hr, hrun, hended, hW, hsame⟩ := X2.leave (v := none) (fun _ => rfl)
  refine ⟨_, _, pre4 _ ?_, hrun, hended, _, _, rfl, ?_, ⟨_, rfl⟩, hW, hsame.mono (by decide) (by decide)⟩
  · show Steps p.tables e below (T2.setTop (mkF m 13 #[.val (.ref A0), .val (.long P1), .second, .val (.long P2), .second] [])) _
    exact X2.returnOut hx Bd.returns (hb hby d4_13) hr
  · show Q4 Z A0 P1 P2 W0 h0 n0 _ T2.heap _
    rw [e2]
    exact ⟨rfl, N2, K_3, c5, Fw2⟩
theorem d8_0 : decode prog_9_method_4_code 0 = .ok (.aload_n 0, 1) := by decide +kernel
theorem d8_1 : decode prog_9_method_4_code 1 = .ok (.getfield 13, 3) := by decide +kernel
theorem d8_4 : decode prog_9_method_4_code 4 = .ok (.lstore 5, 2) := by decide +kernel
theorem d8_6 : decode prog_9_method_4_code 6 = .ok (.lload 5, 2) := by decide +kernel
theorem d8_8 : decode prog_9_method_4_code 8 = .ok (.ldc2_w 11, 3) := by decide +kernel
theorem d8_11 : decode prog_9_method_4_code 11 = .ok (.lcmp, 1) := by decide +kernel
theorem d8_12 : decode prog_9_method_4_code 12 = .ok (.ifCond .ne 13, 3) := by decide +kernel
theorem d8_25 : decode prog_9_method_4_code 25 = .ok (.lload_n 1, 1) := by decide +kernel
theorem d8_26 : decode prog_9_method_4_code 26 = .ok (.sipush 1000, 3) := by decide +kernel
theorem d8_29 : decode prog_9_method_4_code 29 = .ok (.invokestatic 17, 3) := by decide +kernel
theorem d8_32 : decode prog_9_method_4_code 32 = .ok (.lload_n 3, 1) := by decide +kernel
theorem d8_33 : decode prog_9_method_4_code 33 = .ok (.sipush 1000, 3) := by decide +kernel
theorem d8_36 : decode prog_9_method_4_code 36 = .ok (.invokestatic 17, 3) := by decide +kernel
theorem d8_39 : decode prog_9_method_4_code 39 = .ok (.ladd, 1) := by decide +kernel
theorem d8_40 : decode prog_9_method_4_code 40 = .ok (.lload 5, 2) := by decide +kernel
theorem d8_42 : decode prog_9_method_4_code 42 = .ok (.ladd, 1) := by decide +kernel
theorem d8_43 : decode prog_9_method_4_code 43 = .ok (.lreturn, 1) := by decide +kernel
theorem pn_8 : plainName "com/example/holdfast/holdfast/NodeClock" = true := by first | (simp [plainName, overriddenIn]; done) | decide +kernel
theorem pd_8_0 : parseMethodDescriptor "(JI)J" = some ⟨[.long, .int], some .long⟩ := by decide +kernel
theorem ef_8 (m : MethodId) (A0 : Addr) (P1 : Int64) (P2 : Int64) : entryFrame m #[(.ref A0), (.long P1), (.long P2)] 7 = mkF m 0 #[.val (.ref A0), .val (.long P1), .second, .val (.long P2), .second, .unset, .unset] [] := by first | (simp [entryFrame, mkF, argsToLocals, Value.category]; done) | rfl
def Q8 (Z : State) (A0 : Addr) (P1 : Int64) (P2 : Int64) (W0 : Int64) (h0 : Heap) (n0 : Nat) (v : Option Value) (h : Heap) (L : List Loc) : Prop := (v = some (.long (((own_fd P1 ((1000 : Int32).toInt64)) + (own_fd P2 ((1000 : Int32).toInt64))) + W0))) ∧ (Fr n0 L) ∧ (h = h0)
set_option maxRecDepth 65536 in
set_option maxHeartbeats 40000000 in
theorem rm8 (l : Launch) (Z : State) (a0 : Array Value) (hw : ∀ d ∈ tables_1, d.before a0 Z = true) (ws : List Jvm.Cond) (A0 : Addr) (P1 : Int64) (P2 : Int64) (W0 : Int64) (h0 : Heap) (n0 : Nat) (Z0 : n0 ≤ h0.size) (pm0 : Fld Z h0 A0 "com/example/holdfast/holdfast/NodeClock" "leadMicros" "J" (.long W0)) (hne : ¬ (W0 = (-9223372036854775808 : Int64))) :
    MetFree l (⟨"com/example/holdfast/holdfast/NodeClock", "deadline", "(JJ)J"⟩ : MethodName) (head1 (Jvm.Cond.code (⟨"com/example/holdfast/holdfast/NodeClock", "deadline", "(JJ)J"⟩ : MethodName) prog_9_method_4_code 7 (some .long) :: ws) ({ frames := 2, cells := 0, slots := 0, locals := 33 } : Room)) (fun a U => a = #[(.ref A0), (.long P1), (.long P2)] ∧ Z.Warmed39 U.vm ∧ U.heap = h0) (fun _ _ _ _ _ => True) (fun _ U o U' => ∃ v L, o = .returned v ∧ Q8 Z A0 P1 P2 W0 h0 n0 v U'.heap L ∧ FrameEnd U o U' L ({ frames := 2, cells := 0, slots := 0, locals := 33 } : Room).cells ({ frames := 2, cells := 0, slots := 0, locals := 33 } : Room).slots) := by
  refine MetFree.of_bodySF (plainFor_of_name pn_8) hisR ?_
  intro p e s m args below meth c s₁ Bd hml0 hP hK
  obtain ⟨rfl, hZ, hh⟩ := hP
  have hx := Bd.exec
  have hby := Bd.bytes
  have hml : c.maxLocals = 7 := hml0
  have hown : s.vm.findClass "com/example/holdfast/holdfast/NodeClock" = some m.cls := findClass_of_methodNamed Bd.named
  have hnm := (name_of_methodNamed Bd.named Bd.method).1
  have X0 : Stand p l e ({ frames := 2, cells := 0, slots := 0, locals := 33 } : Room) s m #[(.ref A0), (.long P1), (.long P2)] below meth c s₁ [] 0 0 := Stand.of_body Bd
  have e0 : s₁.heap = h0 := by rw [← hh, Bd.state]; rfl
  have N0 := Fr.nil n0
  have pre0 : ∀ t, Steps p.tables e below (s₁.setTop (mkF m 0 #[.val (.ref A0), .val (.long P1), .second, .val (.long P2), .second, .unset, .unset] [])) t → Steps p.tables e below (s₁.setTop (entryFrame m #[(.ref A0), (.long P1), (.long P2)] 7)) t := fun t k => castTop (ef_8 m A0 P1 P2) k
  obtain ⟨T1, X1, e1, st1⟩ := getF X0 hx hZ hown (host := "") (Or.inl (hw _ (List.mem_of_getElem? (i := 10) rfl))) Via.refl e0 pm0 (g := (mkF m 1 #[.val (.ref A0), .val (.long P1), .second, .val (.long P2), .second, .unset, .unset] [(.ref A0)])) rfl rfl (hb hby d8_1)
  obtain ⟨_, _, ⟨T2, L2, k2, n2⟩, -, X2, ⟨Lc2, hQ2, l2, y2, z2⟩, st2⟩ := Jvm.LawKit.callS X1 hx (y := (⟨"java/lang/Math", "floorDiv", "(JI)J"⟩ : MethodName)) hown (mvT hZ (hw _ (List.mem_of_getElem? (i := 22) rfl))) (mvT hZ (hw _ (List.mem_of_getElem? (i := 23) rfl))) (mvT hZ (hw _ (List.mem_of_getElem? (i := 24) rfl))) (mvT hZ (hw _ (List.mem_of_getElem? (i := 25) rfl))) (by decide) (backOf (W := 0) (rm5 l Z a0 hw [] P1 (1000 : Int32) h0 n0 Z0 (show ((1000 : Int32).toInt64) ≠ (0 : Int64) from (by decide))) hZ (hw _ (List.mem_of_getElem? (i := 25) rfl)) (hw _ (List.mem_of_getElem? (i := 24) rfl)) (by decide) (by decide)) (g := (mkF m 29 #[.val (.ref A0), .val (.long P1), .second, .val (.long P2), .second, .val (.long W0), .second] [(.int (1000 : Int32)), (.long P1)])) rfl (by rw [hml]; rfl) (argsL := [(.long P1), (.int (1000 : Int32))]) (rest := []) (lenOf pd_8_0 rfl) rfl (by show 2 * 0 + _ ≤ _; exact Nat.le_of_eq rfl) (hb hby d8_29) (fun _ _ => ⟨rfl, e1, (by decide : 0 + 0 ≤ _), (by decide : 0 + 0 ≤ _)⟩)
  dsimp only [Pt.U, Pt.locs, Pt.cells, Pt.slots] at X2 l2 y2 z2 st2 hQ2
  subst l2 y2 z2
  obtain ⟨rfl, N2q, K2⟩ := hQ2
  have N2 := Fr.app N0 N2q
  obtain ⟨_, _, ⟨T3, L3, k3, n3⟩, -, X3, ⟨Lc3, hQ3, l3, y3, z3⟩, st3⟩ := Jvm.LawKit.callS X2 hx (y := (⟨"java/lang/Math", "floorDiv", "(JI)J"⟩ : MethodName)) hown (mvT hZ (hw _ (List.mem_of_getElem? (i := 22) rfl))) (mvT hZ (hw _ (List.mem_of_getElem? (i := 23) rfl))) (mvT hZ (hw _ (List.mem_of_getElem? (i := 24) rfl))) (mvT hZ (hw _ (List.mem_of_getElem? (i := 25) rfl))) (by decide) (backOf (W := 2) (rm5 l Z a0 hw [] P2 (1000 : Int32) h0 n0 Z0 (show ((1000 : Int32).toInt64) ≠ (0 : Int64) from (by decide))) hZ (hw _ (List.mem_of_getElem? (i := 25) rfl)) (hw _ (List.mem_of_getElem? (i := 24) rfl)) (by decide) (by decide)) (g := (mkF m 36 #[.val (.ref A0), .val (.long P1), .second, .val (.long P2), .second, .val (.long W0), .second] [(.int (1000 : Int32)), (.long P2), (.long (own_fd P1 ((1000 : Int32).toInt64)))])) rfl (by rw [hml]; rfl) (argsL := [(.long P2), (.int (1000 : Int32))]) (rest := [(.long (own_fd P1 ((1000 : Int32).toInt64)))]) (lenOf pd_8_0 rfl) rfl (by show 2 * 0 + _ ≤ _; exact Nat.le_of_eq rfl) (hb hby d8_36) (fun _ _ => ⟨rfl, K2, (by decide : 0 + 0 ≤ _), (by decide : 0 + 0 ≤ _)⟩)
  dsimp only [Pt.U, Pt.locs, Pt.cells, Pt.slots] at X3 l3 y3 z3 st3 hQ3
  subst l3 y3 z3
  obtain ⟨rfl, N3q, K3⟩ := hQ3
  have N3 := Fr.app N2 N3q
  have pre4 : ∀ t, Steps p.tables e below (T3.setTop (mkF m 43 #[.val (.ref A0), .val (.long P1), .second, .val (.long P2), .second, .val (.long W0), .second] [(.long (((own_fd P1 ((1000 : Int32).toInt64)) + (own_fd P2 ((1000 : Int32).toInt64))) + W0))])) t → Steps p.tables e below (s₁.setTop (entryFrame m #[(.ref A0), (.long P1), (.long P2)] 7)) t := fun t kt => pre0 t (by
      show Steps p.tables e below (s₁.setTop (mkF m 0 #[.val (.ref A0), .val (.long P1), .second, .val (.long P2), .second, .unset, .unset] [])) _
      refine XS.aloadN X0.here hx rfl (hb hby d8_0) rfl rfl ?_
      show Steps p.tables e below (s₁.setTop (mkF m 1 #[.val (.ref A0), .val (.long P1), .second, .val (.long P2), .second, .unset, .unset] [(.ref A0)])) _
      refine st1 _ ?_
      show Steps p.tables e below (T1.setTop (mkF m 4 #[.val (.ref A0), .val (.long P1), .second, .val (.long P2), .second, .unset, .unset] [(.long W0)])) _
      refine XS.lstore X1.here hx rfl (hb hby d8_4) rfl (l' := #[.val (.ref A0), .val (.long P1), .second, .val (.long P2), .second, .val (.long W0), .second]) rfl ?_
      show Steps p.tables e below (T1.setTop (mkF m 6 #[.val (.ref A0), .val (.long P1), .second, .val (.long P2), .second, .val (.long W0), .second] [])) _
      refine XS.lload X1.here hx rfl (hb hby d8_6) rfl ?_
      show Steps p.tables e below (T1.setTop (mkF m 8 #[.val (.ref A0), .val (.long P1), .second, .val (.long P2), .second, .val (.long W0), .second] [(.long W0)])) _
      refine X1.ldc2Long hx hown (mvT hZ (hw _ (List.mem_of_getElem? (i := 9) rfl))) (g := (mkF m 8 #[.val (.ref A0), .val (.long P1), .second, .val (.long P2), .second, .val (.long W0), .second] [(.long W0)])) rfl (hb hby d8_8) _ ?_
      show Steps p.tables e below (T1.setTop (mkF m 11 #[.val (.ref A0), .val (.long P1), .second, .val (.long P2), .second, .val (.long W0), .second] [(.long (-9223372036854775808 : Int64)), (.long W0)])) _
      refine XS.lcmp X1.here hx rfl (hb hby d8_11) rfl ?_
      show Steps p.tables e below (T1.setTop (mkF m 12 #[.val (.ref A0), .val (.long P1), .second, .val (.long P2), .second, .val (.long W0), .second] [(.int (lcmpW W0 (-9223372036854775808 : Int64)))])) _
      refine XS.ifYes X1.here hx rfl (pc0 := 12) (pc' := 25) rfl (hb hby d8_12) rfl ((if0 _ _).trans (feq (fun q => (show ¬ (W0 = (-9223372036854775808 : Int64)) from hne) ((lw_eq W0 (-9223372036854775808 : Int64)).mp q))).2) (by decide) (by decide) ?_
      show Steps p.tables e below (T1.setTop (mkF m 25 #[.val (.ref A0), .val (.long P1), .second, .val (.long P2), .second, .val (.long W0), .second] [])) _
      refine XS.lloadN X1.here hx rfl (hb hby d8_25) rfl ?_
      show Steps p.tables e below (T1.setTop (mkF m 26 #[.val (.ref A0), .val (.long P1), .second, .val (.long P2), .second, .val (.long W0), .second] [(.long P1)])) _
      refine XS.sipush X1.here hx rfl (hb hby d8_26) ?_
      show Steps p.tables e below (T1.setTop (mkF m 29 #[.val (.ref A0), .val (.long P1), .second, .val (.long P2), .second, .val (.long W0), .second] [(.int (1000 : Int32)), (.long P1)])) _
      refine st2 _ ?_
      show Steps p.tables e below (T2.setTop (mkF m 32 #[.val (.ref A0), .val (.long P1), .second, .val (.long P2), .second, .val (.long W0), .second] [(.long (own_fd P1 ((1000 : Int32).toInt64)))])) _
      refine XS.lloadN X2.here hx rfl (hb hby d8_32) rfl ?_
      show Steps p.tables e below (T2.setTop (mkF m 33 #[.val (.ref A0), .val (.long P1), .second, .val (.long P2), .second, .val (.long W0), .second] [(.long P2), (.long (own_fd P1 ((1000 : Int32).toInt64)))])) _
      refine XS.sipush X2.here hx rfl (hb hby d8_33) ?_
      show Steps p.tables e below (T2.setTop (mkF m 36 #[.val (.ref A0), .val (.long P1), .second, .val (.long P2), .second, .val (.long W0), .second] [(.int (1000 : Int32)), (.long P2), (.long (own_fd P1 ((1000 : Int32).toInt64)))])) _
      refine st3 _ ?_
      show Steps p.tables e below (T3.setTop (mkF m 39 #[.val (.ref A0), .val (.long P1), .second, .val (.long P2), .second, .val (.long W0), .second] [(.long (own_fd P2 ((1000 : Int32).toInt64))), (.long (own_fd P1 ((1000 : Int32).toInt64)))])) _
      refine XS.ladd X3.here hx rfl (hb hby d8_39) rfl ?_
      show Steps p.tables e below (T3.setTop (mkF m 40 #[.val (.ref A0), .val (.long P1), .second, .val (.long P2), .second, .val (.long W0), .second] [(.long ((own_fd P1 ((1000 : Int32).toInt64)) + (own_fd P2 ((1000 : Int32).toInt64))))])) _
      refine XS.lload X3.here hx rfl (hb hby d8_40) rfl ?_
      show Steps p.tables e below (T3.setTop (mkF m 42 #[.val (.ref A0), .val (.long P1), .second, .val (.long P2), .second, .val (.long W0), .second] [(.long W0), (.long ((own_fd P1 ((1000 : Int32).toInt64)) + (own_fd P2 ((1000 : Int32).toInt64))))])) _
      refine XS.ladd X3.here hx rfl (hb hby d8_42) rfl ?_
      exact kt)
  obtain ⟨fs, hr, hrun, hended, hW, hsame⟩ := X3.leave (v := some (.long (((own_fd P1 ((1000 : Int32).toInt64)) + (own_fd P2 ((1000 : Int32).toInt64))) + W0))) (fun h => by rw [Bd.returns] at h; cases h)
  refine ⟨_, _, pre4 _ ?_, hrun, hended, _, _, rfl, ?_, ⟨_, rfl⟩, hW, hsame.mono (by decide) (by decide)⟩
  · show Steps p.tables e below (T3.setTop (mkF m 43 #[.val (.ref A0), .val (.long P1), .second, .val (.long P2), .second, .val (.long W0), .second] [(.long (((own_fd P1 ((1000 : Int32).toInt64)) + (own_fd P2 ((1000 : Int32).toInt64))) + W0))])) _
    exact retOut X3 hx Bd.returns rfl (Or.inr (Or.inl ⟨rfl, rfl, _, rfl⟩)) (hb hby d8_43) hr
  · show Q8 Z A0 P1 P2 W0 h0 n0 _ T3.heap _
    rw [K3]
    exact ⟨rfl, N3, rfl⟩
theorem d7_0 : decode method_2_code 0 = .ok (.lload_n 0, 1) := by decide +kernel
theorem d7_1 : decode method_2_code 1 = .ok (.ldc2_w 7, 3) := by decide +kernel
theorem d7_4 : decode method_2_code 4 = .ok (.ldiv, 1) := by decide +kernel
theorem d7_5 : decode method_2_code 5 = .ok (.lstore_n 2, 1) := by decide +kernel
theorem d7_6 : decode method_2_code 6 = .ok (.lload_n 0, 1) := by decide +kernel
theorem d7_7 : decode method_2_code 7 = .ok (.ldc2_w 7, 3) := by decide +kernel
theorem d7_10 : decode method_2_code 10 = .ok (.lrem, 1) := by decide +kernel
theorem d7_11 : decode method_2_code 11 = .ok (.lconst 0, 1) := by decide +kernel
theorem d7_12 : decode method_2_code 12 = .ok (.lcmp, 1) := by decide +kernel
theorem d7_13 : decode method_2_code 13 = .ok (.ifCond .ge 7, 3) := by decide +kernel
theorem d7_16 : decode method_2_code 16 = .ok (.lload_n 2, 1) := by decide +kernel
theorem d7_17 : decode method_2_code 17 = .ok (.lconst 1, 1) := by decide +kernel
theorem d7_18 : decode method_2_code 18 = .ok (.lsub, 1) := by decide +kernel
theorem d7_19 : decode method_2_code 19 = .ok (.lstore_n 2, 1) := by decide +kernel
theorem d7_20 : decode method_2_code 20 = .ok (.lload_n 2, 1) := by decide +kernel
theorem d7_21 : decode method_2_code 21 = .ok (.lreturn, 1) := by decide +kernel
theorem pn_7 : plainName "com/example/holdfast/holdfast/NodeClockReadPinLaw" = true := by first | (simp [plainName, overriddenIn]; done) | decide +kernel
theorem ef_7 (m : MethodId) (P0 : Int64) : entryFrame m #[(.long P0)] 4 = mkF m 0 #[.val (.long P0), .second, .unset, .unset] [] := by first | (simp [entryFrame, mkF, argsToLocals, Value.category]; done) | rfl
def Q7 (Z : State) (P0 : Int64) (h0 : Heap) (n0 : Nat) (v : Option Value) (h : Heap) (L : List Loc) : Prop := (v = some (.long (own_fm P0))) ∧ (Fr n0 L) ∧ (h = h0)
set_option maxRecDepth 65536 in
set_option maxHeartbeats 40000000 in
theorem rm7 (l : Launch) (Z : State) (a0 : Array Value) (hw : ∀ d ∈ tables_1, d.before a0 Z = true) (ws : List Jvm.Cond) (P0 : Int64) (h0 : Heap) (n0 : Nat) (Z0 : n0 ≤ h0.size) :
    MetFree l (⟨"com/example/holdfast/holdfast/NodeClockReadPinLaw", "floorMicros", "(J)J"⟩ : MethodName) (head1 (Jvm.Cond.code (⟨"com/example/holdfast/holdfast/NodeClockReadPinLaw", "floorMicros", "(J)J"⟩ : MethodName) method_2_code 4 (some .long) :: ws) ({ frames := 0, cells := 0, slots := 0, locals := 0 } : Room)) (fun a U => a = #[(.long P0)] ∧ Z.Warmed39 U.vm ∧ U.heap = h0) (fun _ _ _ _ _ => True) (fun _ U o U' => ∃ v L, o = .returned v ∧ Q7 Z P0 h0 n0 v U'.heap L ∧ FrameEnd U o U' L ({ frames := 0, cells := 0, slots := 0, locals := 0 } : Room).cells ({ frames := 0, cells := 0, slots := 0, locals := 0 } : Room).slots) := by
  refine MetFree.of_bodySF (plainFor_of_name pn_7) hisR ?_
  intro p e s m args below meth c s₁ Bd hml0 hP hK
  obtain ⟨rfl, hZ, hh⟩ := hP
  have hx := Bd.exec
  have hby := Bd.bytes
  have hml : c.maxLocals = 4 := hml0
  have hown : s.vm.findClass "com/example/holdfast/holdfast/NodeClockReadPinLaw" = some m.cls := findClass_of_methodNamed Bd.named
  have hnm := (name_of_methodNamed Bd.named Bd.method).1
  have X0 : Stand p l e ({ frames := 0, cells := 0, slots := 0, locals := 0 } : Room) s m #[(.long P0)] below meth c s₁ [] 0 0 := Stand.of_body Bd
  have e0 : s₁.heap = h0 := by rw [← hh, Bd.state]; rfl
  have N0 := Fr.nil n0
  have pre0 : ∀ t, Steps p.tables e below (s₁.setTop (mkF m 0 #[.val (.long P0), .second, .unset, .unset] [])) t → Steps p.tables e below (s₁.setTop (entryFrame m #[(.long P0)] 4)) t := fun t k => castTop (ef_7 m P0) k
  have pre1 : ∀ t, Steps p.tables e below (s₁.setTop (mkF m 13 #[.val (.long P0), .second, .val (.long (P0 / (1000 : Int64))), .second] [(.int (lcmpW (P0 - (P0 / (1000 : Int64)) * (1000 : Int64)) (0 : Int64)))])) t → Steps p.tables e below (s₁.setTop (entryFrame m #[(.long P0)] 4)) t := fun t kt => pre0 t (by
      show Steps p.tables e below (s₁.setTop (mkF m 0 #[.val (.long P0), .second, .unset, .unset] [])) _
      refine XS.lloadN X0.here hx rfl (hb hby d7_0) rfl ?_
      show Steps p.tables e below (s₁.setTop (mkF m 1 #[.val (.long P0), .second, .unset, .unset] [(.long P0)])) _
      refine X0.ldc2Long hx hown (mvT hZ (hw _ (List.mem_of_getElem? (i := 33) rfl))) (g := (mkF m 1 #[.val (.long P0), .second, .unset, .unset] [(.long P0)])) rfl (hb hby d7_1) _ ?_
      show Steps p.tables e below (s₁.setTop (mkF m 4 #[.val (.long P0), .second, .unset, .unset] [(.long (1000 : Int64)), (.long P0)])) _
      refine XS.ldiv X0.here hx rfl (hb hby d7_4) rfl (by decide) ?_
      show Steps p.tables e below (s₁.setTop (mkF m 5 #[.val (.long P0), .second, .unset, .unset] [(.long (P0 / (1000 : Int64)))])) _
      refine XS.lstoreN X0.here hx rfl (hb hby d7_5) rfl (l' := #[.val (.long P0), .second, .val (.long (P0 / (1000 : Int64))), .second]) rfl ?_
      show Steps p.tables e below (s₁.setTop (mkF m 6 #[.val (.long P0), .second, .val (.long (P0 / (1000 : Int64))), .second] [])) _
      refine XS.lloadN X0.here hx rfl (hb hby d7_6) rfl ?_
      show Steps p.tables e below (s₁.setTop (mkF m 7 #[.val (.long P0), .second, .val (.long (P0 / (1000 : Int64))), .second] [(.long P0)])) _
      refine X0.ldc2Long hx hown (mvT hZ (hw _ (List.mem_of_getElem? (i := 33) rfl))) (g := (mkF m 7 #[.val (.long P0), .second, .val (.long (P0 / (1000 : Int64))), .second] [(.long P0)])) rfl (hb hby d7_7) _ ?_
      show Steps p.tables e below (s₁.setTop (mkF m 10 #[.val (.long P0), .second, .val (.long (P0 / (1000 : Int64))), .second] [(.long (1000 : Int64)), (.long P0)])) _
      refine XS.lrem X0.here hx rfl (hb hby d7_10) rfl (by decide) ?_
      show Steps p.tables e below (s₁.setTop (mkF m 11 #[.val (.long P0), .second, .val (.long (P0 / (1000 : Int64))), .second] [(.long (P0 - (P0 / (1000 : Int64)) * (1000 : Int64)))])) _
      refine XS.lconst X0.here hx rfl (hb hby d7_11) ?_
      show Steps p.tables e below (s₁.setTop (mkF m 12 #[.val (.long P0), .second, .val (.long (P0 / (1000 : Int64))), .second] [(.long (0 : Int64)), (.long (P0 - (P0 / (1000 : Int64)) * (1000 : Int64)))])) _
      refine XS.lcmp X0.here hx rfl (hb hby d7_12) rfl ?_
      exact kt)
  by_cases hc13 : (P0 - (P0 / (1000 : Int64)) * (1000 : Int64)) < (0 : Int64)
  · have pre2 : ∀ t, Steps p.tables e below (s₁.setTop (mkF m 21 #[.val (.long P0), .second, .val (.long ((P0 / (1000 : Int64)) - (1 : Int64))), .second] [(.long ((P0 / (1000 : Int64)) - (1 : Int64)))])) t → Steps p.tables e below (s₁.setTop (entryFrame m #[(.long P0)] 4)) t := fun t kt => pre1 t (by
        show Steps p.tables e below (s₁.setTop (mkF m 13 #[.val (.long P0), .second, .val (.long (P0 / (1000 : Int64))), .second] [(.int (lcmpW (P0 - (P0 / (1000 : Int64)) * (1000 : Int64)) (0 : Int64)))])) _
        refine XS.ifNo X0.here hx rfl (hb hby d7_13) rfl ((if0 _ _).trans (tlt ((lw_lt (P0 - (P0 / (1000 : Int64)) * (1000 : Int64)) (0 : Int64)).mpr hc13)).2.1) ?_
        show Steps p.tables e below (s₁.setTop (mkF m 16 #[.val (.long P0), .second, .val (.long (P0 / (1000 : Int64))), .second] [])) _
        refine XS.lloadN X0.here hx rfl (hb hby d7_16) rfl ?_
        show Steps p.tables e below (s₁.setTop (mkF m 17 #[.val (.long P0), .second, .val (.long (P0 / (1000 : Int64))), .second] [(.long (P0 / (1000 : Int64)))])) _
        refine XS.lconst X0.here hx rfl (hb hby d7_17) ?_
        show Steps p.tables e below (s₁.setTop (mkF m 18 #[.val (.long P0), .second, .val (.long (P0 / (1000 : Int64))), .second] [(.long (1 : Int64)), (.long (P0 / (1000 : Int64)))])) _
        refine XS.lsub X0.here hx rfl (hb hby d7_18) rfl ?_
        show Steps p.tables e below (s₁.setTop (mkF m 19 #[.val (.long P0), .second, .val (.long (P0 / (1000 : Int64))), .second] [(.long ((P0 / (1000 : Int64)) - (1 : Int64)))])) _
        refine XS.lstoreN X0.here hx rfl (hb hby d7_19) rfl (l' := #[.val (.long P0), .second, .val (.long ((P0 / (1000 : Int64)) - (1 : Int64))), .second]) rfl ?_
        show Steps p.tables e below (s₁.setTop (mkF m 20 #[.val (.long P0), .second, .val (.long ((P0 / (1000 : Int64)) - (1 : Int64))), .second] [])) _
        refine XS.lloadN X0.here hx rfl (hb hby d7_20) rfl ?_
        exact kt)
    obtain ⟨fs, hr, hrun, hended, hW, hsame⟩ := X0.leave (v := some (.long ((P0 / (1000 : Int64)) - (1 : Int64)))) (fun h => by rw [Bd.returns] at h; cases h)
    refine ⟨_, _, pre2 _ ?_, hrun, hended, _, _, rfl, ?_, ⟨_, rfl⟩, hW, hsame.mono (by decide) (by decide)⟩
    · show Steps p.tables e below (s₁.setTop (mkF m 21 #[.val (.long P0), .second, .val (.long ((P0 / (1000 : Int64)) - (1 : Int64))), .second] [(.long ((P0 / (1000 : Int64)) - (1 : Int64)))])) _
      exact retOut X0 hx Bd.returns rfl (Or.inr (Or.inl ⟨rfl, rfl, _, rfl⟩)) (hb hby d7_21) hr
    · show Q7 Z P0 h0 n0 _ s₁.heap _
      rw [e0]
      exact ⟨(congrArg (fun z => some (Value.long z)) (show ((P0 / (1000 : Int64)) - (1 : Int64)) = (own_fm P0) from by unfold own_fm; rw [if_pos hc13])), N0, rfl⟩
  · have pre3 : ∀ t, Steps p.tables e below (s₁.setTop (mkF m 21 #[.val (.long P0), .second, .val (.long (P0 / (1000 : Int64))), .second] [(.long (P0 / (1000 : Int64)))])) t → Steps p.tables e below (s₁.setTop (entryFrame m #[(.long P0)] 4)) t := fun t kt => pre1 t (by
        show Steps p.tables e below (s₁.setTop (mkF m 13 #[.val (.long P0), .second, .val (.long (P0 / (1000 : Int64))), .second] [(.int (lcmpW (P0 - (P0 / (1000 : Int64)) * (1000 : Int64)) (0 : Int64)))])) _
        refine XS.ifYes X0.here hx rfl (pc0 := 13) (pc' := 20) rfl (hb hby d7_13) rfl ((if0 _ _).trans (flt (fun q => hc13 ((lw_lt (P0 - (P0 / (1000 : Int64)) * (1000 : Int64)) (0 : Int64)).mp q))).2.1) (by decide) (by decide) ?_
        show Steps p.tables e below (s₁.setTop (mkF m 20 #[.val (.long P0), .second, .val (.long (P0 / (1000 : Int64))), .second] [])) _
        refine XS.lloadN X0.here hx rfl (hb hby d7_20) rfl ?_
        exact kt)
    obtain ⟨fs, hr, hrun, hended, hW, hsame⟩ := X0.leave (v := some (.long (P0 / (1000 : Int64)))) (fun h => by rw [Bd.returns] at h; cases h)
    refine ⟨_, _, pre3 _ ?_, hrun, hended, _, _, rfl, ?_, ⟨_, rfl⟩, hW, hsame.mono (by decide) (by decide)⟩
    · show Steps p.tables e below (s₁.setTop (mkF m 21 #[.val (.long P0), .second, .val (.long (P0 / (1000 : Int64))), .second] [(.long (P0 / (1000 : Int64)))])) _
      exact retOut X0 hx Bd.returns rfl (Or.inr (Or.inl ⟨rfl, rfl, _, rfl⟩)) (hb hby d7_21) hr
    · show Q7 Z P0 h0 n0 _ s₁.heap _
      rw [e0]
      exact ⟨(congrArg (fun z => some (Value.long z)) (show (P0 / (1000 : Int64)) = (own_fm P0) from by unfold own_fm; rw [if_neg hc13])), N0, rfl⟩
theorem own_facts (x : Int64) : ((x ^^^ ((1000 : Int32).toInt64)) < (0 : Int64) ↔ x.toInt < 0) ∧ (0 ≤ x.toInt → ¬ ((x - (x / (1000 : Int64)) * (1000 : Int64)) < (0 : Int64))) ∧ (x.toInt < 0 → ((x - (x / (1000 : Int64)) * (1000 : Int64)) < (0 : Int64) ↔ ¬ (((x / (1000 : Int64)) * (1000 : Int64)) = x))) := by
  have h1 := c_xorSL x ((1000 : Int32).toInt64)
  have hm : (((1000 : Int32).toInt64)).toInt = 1000 := by decide
  have h0 : (0 : Int64).toInt = 0 := rfl
  have hr := c_lrem x (1000 : Int64) 1000 (by decide)
  have hq : ((x - (x / (1000 : Int64)) * (1000 : Int64)).toInt = 0) ↔ (((x / (1000 : Int64)) * (1000 : Int64)) = x) := by
    constructor
    · intro q
      have q' : x - (x / (1000 : Int64)) * (1000 : Int64) = 0 := Int64.toInt_inj.mp q
      have e := Int64.sub_add_cancel x ((x / (1000 : Int64)) * (1000 : Int64))
      rw [q', Int64.zero_add] at e
      exact e
    · intro q
      rw [q, Int64.sub_self]; rfl
  refine ⟨?_, ?_, ?_⟩
  · rw [Int64.lt_iff_toInt_lt, h0]; omega
  · intro hx; rw [Int64.lt_iff_toInt_lt, h0]; omega
  · intro hx
    rw [Int64.lt_iff_toInt_lt, h0, ← hq]; omega
theorem own_m : ((1000 : Int32).toInt64) = (1000 : Int64) := by decide
theorem own_z : own_fd (0 : Int64) ((1000 : Int32).toInt64) = 0 := by decide +kernel
theorem own_fdm (x : Int64) : own_fd x ((1000 : Int32).toInt64) = own_fm x := by
  obtain ⟨h1, h2, h3⟩ := own_facts x
  unfold own_fd own_fm
  by_cases hx : x.toInt < 0
  · rw [if_pos (h1.mpr hx)]
    rw [own_m]
    by_cases hc : ((x / (1000 : Int64)) * (1000 : Int64)) = x
    · rw [if_pos hc, if_neg (fun q => (h3 hx).mp q hc)]
    · rw [if_neg hc, if_pos ((h3 hx).mpr hc)]
  · rw [if_neg (fun q => hx (h1.mp q)), if_neg (h2 (by omega)), own_m]
theorem own_dl (a b : Int64) : (((own_fd (0 : Int64) ((1000 : Int32).toInt64)) + (own_fd (0 : Int64) ((1000 : Int32).toInt64))) + (a - (own_fd b ((1000 : Int32).toInt64)))) = (a - (own_fm b)) := by
  rw [own_z, own_fdm]
  show (0 : Int64) + 0 + _ = _
  rw [Int64.add_zero, Int64.zero_add]
theorem pn_0 : plainName "com/example/holdfast/holdfast/NodeClockReadPinLaw" = true := by first | (simp [plainName, overriddenIn]; done) | decide +kernel
theorem pd_0_0 : parseMethodDescriptor "()V" = some ⟨[], none⟩ := by decide +kernel
theorem pd_0_1 : parseMethodDescriptor "()Z" = some ⟨[], some .boolean⟩ := by decide +kernel
theorem pd_0_2 : parseMethodDescriptor "(JJ)V" = some ⟨[.long, .long], none⟩ := by decide +kernel
theorem pd_0_3 : parseMethodDescriptor "(J)J" = some ⟨[.long], some .long⟩ := by decide +kernel
theorem pd_0_4 : parseMethodDescriptor "(JJ)J" = some ⟨[.long, .long], some .long⟩ := by decide +kernel
theorem ef_0 (m : MethodId) (P0 : Int64) (P1 : Int64) (P2 : Int64) (P3 : Int64) (P4 : Int32) : entryFrame m #[(.long P0), (.long P1), (.long P2), (.long P3), (.int P4)] maxLocals = mkF m 0 #[.val (.long P0), .second, .val (.long P1), .second, .val (.long P2), .second, .val (.long P3), .second, .val (.int P4), .unset, .unset, .unset, .unset] [] := by first | (simp [entryFrame, mkF, argsToLocals, Value.category, maxLocals]; done) | rfl
def Q0 (Z : State) (P0 : Int64) (P1 : Int64) (P2 : Int64) (P3 : Int64) (P4 : Int32) (h0 : Heap) (n0 : Nat) (v : Option Value) (h : Heap) (L : List Loc) : Prop := v = some (.int (1 : Int32)) ∧ Fr n0 L
set_option maxRecDepth 65536 in
set_option maxHeartbeats 40000000 in
theorem rm0 (l : Launch) (Z : State) (a0 : Array Value) (hw : ∀ d ∈ tables_1, d.before a0 Z = true) (ws : List Jvm.Cond) (P0 : Int64) (P1 : Int64) (P2 : Int64) (P3 : Int64) (P4 : Int32) (h0 : Heap) (n0 : Nat) (Z0 : n0 ≤ h0.size) :
    MetFree l x (head1 (Jvm.Cond.code x code maxLocals ret :: ws) room_1) (fun a U => a = #[(.long P0), (.long P1), (.long P2), (.long P3), (.int P4)] ∧ Z.Warmed39 U.vm ∧ U.heap = h0) (fun _ _ _ _ _ => True) (fun _ U o U' => ∃ v L, o = .returned v ∧ Q0 Z P0 P1 P2 P3 P4 h0 n0 v U'.heap L ∧ FrameEnd U o U' L 16 128) := by
  refine MetFree.of_bodySF (plainFor_of_name pn_0) hisR ?_
  intro p e s m args below meth c s₁ Bd hml0 hP hK
  obtain ⟨rfl, hZ, hh⟩ := hP
  have hx := Bd.exec
  have hby := Bd.bytes
  have hml : c.maxLocals = 13 := hml0
  have hown : s.vm.findClass "com/example/holdfast/holdfast/NodeClockReadPinLaw" = some m.cls := findClass_of_methodNamed Bd.named
  have hnm := (name_of_methodNamed Bd.named Bd.method).1
  have X0 : Stand p l e room_1 s m #[(.long P0), (.long P1), (.long P2), (.long P3), (.int P4)] below meth c s₁ [] 0 0 := Stand.of_body Bd
  have e0 : s₁.heap = h0 := by rw [← hh, Bd.state]; rfl
  have N0 := Fr.nil n0
  have pre0 : ∀ t, Steps p.tables e below (s₁.setTop (mkF m 0 #[.val (.long P0), .second, .val (.long P1), .second, .val (.long P2), .second, .val (.long P3), .second, .val (.int P4), .unset, .unset, .unset, .unset] [])) t → Steps p.tables e below (s₁.setTop (entryFrame m #[(.long P0), (.long P1), (.long P2), (.long P3), (.int P4)] maxLocals)) t := fun t k => castTop (ef_0 m P0 P1 P2 P3 P4) k
  obtain ⟨T1, h1, X1, e1, E1, A1, D1, -, st1⟩ := newO X0 hx hZ hown (hw _ (List.mem_of_getElem? (i := 0) rfl)) (hw _ (List.mem_of_getElem? (i := 1) rfl)) (hw _ (List.mem_of_getElem? (i := 2) rfl)) e0 (g := (mkF m 0 #[.val (.long P0), .second, .val (.long P1), .second, .val (.long P2), .second, .val (.long P3), .second, .val (.int P4), .unset, .unset, .unset, .unset] [])) rfl (hb hby at_0) (by decide) (by decide)
  obtain ⟨b1, q1⟩ : ∃ z, z = h0.size := ⟨_, rfl⟩
  rw [← q1] at A1 D1 st1
  have g_b1 : n0 ≤ b1 := Nat.le_trans Z0 (Nat.le_of_eq q1.symm)
  have Z2 : n0 ≤ h1.size := Nat.le_trans Z0 E1.1
  have F1_11 : Fld Z h1 b1 "com/example/holdfast/holdfast/NodeClock" "leadMicros" "J" (.long (0 : Int64)) := D1 (Or.inl (hw _ (List.mem_of_getElem? (i := 11) rfl))) (ty := .long) (by decide)
  obtain ⟨_, _, ⟨T3, L3, k3, n3⟩, -, X3, ⟨Lc3, hQ3, l3, y3, z3⟩, st3⟩ := X1.specialBack hx (y := (⟨"com/example/holdfast/holdfast/NodeClock", "<init>", "()V"⟩ : MethodName)) rfl hown (mvT hZ (hw _ (List.mem_of_getElem? (i := 3) rfl))) (mvT hZ (hw _ (List.mem_of_getElem? (i := 4) rfl))) (mvT hZ (hw _ (List.mem_of_getElem? (i := 5) rfl))) (by decide) (backOf (W := 1) (rm1 l Z a0 hw [] b1 (0 : Int64) h1 n0 Z2 F1_11 A1 g_b1) hZ (hw _ (List.mem_of_getElem? (i := 5) rfl)) (hw _ (List.mem_of_getElem? (i := 2) rfl)) (by decide) (by decide)) (g := (mkF m 4 #[.val (.long P0), .second, .val (.long P1), .second, .val (.long P2), .second, .val (.long P3), .second, .val (.int P4), .unset, .unset, .unset, .unset] [(.ref b1), (.ref b1)])) rfl (by rw [hml]; rfl) (Steps.refl _) (a := b1) (argsL := []) (rest := [(.ref b1)]) (lenOf pd_0_0 rfl) rfl (by show 2 * 0 + _ ≤ _; exact Nat.le_of_eq rfl) (hb hby at_4) (fun _ _ => ⟨rfl, e1, (by decide : 1 + 0 ≤ _), (by decide : 1 + 0 ≤ _)⟩)
  dsimp only [Pt.U, Pt.locs, Pt.cells, Pt.slots] at X3 l3 y3 z3 st3 hQ3
  subst l3 y3 z3
  obtain ⟨rfl, N3q, K3, p3_0, p3_1⟩ := hQ3
  have N3 := Fr.app N0 N3q
  have Z4 : n0 ≤ T3.heap.size := Nat.le_trans Z2 K3.1
  obtain ⟨cq5, kq5, q5a, q5b, q5c⟩ := isOf hZ rfl p3_0
  obtain ⟨_, _, ⟨T5, L5, k5, n5⟩, -, X5, ⟨Lc5, hQ5, l5, y5, z5⟩, st5⟩ := X3.virtualBack hx (y := (⟨"com/example/holdfast/holdfast/NodeClock", "isKnown", "()Z"⟩ : MethodName)) (z := (⟨"com/example/holdfast/holdfast/NodeClock", "isKnown", "()Z"⟩ : MethodName)) hown (mvT hZ (hw _ (List.mem_of_getElem? (i := 12) rfl))) (mvT hZ (hw _ (List.mem_of_getElem? (i := 13) rfl))) (notFace_of_selects (args := #[]) (mvT hZ (hw _ (List.mem_of_getElem? (i := 15) rfl)))) (mvT hZ (hw _ (List.mem_of_getElem? (i := 15) rfl))) (mvT hZ (hw _ (List.mem_of_getElem? (i := 14) rfl))) (by decide) (backOf (W := 0) (rm3 l Z a0 hw [] b1 (-9223372036854775808 : Int64) T3.heap n0 Z4 p3_1) hZ (hw _ (List.mem_of_getElem? (i := 16) rfl)) (hw _ (List.mem_of_getElem? (i := 2) rfl)) (by decide) (by decide)) q5a q5c (g := (mkF m 11 #[.val (.long P0), .second, .val (.long P1), .second, .val (.long P2), .second, .val (.long P3), .second, .val (.int P4), .val (.ref b1), .unset, .unset, .unset] [(.ref b1)])) rfl (by rw [hml]; rfl) (Steps.refl _) (argsL := []) (rest := []) (lenOf pd_0_1 rfl) rfl (by show 2 * 0 + _ ≤ _; exact Nat.le_of_eq rfl) (hb hby at_11) (fun _ _ => ⟨rfl, rfl, (by decide : 1 + 0 ≤ _), (by decide : 1 + 0 ≤ _)⟩)
  dsimp only [Pt.U, Pt.locs, Pt.cells, Pt.slots] at X5 l5 y5 z5 st5 hQ5
  subst l5 y5 z5
  obtain ⟨rfl, N5q, K5⟩ := hQ5
  have N5 := Fr.app N3 N5q
  have pre6 : ∀ t, Steps p.tables e below (T5.setTop (mkF m 28 #[.val (.long P0), .second, .val (.long P1), .second, .val (.long P2), .second, .val (.long P3), .second, .val (.int P4), .val (.ref b1), .val (.int (1 : Int32)), .unset, .unset] [(.int (P4 &&& (1 : Int32)))])) t → Steps p.tables e below (s₁.setTop (entryFrame m #[(.long P0), (.long P1), (.long P2), (.long P3), (.int P4)] maxLocals)) t := fun t kt => pre0 t (by
      show Steps p.tables e below (s₁.setTop (mkF m 0 #[.val (.long P0), .second, .val (.long P1), .second, .val (.long P2), .second, .val (.long P3), .second, .val (.int P4), .unset, .unset, .unset, .unset] [])) _
      refine st1 _ ?_
      show Steps p.tables e below (T1.setTop (mkF m 3 #[.val (.long P0), .second, .val (.long P1), .second, .val (.long P2), .second, .val (.long P3), .second, .val (.int P4), .unset, .unset, .unset, .unset] [(.ref b1)])) _
      refine XS.dup X1.here hx rfl (hb hby at_3) rfl rfl ?_
      show Steps p.tables e below (T1.setTop (mkF m 4 #[.val (.long P0), .second, .val (.long P1), .second, .val (.long P2), .second, .val (.long P3), .second, .val (.int P4), .unset, .unset, .unset, .unset] [(.ref b1), (.ref b1)])) _
      refine st3.trans ?_
      show Steps p.tables e below (T3.setTop (mkF m 7 #[.val (.long P0), .second, .val (.long P1), .second, .val (.long P2), .second, .val (.long P3), .second, .val (.int P4), .unset, .unset, .unset, .unset] [(.ref b1)])) _
      refine XS.astore X3.here hx rfl (hb hby at_7) rfl rfl (l' := #[.val (.long P0), .second, .val (.long P1), .second, .val (.long P2), .second, .val (.long P3), .second, .val (.int P4), .val (.ref b1), .unset, .unset, .unset]) rfl ?_
      show Steps p.tables e below (T3.setTop (mkF m 9 #[.val (.long P0), .second, .val (.long P1), .second, .val (.long P2), .second, .val (.long P3), .second, .val (.int P4), .val (.ref b1), .unset, .unset, .unset] [])) _
      refine XS.aload X3.here hx rfl (hb hby at_9) rfl rfl ?_
      show Steps p.tables e below (T3.setTop (mkF m 11 #[.val (.long P0), .second, .val (.long P1), .second, .val (.long P2), .second, .val (.long P3), .second, .val (.int P4), .val (.ref b1), .unset, .unset, .unset] [(.ref b1)])) _
      refine st5.trans ?_
      show Steps p.tables e below (T5.setTop (mkF m 14 #[.val (.long P0), .second, .val (.long P1), .second, .val (.long P2), .second, .val (.long P3), .second, .val (.int P4), .val (.ref b1), .unset, .unset, .unset] [(.int (if ¬ ((-9223372036854775808 : Int64) = (-9223372036854775808 : Int64)) then (1 : Int32) else (0 : Int32)))])) _
      refine XS.ifNo X5.here hx rfl (hb hby at_14) rfl ((if0 _ _).trans (teq (show (if ¬ ((-9223372036854775808 : Int64) = (-9223372036854775808 : Int64)) then (1 : Int32) else (0 : Int32)) = (0 : Int32) from if_neg (show ¬ (¬ ((-9223372036854775808 : Int64) = (-9223372036854775808 : Int64))) from (fun q => q rfl)))).2) ?_
      show Steps p.tables e below (T5.setTop (mkF m 17 #[.val (.long P0), .second, .val (.long P1), .second, .val (.long P2), .second, .val (.long P3), .second, .val (.int P4), .val (.ref b1), .unset, .unset, .unset] [])) _
      refine XS.iconst X5.here hx rfl (hb hby at_17) ?_
      show Steps p.tables e below (T5.setTop (mkF m 18 #[.val (.long P0), .second, .val (.long P1), .second, .val (.long P2), .second, .val (.long P3), .second, .val (.int P4), .val (.ref b1), .unset, .unset, .unset] [(.int (1 : Int32))])) _
      refine XS.goto X5.here hx rfl (pc0 := 18) (pc' := 22) rfl (hb hby at_18) (by decide) (by decide) ?_
      show Steps p.tables e below (T5.setTop (mkF m 22 #[.val (.long P0), .second, .val (.long P1), .second, .val (.long P2), .second, .val (.long P3), .second, .val (.int P4), .val (.ref b1), .unset, .unset, .unset] [(.int (1 : Int32))])) _
      refine XS.istore X5.here hx rfl (hb hby at_22) rfl (l' := #[.val (.long P0), .second, .val (.long P1), .second, .val (.long P2), .second, .val (.long P3), .second, .val (.int P4), .val (.ref b1), .val (.int (1 : Int32)), .unset, .unset]) rfl ?_
      show Steps p.tables e below (T5.setTop (mkF m 24 #[.val (.long P0), .second, .val (.long P1), .second, .val (.long P2), .second, .val (.long P3), .second, .val (.int P4), .val (.ref b1), .val (.int (1 : Int32)), .unset, .unset] [])) _
      refine XS.iload X5.here hx rfl (hb hby at_24) rfl ?_
      show Steps p.tables e below (T5.setTop (mkF m 26 #[.val (.long P0), .second, .val (.long P1), .second, .val (.long P2), .second, .val (.long P3), .second, .val (.int P4), .val (.ref b1), .val (.int (1 : Int32)), .unset, .unset] [(.int P4)])) _
      refine XS.iconst X5.here hx rfl (hb hby at_26) ?_
      show Steps p.tables e below (T5.setTop (mkF m 27 #[.val (.long P0), .second, .val (.long P1), .second, .val (.long P2), .second, .val (.long P3), .second, .val (.int P4), .val (.ref b1), .val (.int (1 : Int32)), .unset, .unset] [(.int (1 : Int32)), (.int P4)])) _
      refine XS.iand X5.here hx rfl (hb hby at_27) rfl ?_
      exact kt)
  by_cases hc28 : (P4 &&& (1 : Int32)) = (0 : Int32)
  · obtain ⟨cq7, kq7, q7a, q7b, q7c⟩ := isOf hZ K5 p3_0
    obtain ⟨_, _, ⟨T7, L7, k7, n7⟩, -, X7, ⟨Lc7, hQ7, l7, y7, z7⟩, st7⟩ := X5.virtualBack hx (y := (⟨"com/example/holdfast/holdfast/NodeClock", "read", "(JJ)V"⟩ : MethodName)) (z := (⟨"com/example/holdfast/holdfast/NodeClock", "read", "(JJ)V"⟩ : MethodName)) hown (mvT hZ (hw _ (List.mem_of_getElem? (i := 17) rfl))) (mvT hZ (hw _ (List.mem_of_getElem? (i := 18) rfl))) (notFace_of_selects (args := #[]) (mvT hZ (hw _ (List.mem_of_getElem? (i := 20) rfl)))) (mvT hZ (hw _ (List.mem_of_getElem? (i := 20) rfl))) (mvT hZ (hw _ (List.mem_of_getElem? (i := 19) rfl))) (by decide) (backOf (W := 0) (rm4 l Z a0 hw [] b1 P0 P1 (-9223372036854775808 : Int64) T3.heap n0 Z4 p3_1 p3_0 g_b1) hZ (hw _ (List.mem_of_getElem? (i := 21) rfl)) (hw _ (List.mem_of_getElem? (i := 2) rfl)) (by decide) (by decide)) q7a q7c (g := (mkF m 44 #[.val (.long P0), .second, .val (.long P1), .second, .val (.long P2), .second, .val (.long P3), .second, .val (.int P4), .val (.ref b1), .val (.int (1 : Int32)), .unset, .unset] [(.long P1), (.long P0), (.ref b1)])) rfl (by rw [hml]; rfl) (Steps.refl _) (argsL := [(.long P0), (.long P1)]) (rest := []) (lenOf pd_0_2 rfl) rfl (by show 2 * 0 + _ ≤ _; exact Nat.le_of_eq rfl) (hb hby at_44) (fun _ _ => ⟨rfl, K5, (by decide : 1 + 0 ≤ _), (by decide : 1 + 0 ≤ _)⟩)
    dsimp only [Pt.U, Pt.locs, Pt.cells, Pt.slots] at X7 l7 y7 z7 st7 hQ7
    subst l7 y7 z7
    obtain ⟨rfl, N7q, K7, p7_0, p7_1⟩ := hQ7
    have N7 := Fr.app N5 N7q
    have Z8 : n0 ≤ T7.heap.size := Nat.le_trans Z4 K7.1
    obtain ⟨_, _, ⟨T9, L9, k9, n9⟩, -, X9, ⟨Lc9, hQ9, l9, y9, z9⟩, st9⟩ := Jvm.LawKit.callS X7 hx (y := (⟨"com/example/holdfast/holdfast/NodeClockReadPinLaw", "floorMicros", "(J)J"⟩ : MethodName)) hown (mvT hZ (hw _ (List.mem_of_getElem? (i := 29) rfl))) (mvT hZ (hw _ (List.mem_of_getElem? (i := 30) rfl))) (mvT hZ (hw _ (List.mem_of_getElem? (i := 31) rfl))) (mvT hZ (hw _ (List.mem_of_getElem? (i := 32) rfl))) (by decide) (backOf (W := 2) (rm7 l Z a0 hw [] P1 T7.heap n0 Z8 ) hZ (hw _ (List.mem_of_getElem? (i := 32) rfl)) (hw _ (List.mem_of_getElem? (i := 31) rfl)) (by decide) (by decide)) (g := (mkF m 49 #[.val (.long P0), .second, .val (.long P1), .second, .val (.long P2), .second, .val (.long P3), .second, .val (.int P4), .val (.ref b1), .val (.int (1 : Int32)), .unset, .unset] [(.long P1), (.long P0)])) rfl (by rw [hml]; rfl) (argsL := [(.long P1)]) (rest := [(.long P0)]) (lenOf pd_0_3 rfl) rfl (by show 2 * 0 + _ ≤ _; exact Nat.le_of_eq rfl) (hb hby at_49) (fun _ _ => ⟨rfl, rfl, (by decide : 1 + 0 ≤ _), (by decide : 1 + 0 ≤ _)⟩)
    dsimp only [Pt.U, Pt.locs, Pt.cells, Pt.slots] at X9 l9 y9 z9 st9 hQ9
    subst l9 y9 z9
    obtain ⟨rfl, N9q, K9⟩ := hQ9
    have N9 := Fr.app N7 N9q
    have pre10 : ∀ t, Steps p.tables e below (T9.setTop (mkF m 61 #[.val (.long P0), .second, .val (.long P1), .second, .val (.long P2), .second, .val (.long P3), .second, .val (.int P4), .val (.ref b1), .val (.int (1 : Int32)), .val (.long (P0 - (own_fm P1))), .second] [(.int (lcmpW (P0 - (own_fm P1)) (-9223372036854775808 : Int64)))])) t → Steps p.tables e below (s₁.setTop (entryFrame m #[(.long P0), (.long P1), (.long P2), (.long P3), (.int P4)] maxLocals)) t := fun t kt => pre6 t (by
        show Steps p.tables e below (T5.setTop (mkF m 28 #[.val (.long P0), .second, .val (.long P1), .second, .val (.long P2), .second, .val (.long P3), .second, .val (.int P4), .val (.ref b1), .val (.int (1 : Int32)), .unset, .unset] [(.int (P4 &&& (1 : Int32)))])) _
        refine XS.ifYes X5.here hx rfl (pc0 := 28) (pc' := 40) rfl (hb hby at_28) rfl ((if0 _ _).trans (teq hc28).1) (by decide) (by decide) ?_
        show Steps p.tables e below (T5.setTop (mkF m 40 #[.val (.long P0), .second, .val (.long P1), .second, .val (.long P2), .second, .val (.long P3), .second, .val (.int P4), .val (.ref b1), .val (.int (1 : Int32)), .unset, .unset] [])) _
        refine XS.aload X5.here hx rfl (hb hby at_40) rfl rfl ?_
        show Steps p.tables e below (T5.setTop (mkF m 42 #[.val (.long P0), .second, .val (.long P1), .second, .val (.long P2), .second, .val (.long P3), .second, .val (.int P4), .val (.ref b1), .val (.int (1 : Int32)), .unset, .unset] [(.ref b1)])) _
        refine XS.lloadN X5.here hx rfl (hb hby at_42) rfl ?_
        show Steps p.tables e below (T5.setTop (mkF m 43 #[.val (.long P0), .second, .val (.long P1), .second, .val (.long P2), .second, .val (.long P3), .second, .val (.int P4), .val (.ref b1), .val (.int (1 : Int32)), .unset, .unset] [(.long P0), (.ref b1)])) _
        refine XS.lloadN X5.here hx rfl (hb hby at_43) rfl ?_
        show Steps p.tables e below (T5.setTop (mkF m 44 #[.val (.long P0), .second, .val (.long P1), .second, .val (.long P2), .second, .val (.long P3), .second, .val (.int P4), .val (.ref b1), .val (.int (1 : Int32)), .unset, .unset] [(.long P1), (.long P0), (.ref b1)])) _
        refine st7.trans ?_
        show Steps p.tables e below (T7.setTop (mkF m 47 #[.val (.long P0), .second, .val (.long P1), .second, .val (.long P2), .second, .val (.long P3), .second, .val (.int P4), .val (.ref b1), .val (.int (1 : Int32)), .unset, .unset] [])) _
        refine XS.lloadN X7.here hx rfl (hb hby at_47) rfl ?_
        show Steps p.tables e below (T7.setTop (mkF m 48 #[.val (.long P0), .second, .val (.long P1), .second, .val (.long P2), .second, .val (.long P3), .second, .val (.int P4), .val (.ref b1), .val (.int (1 : Int32)), .unset, .unset] [(.long P0)])) _
        refine XS.lloadN X7.here hx rfl (hb hby at_48) rfl ?_
        show Steps p.tables e below (T7.setTop (mkF m 49 #[.val (.long P0), .second, .val (.long P1), .second, .val (.long P2), .second, .val (.long P3), .second, .val (.int P4), .val (.ref b1), .val (.int (1 : Int32)), .unset, .unset] [(.long P1), (.long P0)])) _
        refine st9 _ ?_
        show Steps p.tables e below (T9.setTop (mkF m 52 #[.val (.long P0), .second, .val (.long P1), .second, .val (.long P2), .second, .val (.long P3), .second, .val (.int P4), .val (.ref b1), .val (.int (1 : Int32)), .unset, .unset] [(.long (own_fm P1)), (.long P0)])) _
        refine XS.lsub X9.here hx rfl (hb hby at_52) rfl ?_
        show Steps p.tables e below (T9.setTop (mkF m 53 #[.val (.long P0), .second, .val (.long P1), .second, .val (.long P2), .second, .val (.long P3), .second, .val (.int P4), .val (.ref b1), .val (.int (1 : Int32)), .unset, .unset] [(.long (P0 - (own_fm P1)))])) _
        refine XS.lstore X9.here hx rfl (hb hby at_53) rfl (l' := #[.val (.long P0), .second, .val (.long P1), .second, .val (.long P2), .second, .val (.long P3), .second, .val (.int P4), .val (.ref b1), .val (.int (1 : Int32)), .val (.long (P0 - (own_fm P1))), .second]) rfl ?_
        show Steps p.tables e below (T9.setTop (mkF m 55 #[.val (.long P0), .second, .val (.long P1), .second, .val (.long P2), .second, .val (.long P3), .second, .val (.int P4), .val (.ref b1), .val (.int (1 : Int32)), .val (.long (P0 - (own_fm P1))), .second] [])) _
        refine XS.lload X9.here hx rfl (hb hby at_55) rfl ?_
        show Steps p.tables e below (T9.setTop (mkF m 57 #[.val (.long P0), .second, .val (.long P1), .second, .val (.long P2), .second, .val (.long P3), .second, .val (.int P4), .val (.ref b1), .val (.int (1 : Int32)), .val (.long (P0 - (own_fm P1))), .second] [(.long (P0 - (own_fm P1)))])) _
        refine X9.ldc2Long hx hown (mvT hZ (hw _ (List.mem_of_getElem? (i := 34) rfl))) (g := (mkF m 57 #[.val (.long P0), .second, .val (.long P1), .second, .val (.long P2), .second, .val (.long P3), .second, .val (.int P4), .val (.ref b1), .val (.int (1 : Int32)), .val (.long (P0 - (own_fm P1))), .second] [(.long (P0 - (own_fm P1)))])) rfl (hb hby at_57) _ ?_
        show Steps p.tables e below (T9.setTop (mkF m 60 #[.val (.long P0), .second, .val (.long P1), .second, .val (.long P2), .second, .val (.long P3), .second, .val (.int P4), .val (.ref b1), .val (.int (1 : Int32)), .val (.long (P0 - (own_fm P1))), .second] [(.long (-9223372036854775808 : Int64)), (.long (P0 - (own_fm P1)))])) _
        refine XS.lcmp X9.here hx rfl (hb hby at_60) rfl ?_
        exact kt)
    by_cases hc61 : (P0 - (own_fm P1)) = (-9223372036854775808 : Int64)
    · obtain ⟨cq11, kq11, q11a, q11b, q11c⟩ := isOf hZ K9 p7_0
      obtain ⟨_, _, ⟨T11, L11, k11, n11⟩, -, X11, ⟨Lc11, hQ11, l11, y11, z11⟩, st11⟩ := X9.virtualBack hx (y := (⟨"com/example/holdfast/holdfast/NodeClock", "isKnown", "()Z"⟩ : MethodName)) (z := (⟨"com/example/holdfast/holdfast/NodeClock", "isKnown", "()Z"⟩ : MethodName)) hown (mvT hZ (hw _ (List.mem_of_getElem? (i := 12) rfl))) (mvT hZ (hw _ (List.mem_of_getElem? (i := 13) rfl))) (notFace_of_selects (args := #[]) (mvT hZ (hw _ (List.mem_of_getElem? (i := 15) rfl)))) (mvT hZ (hw _ (List.mem_of_getElem? (i := 15) rfl))) (mvT hZ (hw _ (List.mem_of_getElem? (i := 14) rfl))) (by decide) (backOf (W := 0) (rm3 l Z a0 hw [] b1 (P0 - (own_fd P1 ((1000 : Int32).toInt64))) T7.heap n0 Z8 p7_1) hZ (hw _ (List.mem_of_getElem? (i := 16) rfl)) (hw _ (List.mem_of_getElem? (i := 2) rfl)) (by decide) (by decide)) q11a q11c (g := (mkF m 71 #[.val (.long P0), .second, .val (.long P1), .second, .val (.long P2), .second, .val (.long P3), .second, .val (.int P4), .val (.ref b1), .val (.int (1 : Int32)), .val (.long (P0 - (own_fm P1))), .second] [(.ref b1)])) rfl (by rw [hml]; rfl) (Steps.refl _) (argsL := []) (rest := []) (lenOf pd_0_1 rfl) rfl (by show 2 * 0 + _ ≤ _; exact Nat.le_of_eq rfl) (hb hby at_71) (fun _ _ => ⟨rfl, K9, (by decide : 1 + 0 ≤ _), (by decide : 1 + 0 ≤ _)⟩)
      dsimp only [Pt.U, Pt.locs, Pt.cells, Pt.slots] at X11 l11 y11 z11 st11 hQ11
      subst l11 y11 z11
      obtain ⟨rfl, N11q, K11⟩ := hQ11
      have N11 := Fr.app N9 N11q
      have pre12 : ∀ t, Steps p.tables e below (T11.setTop (mkF m 82 #[.val (.long P0), .second, .val (.long P1), .second, .val (.long P2), .second, .val (.long P3), .second, .val (.int P4), .val (.ref b1), .val (.int (1 : Int32)), .val (.long (P0 - (own_fm P1))), .second] [(.int (1 : Int32))])) t → Steps p.tables e below (s₁.setTop (entryFrame m #[(.long P0), (.long P1), (.long P2), (.long P3), (.int P4)] maxLocals)) t := fun t kt => pre10 t (by
          show Steps p.tables e below (T9.setTop (mkF m 61 #[.val (.long P0), .second, .val (.long P1), .second, .val (.long P2), .second, .val (.long P3), .second, .val (.int P4), .val (.ref b1), .val (.int (1 : Int32)), .val (.long (P0 - (own_fm P1))), .second] [(.int (lcmpW (P0 - (own_fm P1)) (-9223372036854775808 : Int64)))])) _
          refine XS.ifNo X9.here hx rfl (hb hby at_61) rfl ((if0 _ _).trans (teq ((lw_eq (P0 - (own_fm P1)) (-9223372036854775808 : Int64)).mpr hc61)).2) ?_
          show Steps p.tables e below (T9.setTop (mkF m 64 #[.val (.long P0), .second, .val (.long P1), .second, .val (.long P2), .second, .val (.long P3), .second, .val (.int P4), .val (.ref b1), .val (.int (1 : Int32)), .val (.long (P0 - (own_fm P1))), .second] [])) _
          refine XS.iload X9.here hx rfl (hb hby at_64) rfl ?_
          show Steps p.tables e below (T9.setTop (mkF m 66 #[.val (.long P0), .second, .val (.long P1), .second, .val (.long P2), .second, .val (.long P3), .second, .val (.int P4), .val (.ref b1), .val (.int (1 : Int32)), .val (.long (P0 - (own_fm P1))), .second] [(.int (1 : Int32))])) _
          refine XS.ifNo X9.here hx rfl (hb hby at_66) rfl ((if0 _ _).trans (feq (show ¬ ((1 : Int32) = (0 : Int32)) from (by decide))).1) ?_
          show Steps p.tables e below (T9.setTop (mkF m 69 #[.val (.long P0), .second, .val (.long P1), .second, .val (.long P2), .second, .val (.long P3), .second, .val (.int P4), .val (.ref b1), .val (.int (1 : Int32)), .val (.long (P0 - (own_fm P1))), .second] [])) _
          refine XS.aload X9.here hx rfl (hb hby at_69) rfl rfl ?_
          show Steps p.tables e below (T9.setTop (mkF m 71 #[.val (.long P0), .second, .val (.long P1), .second, .val (.long P2), .second, .val (.long P3), .second, .val (.int P4), .val (.ref b1), .val (.int (1 : Int32)), .val (.long (P0 - (own_fm P1))), .second] [(.ref b1)])) _
          refine st11.trans ?_
          show Steps p.tables e below (T11.setTop (mkF m 74 #[.val (.long P0), .second, .val (.long P1), .second, .val (.long P2), .second, .val (.long P3), .second, .val (.int P4), .val (.ref b1), .val (.int (1 : Int32)), .val (.long (P0 - (own_fm P1))), .second] [(.int (if ¬ ((P0 - (own_fd P1 ((1000 : Int32).toInt64))) = (-9223372036854775808 : Int64)) then (1 : Int32) else (0 : Int32)))])) _
          refine XS.ifNo X11.here hx rfl (hb hby at_74) rfl ((if0 _ _).trans (teq (show (if ¬ ((P0 - (own_fd P1 ((1000 : Int32).toInt64))) = (-9223372036854775808 : Int64)) then (1 : Int32) else (0 : Int32)) = (0 : Int32) from if_neg (show ¬ (¬ ((P0 - (own_fd P1 ((1000 : Int32).toInt64))) = (-9223372036854775808 : Int64))) from (fun q => q (by rw [own_fdm]; exact hc61))))).2) ?_
          show Steps p.tables e below (T11.setTop (mkF m 77 #[.val (.long P0), .second, .val (.long P1), .second, .val (.long P2), .second, .val (.long P3), .second, .val (.int P4), .val (.ref b1), .val (.int (1 : Int32)), .val (.long (P0 - (own_fm P1))), .second] [])) _
          refine XS.iconst X11.here hx rfl (hb hby at_77) ?_
          show Steps p.tables e below (T11.setTop (mkF m 78 #[.val (.long P0), .second, .val (.long P1), .second, .val (.long P2), .second, .val (.long P3), .second, .val (.int P4), .val (.ref b1), .val (.int (1 : Int32)), .val (.long (P0 - (own_fm P1))), .second] [(.int (1 : Int32))])) _
          refine XS.goto X11.here hx rfl (pc0 := 78) (pc' := 82) rfl (hb hby at_78) (by decide) (by decide) ?_
          exact kt)
      obtain ⟨fs, hr, hrun, hended, hW, hsame⟩ := X11.leave (v := some (.int (1 : Int32))) (fun h => by rw [Bd.returns] at h; cases h)
      refine ⟨_, _, pre12 _ ?_, hrun, hended, _, _, rfl, ?_, ⟨_, rfl⟩, hW, hsame.mono (by decide) (by decide)⟩
      · show Steps p.tables e below (T11.setTop (mkF m 82 #[.val (.long P0), .second, .val (.long P1), .second, .val (.long P2), .second, .val (.long P3), .second, .val (.int P4), .val (.ref b1), .val (.int (1 : Int32)), .val (.long (P0 - (own_fm P1))), .second] [(.int (1 : Int32))])) _
        exact retN X11 hx (t := .boolean) Bd.returns (by simp) (hb hby at_82) hr
      · show Q0 Z P0 P1 P2 P3 P4 h0 n0 _ T11.heap _
        rw [K11]
        exact ⟨rfl, N11⟩
    · obtain ⟨cq13, kq13, q13a, q13b, q13c⟩ := isOf hZ K9 p7_0
      obtain ⟨_, _, ⟨T13, L13, k13, n13⟩, -, X13, ⟨Lc13, hQ13, l13, y13, z13⟩, st13⟩ := X9.virtualBack hx (y := (⟨"com/example/holdfast/holdfast/NodeClock", "isKnown", "()Z"⟩ : MethodName)) (z := (⟨"com/example/holdfast/holdfast/NodeClock", "isKnown", "()Z"⟩ : MethodName)) hown (mvT hZ (hw _ (List.mem_of_getElem? (i := 12) rfl))) (mvT hZ (hw _ (List.mem_of_getElem? (i := 13) rfl))) (notFace_of_selects (args := #[]) (mvT hZ (hw _ (List.mem_of_getElem? (i := 15) rfl)))) (mvT hZ (hw _ (List.mem_of_getElem? (i := 15) rfl))) (mvT hZ (hw _ (List.mem_of_getElem? (i := 14) rfl))) (by decide) (backOf (W := 0) (rm3 l Z a0 hw [] b1 (P0 - (own_fd P1 ((1000 : Int32).toInt64))) T7.heap n0 Z8 p7_1) hZ (hw _ (List.mem_of_getElem? (i := 16) rfl)) (hw _ (List.mem_of_getElem? (i := 2) rfl)) (by decide) (by decide)) q13a q13c (g := (mkF m 90 #[.val (.long P0), .second, .val (.long P1), .second, .val (.long P2), .second, .val (.long P3), .second, .val (.int P4), .val (.ref b1), .val (.int (1 : Int32)), .val (.long (P0 - (own_fm P1))), .second] [(.ref b1)])) rfl (by rw [hml]; rfl) (Steps.refl _) (argsL := []) (rest := []) (lenOf pd_0_1 rfl) rfl (by show 2 * 0 + _ ≤ _; exact Nat.le_of_eq rfl) (hb hby at_90) (fun _ _ => ⟨rfl, K9, (by decide : 1 + 0 ≤ _), (by decide : 1 + 0 ≤ _)⟩)
      dsimp only [Pt.U, Pt.locs, Pt.cells, Pt.slots] at X13 l13 y13 z13 st13 hQ13
      subst l13 y13 z13
      obtain ⟨rfl, N13q, K13⟩ := hQ13
      have N13 := Fr.app N9 N13q
      obtain ⟨cq14, kq14, q14a, q14b, q14c⟩ := isOf hZ K13 p7_0
      obtain ⟨_, _, ⟨T14, L14, k14, n14⟩, -, X14, ⟨Lc14, hQ14, l14, y14, z14⟩, st14⟩ := X13.virtualBack hx (y := (⟨"com/example/holdfast/holdfast/NodeClock", "deadline", "(JJ)J"⟩ : MethodName)) (z := (⟨"com/example/holdfast/holdfast/NodeClock", "deadline", "(JJ)J"⟩ : MethodName)) hown (mvT hZ (hw _ (List.mem_of_getElem? (i := 35) rfl))) (mvT hZ (hw _ (List.mem_of_getElem? (i := 36) rfl))) (notFace_of_selects (args := #[]) (mvT hZ (hw _ (List.mem_of_getElem? (i := 38) rfl)))) (mvT hZ (hw _ (List.mem_of_getElem? (i := 38) rfl))) (mvT hZ (hw _ (List.mem_of_getElem? (i := 37) rfl))) (by decide) (backOf (W := 0) (rm8 l Z a0 hw [] b1 (0 : Int64) (0 : Int64) (P0 - (own_fd P1 ((1000 : Int32).toInt64))) T7.heap n0 Z8 p7_1 (show ¬ ((P0 - (own_fd P1 ((1000 : Int32).toInt64))) = (-9223372036854775808 : Int64)) from (by rw [own_fdm]; exact hc61))) hZ (hw _ (List.mem_of_getElem? (i := 39) rfl)) (hw _ (List.mem_of_getElem? (i := 2) rfl)) (by decide) (by decide)) q14a q14c (g := (mkF m 100 #[.val (.long P0), .second, .val (.long P1), .second, .val (.long P2), .second, .val (.long P3), .second, .val (.int P4), .val (.ref b1), .val (.int (1 : Int32)), .val (.long (P0 - (own_fm P1))), .second] [(.long (0 : Int64)), (.long (0 : Int64)), (.ref b1)])) rfl (by rw [hml]; rfl) (Steps.refl _) (argsL := [(.long (0 : Int64)), (.long (0 : Int64))]) (rest := []) (lenOf pd_0_4 rfl) rfl (by show 2 * 0 + _ ≤ _; exact Nat.le_of_eq rfl) (hb hby at_100) (fun _ _ => ⟨rfl, K13, (by decide : 1 + 0 ≤ _), (by decide : 1 + 0 ≤ _)⟩)
      dsimp only [Pt.U, Pt.locs, Pt.cells, Pt.slots] at X14 l14 y14 z14 st14 hQ14
      subst l14 y14 z14
      obtain ⟨rfl, N14q, K14⟩ := hQ14
      have N14 := Fr.app N13 N14q
      have pre15 : ∀ t, Steps p.tables e below (T14.setTop (mkF m 114 #[.val (.long P0), .second, .val (.long P1), .second, .val (.long P2), .second, .val (.long P3), .second, .val (.int P4), .val (.ref b1), .val (.int (1 : Int32)), .val (.long (P0 - (own_fm P1))), .second] [(.int (1 : Int32))])) t → Steps p.tables e below (s₁.setTop (entryFrame m #[(.long P0), (.long P1), (.long P2), (.long P3), (.int P4)] maxLocals)) t := fun t kt => pre10 t (by
          show Steps p.tables e below (T9.setTop (mkF m 61 #[.val (.long P0), .second, .val (.long P1), .second, .val (.long P2), .second, .val (.long P3), .second, .val (.int P4), .val (.ref b1), .val (.int (1 : Int32)), .val (.long (P0 - (own_fm P1))), .second] [(.int (lcmpW (P0 - (own_fm P1)) (-9223372036854775808 : Int64)))])) _
          refine XS.ifYes X9.here hx rfl (pc0 := 61) (pc' := 83) rfl (hb hby at_61) rfl ((if0 _ _).trans (feq (fun q => hc61 ((lw_eq (P0 - (own_fm P1)) (-9223372036854775808 : Int64)).mp q))).2) (by decide) (by decide) ?_
          show Steps p.tables e below (T9.setTop (mkF m 83 #[.val (.long P0), .second, .val (.long P1), .second, .val (.long P2), .second, .val (.long P3), .second, .val (.int P4), .val (.ref b1), .val (.int (1 : Int32)), .val (.long (P0 - (own_fm P1))), .second] [])) _
          refine XS.iload X9.here hx rfl (hb hby at_83) rfl ?_
          show Steps p.tables e below (T9.setTop (mkF m 85 #[.val (.long P0), .second, .val (.long P1), .second, .val (.long P2), .second, .val (.long P3), .second, .val (.int P4), .val (.ref b1), .val (.int (1 : Int32)), .val (.long (P0 - (own_fm P1))), .second] [(.int (1 : Int32))])) _
          refine XS.ifNo X9.here hx rfl (hb hby at_85) rfl ((if0 _ _).trans (feq (show ¬ ((1 : Int32) = (0 : Int32)) from (by decide))).1) ?_
          show Steps p.tables e below (T9.setTop (mkF m 88 #[.val (.long P0), .second, .val (.long P1), .second, .val (.long P2), .second, .val (.long P3), .second, .val (.int P4), .val (.ref b1), .val (.int (1 : Int32)), .val (.long (P0 - (own_fm P1))), .second] [])) _
          refine XS.aload X9.here hx rfl (hb hby at_88) rfl rfl ?_
          show Steps p.tables e below (T9.setTop (mkF m 90 #[.val (.long P0), .second, .val (.long P1), .second, .val (.long P2), .second, .val (.long P3), .second, .val (.int P4), .val (.ref b1), .val (.int (1 : Int32)), .val (.long (P0 - (own_fm P1))), .second] [(.ref b1)])) _
          refine st13.trans ?_
          show Steps p.tables e below (T13.setTop (mkF m 93 #[.val (.long P0), .second, .val (.long P1), .second, .val (.long P2), .second, .val (.long P3), .second, .val (.int P4), .val (.ref b1), .val (.int (1 : Int32)), .val (.long (P0 - (own_fm P1))), .second] [(.int (if ¬ ((P0 - (own_fd P1 ((1000 : Int32).toInt64))) = (-9223372036854775808 : Int64)) then (1 : Int32) else (0 : Int32)))])) _
          refine XS.ifNo X13.here hx rfl (hb hby at_93) rfl ((if0 _ _).trans (feq (show ¬ ((if ¬ ((P0 - (own_fd P1 ((1000 : Int32).toInt64))) = (-9223372036854775808 : Int64)) then (1 : Int32) else (0 : Int32)) = (0 : Int32)) from by rw [if_pos (show ¬ ((P0 - (own_fd P1 ((1000 : Int32).toInt64))) = (-9223372036854775808 : Int64)) from (by rw [own_fdm]; exact hc61))]; decide)).1) ?_
          show Steps p.tables e below (T13.setTop (mkF m 96 #[.val (.long P0), .second, .val (.long P1), .second, .val (.long P2), .second, .val (.long P3), .second, .val (.int P4), .val (.ref b1), .val (.int (1 : Int32)), .val (.long (P0 - (own_fm P1))), .second] [])) _
          refine XS.aload X13.here hx rfl (hb hby at_96) rfl rfl ?_
          show Steps p.tables e below (T13.setTop (mkF m 98 #[.val (.long P0), .second, .val (.long P1), .second, .val (.long P2), .second, .val (.long P3), .second, .val (.int P4), .val (.ref b1), .val (.int (1 : Int32)), .val (.long (P0 - (own_fm P1))), .second] [(.ref b1)])) _
          refine XS.lconst X13.here hx rfl (hb hby at_98) ?_
          show Steps p.tables e below (T13.setTop (mkF m 99 #[.val (.long P0), .second, .val (.long P1), .second, .val (.long P2), .second, .val (.long P3), .second, .val (.int P4), .val (.ref b1), .val (.int (1 : Int32)), .val (.long (P0 - (own_fm P1))), .second] [(.long (0 : Int64)), (.ref b1)])) _
          refine XS.lconst X13.here hx rfl (hb hby at_99) ?_
          show Steps p.tables e below (T13.setTop (mkF m 100 #[.val (.long P0), .second, .val (.long P1), .second, .val (.long P2), .second, .val (.long P3), .second, .val (.int P4), .val (.ref b1), .val (.int (1 : Int32)), .val (.long (P0 - (own_fm P1))), .second] [(.long (0 : Int64)), (.long (0 : Int64)), (.ref b1)])) _
          refine st14.trans ?_
          show Steps p.tables e below (T14.setTop (mkF m 103 #[.val (.long P0), .second, .val (.long P1), .second, .val (.long P2), .second, .val (.long P3), .second, .val (.int P4), .val (.ref b1), .val (.int (1 : Int32)), .val (.long (P0 - (own_fm P1))), .second] [(.long (((own_fd (0 : Int64) ((1000 : Int32).toInt64)) + (own_fd (0 : Int64) ((1000 : Int32).toInt64))) + (P0 - (own_fd P1 ((1000 : Int32).toInt64)))))])) _
          refine XS.lload X14.here hx rfl (hb hby at_103) rfl ?_
          show Steps p.tables e below (T14.setTop (mkF m 105 #[.val (.long P0), .second, .val (.long P1), .second, .val (.long P2), .second, .val (.long P3), .second, .val (.int P4), .val (.ref b1), .val (.int (1 : Int32)), .val (.long (P0 - (own_fm P1))), .second] [(.long (P0 - (own_fm P1))), (.long (((own_fd (0 : Int64) ((1000 : Int32).toInt64)) + (own_fd (0 : Int64) ((1000 : Int32).toInt64))) + (P0 - (own_fd P1 ((1000 : Int32).toInt64)))))])) _
          refine XS.lcmp X14.here hx rfl (hb hby at_105) rfl ?_
          show Steps p.tables e below (T14.setTop (mkF m 106 #[.val (.long P0), .second, .val (.long P1), .second, .val (.long P2), .second, .val (.long P3), .second, .val (.int P4), .val (.ref b1), .val (.int (1 : Int32)), .val (.long (P0 - (own_fm P1))), .second] [(.int (lcmpW (((own_fd (0 : Int64) ((1000 : Int32).toInt64)) + (own_fd (0 : Int64) ((1000 : Int32).toInt64))) + (P0 - (own_fd P1 ((1000 : Int32).toInt64)))) (P0 - (own_fm P1))))])) _
          refine XS.ifNo X14.here hx rfl (hb hby at_106) rfl ((if0 _ _).trans (teq ((lw_eq (((own_fd (0 : Int64) ((1000 : Int32).toInt64)) + (own_fd (0 : Int64) ((1000 : Int32).toInt64))) + (P0 - (own_fd P1 ((1000 : Int32).toInt64)))) (P0 - (own_fm P1))).mpr (show (((own_fd (0 : Int64) ((1000 : Int32).toInt64)) + (own_fd (0 : Int64) ((1000 : Int32).toInt64))) + (P0 - (own_fd P1 ((1000 : Int32).toInt64)))) = (P0 - (own_fm P1)) from (own_dl _ _)))).2) ?_
          show Steps p.tables e below (T14.setTop (mkF m 109 #[.val (.long P0), .second, .val (.long P1), .second, .val (.long P2), .second, .val (.long P3), .second, .val (.int P4), .val (.ref b1), .val (.int (1 : Int32)), .val (.long (P0 - (own_fm P1))), .second] [])) _
          refine XS.iconst X14.here hx rfl (hb hby at_109) ?_
          show Steps p.tables e below (T14.setTop (mkF m 110 #[.val (.long P0), .second, .val (.long P1), .second, .val (.long P2), .second, .val (.long P3), .second, .val (.int P4), .val (.ref b1), .val (.int (1 : Int32)), .val (.long (P0 - (own_fm P1))), .second] [(.int (1 : Int32))])) _
          refine XS.goto X14.here hx rfl (pc0 := 110) (pc' := 114) rfl (hb hby at_110) (by decide) (by decide) ?_
          exact kt)
      obtain ⟨fs, hr, hrun, hended, hW, hsame⟩ := X14.leave (v := some (.int (1 : Int32))) (fun h => by rw [Bd.returns] at h; cases h)
      refine ⟨_, _, pre15 _ ?_, hrun, hended, _, _, rfl, ?_, ⟨_, rfl⟩, hW, hsame.mono (by decide) (by decide)⟩
      · show Steps p.tables e below (T14.setTop (mkF m 114 #[.val (.long P0), .second, .val (.long P1), .second, .val (.long P2), .second, .val (.long P3), .second, .val (.int P4), .val (.ref b1), .val (.int (1 : Int32)), .val (.long (P0 - (own_fm P1))), .second] [(.int (1 : Int32))])) _
        exact retN X14 hx (t := .boolean) Bd.returns (by simp) (hb hby at_114) hr
      · show Q0 Z P0 P1 P2 P3 P4 h0 n0 _ T14.heap _
        rw [K14]
        exact ⟨rfl, N14⟩
  · obtain ⟨cq16, kq16, q16a, q16b, q16c⟩ := isOf hZ K5 p3_0
    obtain ⟨_, _, ⟨T16, L16, k16, n16⟩, -, X16, ⟨Lc16, hQ16, l16, y16, z16⟩, st16⟩ := X5.virtualBack hx (y := (⟨"com/example/holdfast/holdfast/NodeClock", "read", "(JJ)V"⟩ : MethodName)) (z := (⟨"com/example/holdfast/holdfast/NodeClock", "read", "(JJ)V"⟩ : MethodName)) hown (mvT hZ (hw _ (List.mem_of_getElem? (i := 17) rfl))) (mvT hZ (hw _ (List.mem_of_getElem? (i := 18) rfl))) (notFace_of_selects (args := #[]) (mvT hZ (hw _ (List.mem_of_getElem? (i := 20) rfl)))) (mvT hZ (hw _ (List.mem_of_getElem? (i := 20) rfl))) (mvT hZ (hw _ (List.mem_of_getElem? (i := 19) rfl))) (by decide) (backOf (W := 0) (rm4 l Z a0 hw [] b1 P2 P3 (-9223372036854775808 : Int64) T3.heap n0 Z4 p3_1 p3_0 g_b1) hZ (hw _ (List.mem_of_getElem? (i := 21) rfl)) (hw _ (List.mem_of_getElem? (i := 2) rfl)) (by decide) (by decide)) q16a q16c (g := (mkF m 37 #[.val (.long P0), .second, .val (.long P1), .second, .val (.long P2), .second, .val (.long P3), .second, .val (.int P4), .val (.ref b1), .val (.int (1 : Int32)), .unset, .unset] [(.long P3), (.long P2), (.ref b1)])) rfl (by rw [hml]; rfl) (Steps.refl _) (argsL := [(.long P2), (.long P3)]) (rest := []) (lenOf pd_0_2 rfl) rfl (by show 2 * 0 + _ ≤ _; exact Nat.le_of_eq rfl) (hb hby at_37) (fun _ _ => ⟨rfl, K5, (by decide : 1 + 0 ≤ _), (by decide : 1 + 0 ≤ _)⟩)
    dsimp only [Pt.U, Pt.locs, Pt.cells, Pt.slots] at X16 l16 y16 z16 st16 hQ16
    subst l16 y16 z16
    obtain ⟨rfl, N16q, K16, p16_0, p16_1⟩ := hQ16
    have N16 := Fr.app N5 N16q
    have Z17 : n0 ≤ T16.heap.size := Nat.le_trans Z4 K16.1
    obtain ⟨cq18, kq18, q18a, q18b, q18c⟩ := isOf hZ rfl p16_0
    obtain ⟨_, _, ⟨T18, L18, k18, n18⟩, -, X18, ⟨Lc18, hQ18, l18, y18, z18⟩, st18⟩ := X16.virtualBack hx (y := (⟨"com/example/holdfast/holdfast/NodeClock", "read", "(JJ)V"⟩ : MethodName)) (z := (⟨"com/example/holdfast/holdfast/NodeClock", "read", "(JJ)V"⟩ : MethodName)) hown (mvT hZ (hw _ (List.mem_of_getElem? (i := 17) rfl))) (mvT hZ (hw _ (List.mem_of_getElem? (i := 18) rfl))) (notFace_of_selects (args := #[]) (mvT hZ (hw _ (List.mem_of_getElem? (i := 20) rfl)))) (mvT hZ (hw _ (List.mem_of_getElem? (i := 20) rfl))) (mvT hZ (hw _ (List.mem_of_getElem? (i := 19) rfl))) (by decide) (backOf (W := 0) (rm4 l Z a0 hw [] b1 P0 P1 (P2 - (own_fd P3 ((1000 : Int32).toInt64))) T16.heap n0 Z17 p16_1 p16_0 g_b1) hZ (hw _ (List.mem_of_getElem? (i := 21) rfl)) (hw _ (List.mem_of_getElem? (i := 2) rfl)) (by decide) (by decide)) q18a q18c (g := (mkF m 44 #[.val (.long P0), .second, .val (.long P1), .second, .val (.long P2), .second, .val (.long P3), .second, .val (.int P4), .val (.ref b1), .val (.int (1 : Int32)), .unset, .unset] [(.long P1), (.long P0), (.ref b1)])) rfl (by rw [hml]; rfl) (Steps.refl _) (argsL := [(.long P0), (.long P1)]) (rest := []) (lenOf pd_0_2 rfl) rfl (by show 2 * 0 + _ ≤ _; exact Nat.le_of_eq rfl) (hb hby at_44) (fun _ _ => ⟨rfl, rfl, (by decide : 1 + 0 ≤ _), (by decide : 1 + 0 ≤ _)⟩)
    dsimp only [Pt.U, Pt.locs, Pt.cells, Pt.slots] at X18 l18 y18 z18 st18 hQ18
    subst l18 y18 z18
    obtain ⟨rfl, N18q, K18, p18_0, p18_1⟩ := hQ18
    have N18 := Fr.app N16 N18q
    have Z19 : n0 ≤ T18.heap.size := Nat.le_trans Z17 K18.1
    obtain ⟨_, _, ⟨T20, L20, k20, n20⟩, -, X20, ⟨Lc20, hQ20, l20, y20, z20⟩, st20⟩ := Jvm.LawKit.callS X18 hx (y := (⟨"com/example/holdfast/holdfast/NodeClockReadPinLaw", "floorMicros", "(J)J"⟩ : MethodName)) hown (mvT hZ (hw _ (List.mem_of_getElem? (i := 29) rfl))) (mvT hZ (hw _ (List.mem_of_getElem? (i := 30) rfl))) (mvT hZ (hw _ (List.mem_of_getElem? (i := 31) rfl))) (mvT hZ (hw _ (List.mem_of_getElem? (i := 32) rfl))) (by decide) (backOf (W := 2) (rm7 l Z a0 hw [] P1 T18.heap n0 Z19 ) hZ (hw _ (List.mem_of_getElem? (i := 32) rfl)) (hw _ (List.mem_of_getElem? (i := 31) rfl)) (by decide) (by decide)) (g := (mkF m 49 #[.val (.long P0), .second, .val (.long P1), .second, .val (.long P2), .second, .val (.long P3), .second, .val (.int P4), .val (.ref b1), .val (.int (1 : Int32)), .unset, .unset] [(.long P1), (.long P0)])) rfl (by rw [hml]; rfl) (argsL := [(.long P1)]) (rest := [(.long P0)]) (lenOf pd_0_3 rfl) rfl (by show 2 * 0 + _ ≤ _; exact Nat.le_of_eq rfl) (hb hby at_49) (fun _ _ => ⟨rfl, rfl, (by decide : 1 + 0 ≤ _), (by decide : 1 + 0 ≤ _)⟩)
    dsimp only [Pt.U, Pt.locs, Pt.cells, Pt.slots] at X20 l20 y20 z20 st20 hQ20
    subst l20 y20 z20
    obtain ⟨rfl, N20q, K20⟩ := hQ20
    have N20 := Fr.app N18 N20q
    have pre21 : ∀ t, Steps p.tables e below (T20.setTop (mkF m 61 #[.val (.long P0), .second, .val (.long P1), .second, .val (.long P2), .second, .val (.long P3), .second, .val (.int P4), .val (.ref b1), .val (.int (1 : Int32)), .val (.long (P0 - (own_fm P1))), .second] [(.int (lcmpW (P0 - (own_fm P1)) (-9223372036854775808 : Int64)))])) t → Steps p.tables e below (s₁.setTop (entryFrame m #[(.long P0), (.long P1), (.long P2), (.long P3), (.int P4)] maxLocals)) t := fun t kt => pre6 t (by
        show Steps p.tables e below (T5.setTop (mkF m 28 #[.val (.long P0), .second, .val (.long P1), .second, .val (.long P2), .second, .val (.long P3), .second, .val (.int P4), .val (.ref b1), .val (.int (1 : Int32)), .unset, .unset] [(.int (P4 &&& (1 : Int32)))])) _
        refine XS.ifNo X5.here hx rfl (hb hby at_28) rfl ((if0 _ _).trans (feq hc28).1) ?_
        show Steps p.tables e below (T5.setTop (mkF m 31 #[.val (.long P0), .second, .val (.long P1), .second, .val (.long P2), .second, .val (.long P3), .second, .val (.int P4), .val (.ref b1), .val (.int (1 : Int32)), .unset, .unset] [])) _
        refine XS.aload X5.here hx rfl (hb hby at_31) rfl rfl ?_
        show Steps p.tables e below (T5.setTop (mkF m 33 #[.val (.long P0), .second, .val (.long P1), .second, .val (.long P2), .second, .val (.long P3), .second, .val (.int P4), .val (.ref b1), .val (.int (1 : Int32)), .unset, .unset] [(.ref b1)])) _
        refine XS.lload X5.here hx rfl (hb hby at_33) rfl ?_
        show Steps p.tables e below (T5.setTop (mkF m 35 #[.val (.long P0), .second, .val (.long P1), .second, .val (.long P2), .second, .val (.long P3), .second, .val (.int P4), .val (.ref b1), .val (.int (1 : Int32)), .unset, .unset] [(.long P2), (.ref b1)])) _
        refine XS.lload X5.here hx rfl (hb hby at_35) rfl ?_
        show Steps p.tables e below (T5.setTop (mkF m 37 #[.val (.long P0), .second, .val (.long P1), .second, .val (.long P2), .second, .val (.long P3), .second, .val (.int P4), .val (.ref b1), .val (.int (1 : Int32)), .unset, .unset] [(.long P3), (.long P2), (.ref b1)])) _
        refine st16.trans ?_
        show Steps p.tables e below (T16.setTop (mkF m 40 #[.val (.long P0), .second, .val (.long P1), .second, .val (.long P2), .second, .val (.long P3), .second, .val (.int P4), .val (.ref b1), .val (.int (1 : Int32)), .unset, .unset] [])) _
        refine XS.aload X16.here hx rfl (hb hby at_40) rfl rfl ?_
        show Steps p.tables e below (T16.setTop (mkF m 42 #[.val (.long P0), .second, .val (.long P1), .second, .val (.long P2), .second, .val (.long P3), .second, .val (.int P4), .val (.ref b1), .val (.int (1 : Int32)), .unset, .unset] [(.ref b1)])) _
        refine XS.lloadN X16.here hx rfl (hb hby at_42) rfl ?_
        show Steps p.tables e below (T16.setTop (mkF m 43 #[.val (.long P0), .second, .val (.long P1), .second, .val (.long P2), .second, .val (.long P3), .second, .val (.int P4), .val (.ref b1), .val (.int (1 : Int32)), .unset, .unset] [(.long P0), (.ref b1)])) _
        refine XS.lloadN X16.here hx rfl (hb hby at_43) rfl ?_
        show Steps p.tables e below (T16.setTop (mkF m 44 #[.val (.long P0), .second, .val (.long P1), .second, .val (.long P2), .second, .val (.long P3), .second, .val (.int P4), .val (.ref b1), .val (.int (1 : Int32)), .unset, .unset] [(.long P1), (.long P0), (.ref b1)])) _
        refine st18.trans ?_
        show Steps p.tables e below (T18.setTop (mkF m 47 #[.val (.long P0), .second, .val (.long P1), .second, .val (.long P2), .second, .val (.long P3), .second, .val (.int P4), .val (.ref b1), .val (.int (1 : Int32)), .unset, .unset] [])) _
        refine XS.lloadN X18.here hx rfl (hb hby at_47) rfl ?_
        show Steps p.tables e below (T18.setTop (mkF m 48 #[.val (.long P0), .second, .val (.long P1), .second, .val (.long P2), .second, .val (.long P3), .second, .val (.int P4), .val (.ref b1), .val (.int (1 : Int32)), .unset, .unset] [(.long P0)])) _
        refine XS.lloadN X18.here hx rfl (hb hby at_48) rfl ?_
        show Steps p.tables e below (T18.setTop (mkF m 49 #[.val (.long P0), .second, .val (.long P1), .second, .val (.long P2), .second, .val (.long P3), .second, .val (.int P4), .val (.ref b1), .val (.int (1 : Int32)), .unset, .unset] [(.long P1), (.long P0)])) _
        refine st20 _ ?_
        show Steps p.tables e below (T20.setTop (mkF m 52 #[.val (.long P0), .second, .val (.long P1), .second, .val (.long P2), .second, .val (.long P3), .second, .val (.int P4), .val (.ref b1), .val (.int (1 : Int32)), .unset, .unset] [(.long (own_fm P1)), (.long P0)])) _
        refine XS.lsub X20.here hx rfl (hb hby at_52) rfl ?_
        show Steps p.tables e below (T20.setTop (mkF m 53 #[.val (.long P0), .second, .val (.long P1), .second, .val (.long P2), .second, .val (.long P3), .second, .val (.int P4), .val (.ref b1), .val (.int (1 : Int32)), .unset, .unset] [(.long (P0 - (own_fm P1)))])) _
        refine XS.lstore X20.here hx rfl (hb hby at_53) rfl (l' := #[.val (.long P0), .second, .val (.long P1), .second, .val (.long P2), .second, .val (.long P3), .second, .val (.int P4), .val (.ref b1), .val (.int (1 : Int32)), .val (.long (P0 - (own_fm P1))), .second]) rfl ?_
        show Steps p.tables e below (T20.setTop (mkF m 55 #[.val (.long P0), .second, .val (.long P1), .second, .val (.long P2), .second, .val (.long P3), .second, .val (.int P4), .val (.ref b1), .val (.int (1 : Int32)), .val (.long (P0 - (own_fm P1))), .second] [])) _
        refine XS.lload X20.here hx rfl (hb hby at_55) rfl ?_
        show Steps p.tables e below (T20.setTop (mkF m 57 #[.val (.long P0), .second, .val (.long P1), .second, .val (.long P2), .second, .val (.long P3), .second, .val (.int P4), .val (.ref b1), .val (.int (1 : Int32)), .val (.long (P0 - (own_fm P1))), .second] [(.long (P0 - (own_fm P1)))])) _
        refine X20.ldc2Long hx hown (mvT hZ (hw _ (List.mem_of_getElem? (i := 34) rfl))) (g := (mkF m 57 #[.val (.long P0), .second, .val (.long P1), .second, .val (.long P2), .second, .val (.long P3), .second, .val (.int P4), .val (.ref b1), .val (.int (1 : Int32)), .val (.long (P0 - (own_fm P1))), .second] [(.long (P0 - (own_fm P1)))])) rfl (hb hby at_57) _ ?_
        show Steps p.tables e below (T20.setTop (mkF m 60 #[.val (.long P0), .second, .val (.long P1), .second, .val (.long P2), .second, .val (.long P3), .second, .val (.int P4), .val (.ref b1), .val (.int (1 : Int32)), .val (.long (P0 - (own_fm P1))), .second] [(.long (-9223372036854775808 : Int64)), (.long (P0 - (own_fm P1)))])) _
        refine XS.lcmp X20.here hx rfl (hb hby at_60) rfl ?_
        exact kt)
    by_cases hc61 : (P0 - (own_fm P1)) = (-9223372036854775808 : Int64)
    · obtain ⟨cq22, kq22, q22a, q22b, q22c⟩ := isOf hZ K20 p18_0
      obtain ⟨_, _, ⟨T22, L22, k22, n22⟩, -, X22, ⟨Lc22, hQ22, l22, y22, z22⟩, st22⟩ := X20.virtualBack hx (y := (⟨"com/example/holdfast/holdfast/NodeClock", "isKnown", "()Z"⟩ : MethodName)) (z := (⟨"com/example/holdfast/holdfast/NodeClock", "isKnown", "()Z"⟩ : MethodName)) hown (mvT hZ (hw _ (List.mem_of_getElem? (i := 12) rfl))) (mvT hZ (hw _ (List.mem_of_getElem? (i := 13) rfl))) (notFace_of_selects (args := #[]) (mvT hZ (hw _ (List.mem_of_getElem? (i := 15) rfl)))) (mvT hZ (hw _ (List.mem_of_getElem? (i := 15) rfl))) (mvT hZ (hw _ (List.mem_of_getElem? (i := 14) rfl))) (by decide) (backOf (W := 0) (rm3 l Z a0 hw [] b1 (P0 - (own_fd P1 ((1000 : Int32).toInt64))) T18.heap n0 Z19 p18_1) hZ (hw _ (List.mem_of_getElem? (i := 16) rfl)) (hw _ (List.mem_of_getElem? (i := 2) rfl)) (by decide) (by decide)) q22a q22c (g := (mkF m 71 #[.val (.long P0), .second, .val (.long P1), .second, .val (.long P2), .second, .val (.long P3), .second, .val (.int P4), .val (.ref b1), .val (.int (1 : Int32)), .val (.long (P0 - (own_fm P1))), .second] [(.ref b1)])) rfl (by rw [hml]; rfl) (Steps.refl _) (argsL := []) (rest := []) (lenOf pd_0_1 rfl) rfl (by show 2 * 0 + _ ≤ _; exact Nat.le_of_eq rfl) (hb hby at_71) (fun _ _ => ⟨rfl, K20, (by decide : 1 + 0 ≤ _), (by decide : 1 + 0 ≤ _)⟩)
      dsimp only [Pt.U, Pt.locs, Pt.cells, Pt.slots] at X22 l22 y22 z22 st22 hQ22
      subst l22 y22 z22
      obtain ⟨rfl, N22q, K22⟩ := hQ22
      have N22 := Fr.app N20 N22q
      have pre23 : ∀ t, Steps p.tables e below (T22.setTop (mkF m 82 #[.val (.long P0), .second, .val (.long P1), .second, .val (.long P2), .second, .val (.long P3), .second, .val (.int P4), .val (.ref b1), .val (.int (1 : Int32)), .val (.long (P0 - (own_fm P1))), .second] [(.int (1 : Int32))])) t → Steps p.tables e below (s₁.setTop (entryFrame m #[(.long P0), (.long P1), (.long P2), (.long P3), (.int P4)] maxLocals)) t := fun t kt => pre21 t (by
          show Steps p.tables e below (T20.setTop (mkF m 61 #[.val (.long P0), .second, .val (.long P1), .second, .val (.long P2), .second, .val (.long P3), .second, .val (.int P4), .val (.ref b1), .val (.int (1 : Int32)), .val (.long (P0 - (own_fm P1))), .second] [(.int (lcmpW (P0 - (own_fm P1)) (-9223372036854775808 : Int64)))])) _
          refine XS.ifNo X20.here hx rfl (hb hby at_61) rfl ((if0 _ _).trans (teq ((lw_eq (P0 - (own_fm P1)) (-9223372036854775808 : Int64)).mpr hc61)).2) ?_
          show Steps p.tables e below (T20.setTop (mkF m 64 #[.val (.long P0), .second, .val (.long P1), .second, .val (.long P2), .second, .val (.long P3), .second, .val (.int P4), .val (.ref b1), .val (.int (1 : Int32)), .val (.long (P0 - (own_fm P1))), .second] [])) _
          refine XS.iload X20.here hx rfl (hb hby at_64) rfl ?_
          show Steps p.tables e below (T20.setTop (mkF m 66 #[.val (.long P0), .second, .val (.long P1), .second, .val (.long P2), .second, .val (.long P3), .second, .val (.int P4), .val (.ref b1), .val (.int (1 : Int32)), .val (.long (P0 - (own_fm P1))), .second] [(.int (1 : Int32))])) _
          refine XS.ifNo X20.here hx rfl (hb hby at_66) rfl ((if0 _ _).trans (feq (show ¬ ((1 : Int32) = (0 : Int32)) from (by decide))).1) ?_
          show Steps p.tables e below (T20.setTop (mkF m 69 #[.val (.long P0), .second, .val (.long P1), .second, .val (.long P2), .second, .val (.long P3), .second, .val (.int P4), .val (.ref b1), .val (.int (1 : Int32)), .val (.long (P0 - (own_fm P1))), .second] [])) _
          refine XS.aload X20.here hx rfl (hb hby at_69) rfl rfl ?_
          show Steps p.tables e below (T20.setTop (mkF m 71 #[.val (.long P0), .second, .val (.long P1), .second, .val (.long P2), .second, .val (.long P3), .second, .val (.int P4), .val (.ref b1), .val (.int (1 : Int32)), .val (.long (P0 - (own_fm P1))), .second] [(.ref b1)])) _
          refine st22.trans ?_
          show Steps p.tables e below (T22.setTop (mkF m 74 #[.val (.long P0), .second, .val (.long P1), .second, .val (.long P2), .second, .val (.long P3), .second, .val (.int P4), .val (.ref b1), .val (.int (1 : Int32)), .val (.long (P0 - (own_fm P1))), .second] [(.int (if ¬ ((P0 - (own_fd P1 ((1000 : Int32).toInt64))) = (-9223372036854775808 : Int64)) then (1 : Int32) else (0 : Int32)))])) _
          refine XS.ifNo X22.here hx rfl (hb hby at_74) rfl ((if0 _ _).trans (teq (show (if ¬ ((P0 - (own_fd P1 ((1000 : Int32).toInt64))) = (-9223372036854775808 : Int64)) then (1 : Int32) else (0 : Int32)) = (0 : Int32) from if_neg (show ¬ (¬ ((P0 - (own_fd P1 ((1000 : Int32).toInt64))) = (-9223372036854775808 : Int64))) from (fun q => q (by rw [own_fdm]; exact hc61))))).2) ?_
          show Steps p.tables e below (T22.setTop (mkF m 77 #[.val (.long P0), .second, .val (.long P1), .second, .val (.long P2), .second, .val (.long P3), .second, .val (.int P4), .val (.ref b1), .val (.int (1 : Int32)), .val (.long (P0 - (own_fm P1))), .second] [])) _
          refine XS.iconst X22.here hx rfl (hb hby at_77) ?_
          show Steps p.tables e below (T22.setTop (mkF m 78 #[.val (.long P0), .second, .val (.long P1), .second, .val (.long P2), .second, .val (.long P3), .second, .val (.int P4), .val (.ref b1), .val (.int (1 : Int32)), .val (.long (P0 - (own_fm P1))), .second] [(.int (1 : Int32))])) _
          refine XS.goto X22.here hx rfl (pc0 := 78) (pc' := 82) rfl (hb hby at_78) (by decide) (by decide) ?_
          exact kt)
      obtain ⟨fs, hr, hrun, hended, hW, hsame⟩ := X22.leave (v := some (.int (1 : Int32))) (fun h => by rw [Bd.returns] at h; cases h)
      refine ⟨_, _, pre23 _ ?_, hrun, hended, _, _, rfl, ?_, ⟨_, rfl⟩, hW, hsame.mono (by decide) (by decide)⟩
      · show Steps p.tables e below (T22.setTop (mkF m 82 #[.val (.long P0), .second, .val (.long P1), .second, .val (.long P2), .second, .val (.long P3), .second, .val (.int P4), .val (.ref b1), .val (.int (1 : Int32)), .val (.long (P0 - (own_fm P1))), .second] [(.int (1 : Int32))])) _
        exact retN X22 hx (t := .boolean) Bd.returns (by simp) (hb hby at_82) hr
      · show Q0 Z P0 P1 P2 P3 P4 h0 n0 _ T22.heap _
        rw [K22]
        exact ⟨rfl, N22⟩
    · obtain ⟨cq24, kq24, q24a, q24b, q24c⟩ := isOf hZ K20 p18_0
      obtain ⟨_, _, ⟨T24, L24, k24, n24⟩, -, X24, ⟨Lc24, hQ24, l24, y24, z24⟩, st24⟩ := X20.virtualBack hx (y := (⟨"com/example/holdfast/holdfast/NodeClock", "isKnown", "()Z"⟩ : MethodName)) (z := (⟨"com/example/holdfast/holdfast/NodeClock", "isKnown", "()Z"⟩ : MethodName)) hown (mvT hZ (hw _ (List.mem_of_getElem? (i := 12) rfl))) (mvT hZ (hw _ (List.mem_of_getElem? (i := 13) rfl))) (notFace_of_selects (args := #[]) (mvT hZ (hw _ (List.mem_of_getElem? (i := 15) rfl)))) (mvT hZ (hw _ (List.mem_of_getElem? (i := 15) rfl))) (mvT hZ (hw _ (List.mem_of_getElem? (i := 14) rfl))) (by decide) (backOf (W := 0) (rm3 l Z a0 hw [] b1 (P0 - (own_fd P1 ((1000 : Int32).toInt64))) T18.heap n0 Z19 p18_1) hZ (hw _ (List.mem_of_getElem? (i := 16) rfl)) (hw _ (List.mem_of_getElem? (i := 2) rfl)) (by decide) (by decide)) q24a q24c (g := (mkF m 90 #[.val (.long P0), .second, .val (.long P1), .second, .val (.long P2), .second, .val (.long P3), .second, .val (.int P4), .val (.ref b1), .val (.int (1 : Int32)), .val (.long (P0 - (own_fm P1))), .second] [(.ref b1)])) rfl (by rw [hml]; rfl) (Steps.refl _) (argsL := []) (rest := []) (lenOf pd_0_1 rfl) rfl (by show 2 * 0 + _ ≤ _; exact Nat.le_of_eq rfl) (hb hby at_90) (fun _ _ => ⟨rfl, K20, (by decide : 1 + 0 ≤ _), (by decide : 1 + 0 ≤ _)⟩)
      dsimp only [Pt.U, Pt.locs, Pt.cells, Pt.slots] at X24 l24 y24 z24 st24 hQ24
      subst l24 y24 z24
      obtain ⟨rfl, N24q, K24⟩ := hQ24
      have N24 := Fr.app N20 N24q
      obtain ⟨cq25, kq25, q25a, q25b, q25c⟩ := isOf hZ K24 p18_0
      obtain ⟨_, _, ⟨T25, L25, k25, n25⟩, -, X25, ⟨Lc25, hQ25, l25, y25, z25⟩, st25⟩ := X24.virtualBack hx (y := (⟨"com/example/holdfast/holdfast/NodeClock", "deadline", "(JJ)J"⟩ : MethodName)) (z := (⟨"com/example/holdfast/holdfast/NodeClock", "deadline", "(JJ)J"⟩ : MethodName)) hown (mvT hZ (hw _ (List.mem_of_getElem? (i := 35) rfl))) (mvT hZ (hw _ (List.mem_of_getElem? (i := 36) rfl))) (notFace_of_selects (args := #[]) (mvT hZ (hw _ (List.mem_of_getElem? (i := 38) rfl)))) (mvT hZ (hw _ (List.mem_of_getElem? (i := 38) rfl))) (mvT hZ (hw _ (List.mem_of_getElem? (i := 37) rfl))) (by decide) (backOf (W := 0) (rm8 l Z a0 hw [] b1 (0 : Int64) (0 : Int64) (P0 - (own_fd P1 ((1000 : Int32).toInt64))) T18.heap n0 Z19 p18_1 (show ¬ ((P0 - (own_fd P1 ((1000 : Int32).toInt64))) = (-9223372036854775808 : Int64)) from (by rw [own_fdm]; exact hc61))) hZ (hw _ (List.mem_of_getElem? (i := 39) rfl)) (hw _ (List.mem_of_getElem? (i := 2) rfl)) (by decide) (by decide)) q25a q25c (g := (mkF m 100 #[.val (.long P0), .second, .val (.long P1), .second, .val (.long P2), .second, .val (.long P3), .second, .val (.int P4), .val (.ref b1), .val (.int (1 : Int32)), .val (.long (P0 - (own_fm P1))), .second] [(.long (0 : Int64)), (.long (0 : Int64)), (.ref b1)])) rfl (by rw [hml]; rfl) (Steps.refl _) (argsL := [(.long (0 : Int64)), (.long (0 : Int64))]) (rest := []) (lenOf pd_0_4 rfl) rfl (by show 2 * 0 + _ ≤ _; exact Nat.le_of_eq rfl) (hb hby at_100) (fun _ _ => ⟨rfl, K24, (by decide : 1 + 0 ≤ _), (by decide : 1 + 0 ≤ _)⟩)
      dsimp only [Pt.U, Pt.locs, Pt.cells, Pt.slots] at X25 l25 y25 z25 st25 hQ25
      subst l25 y25 z25
      obtain ⟨rfl, N25q, K25⟩ := hQ25
      have N25 := Fr.app N24 N25q
      have pre26 : ∀ t, Steps p.tables e below (T25.setTop (mkF m 114 #[.val (.long P0), .second, .val (.long P1), .second, .val (.long P2), .second, .val (.long P3), .second, .val (.int P4), .val (.ref b1), .val (.int (1 : Int32)), .val (.long (P0 - (own_fm P1))), .second] [(.int (1 : Int32))])) t → Steps p.tables e below (s₁.setTop (entryFrame m #[(.long P0), (.long P1), (.long P2), (.long P3), (.int P4)] maxLocals)) t := fun t kt => pre21 t (by
          show Steps p.tables e below (T20.setTop (mkF m 61 #[.val (.long P0), .second, .val (.long P1), .second, .val (.long P2), .second, .val (.long P3), .second, .val (.int P4), .val (.ref b1), .val (.int (1 : Int32)), .val (.long (P0 - (own_fm P1))), .second] [(.int (lcmpW (P0 - (own_fm P1)) (-9223372036854775808 : Int64)))])) _
          refine XS.ifYes X20.here hx rfl (pc0 := 61) (pc' := 83) rfl (hb hby at_61) rfl ((if0 _ _).trans (feq (fun q => hc61 ((lw_eq (P0 - (own_fm P1)) (-9223372036854775808 : Int64)).mp q))).2) (by decide) (by decide) ?_
          show Steps p.tables e below (T20.setTop (mkF m 83 #[.val (.long P0), .second, .val (.long P1), .second, .val (.long P2), .second, .val (.long P3), .second, .val (.int P4), .val (.ref b1), .val (.int (1 : Int32)), .val (.long (P0 - (own_fm P1))), .second] [])) _
          refine XS.iload X20.here hx rfl (hb hby at_83) rfl ?_
          show Steps p.tables e below (T20.setTop (mkF m 85 #[.val (.long P0), .second, .val (.long P1), .second, .val (.long P2), .second, .val (.long P3), .second, .val (.int P4), .val (.ref b1), .val (.int (1 : Int32)), .val (.long (P0 - (own_fm P1))), .second] [(.int (1 : Int32))])) _
          refine XS.ifNo X20.here hx rfl (hb hby at_85) rfl ((if0 _ _).trans (feq (show ¬ ((1 : Int32) = (0 : Int32)) from (by decide))).1) ?_
          show Steps p.tables e below (T20.setTop (mkF m 88 #[.val (.long P0), .second, .val (.long P1), .second, .val (.long P2), .second, .val (.long P3), .second, .val (.int P4), .val (.ref b1), .val (.int (1 : Int32)), .val (.long (P0 - (own_fm P1))), .second] [])) _
          refine XS.aload X20.here hx rfl (hb hby at_88) rfl rfl ?_
          show Steps p.tables e below (T20.setTop (mkF m 90 #[.val (.long P0), .second, .val (.long P1), .second, .val (.long P2), .second, .val (.long P3), .second, .val (.int P4), .val (.ref b1), .val (.int (1 : Int32)), .val (.long (P0 - (own_fm P1))), .second] [(.ref b1)])) _
          refine st24.trans ?_
          show Steps p.tables e below (T24.setTop (mkF m 93 #[.val (.long P0), .second, .val (.long P1), .second, .val (.long P2), .second, .val (.long P3), .second, .val (.int P4), .val (.ref b1), .val (.int (1 : Int32)), .val (.long (P0 - (own_fm P1))), .second] [(.int (if ¬ ((P0 - (own_fd P1 ((1000 : Int32).toInt64))) = (-9223372036854775808 : Int64)) then (1 : Int32) else (0 : Int32)))])) _
          refine XS.ifNo X24.here hx rfl (hb hby at_93) rfl ((if0 _ _).trans (feq (show ¬ ((if ¬ ((P0 - (own_fd P1 ((1000 : Int32).toInt64))) = (-9223372036854775808 : Int64)) then (1 : Int32) else (0 : Int32)) = (0 : Int32)) from by rw [if_pos (show ¬ ((P0 - (own_fd P1 ((1000 : Int32).toInt64))) = (-9223372036854775808 : Int64)) from (by rw [own_fdm]; exact hc61))]; decide)).1) ?_
          show Steps p.tables e below (T24.setTop (mkF m 96 #[.val (.long P0), .second, .val (.long P1), .second, .val (.long P2), .second, .val (.long P3), .second, .val (.int P4), .val (.ref b1), .val (.int (1 : Int32)), .val (.long (P0 - (own_fm P1))), .second] [])) _
          refine XS.aload X24.here hx rfl (hb hby at_96) rfl rfl ?_
          show Steps p.tables e below (T24.setTop (mkF m 98 #[.val (.long P0), .second, .val (.long P1), .second, .val (.long P2), .second, .val (.long P3), .second, .val (.int P4), .val (.ref b1), .val (.int (1 : Int32)), .val (.long (P0 - (own_fm P1))), .second] [(.ref b1)])) _
          refine XS.lconst X24.here hx rfl (hb hby at_98) ?_
          show Steps p.tables e below (T24.setTop (mkF m 99 #[.val (.long P0), .second, .val (.long P1), .second, .val (.long P2), .second, .val (.long P3), .second, .val (.int P4), .val (.ref b1), .val (.int (1 : Int32)), .val (.long (P0 - (own_fm P1))), .second] [(.long (0 : Int64)), (.ref b1)])) _
          refine XS.lconst X24.here hx rfl (hb hby at_99) ?_
          show Steps p.tables e below (T24.setTop (mkF m 100 #[.val (.long P0), .second, .val (.long P1), .second, .val (.long P2), .second, .val (.long P3), .second, .val (.int P4), .val (.ref b1), .val (.int (1 : Int32)), .val (.long (P0 - (own_fm P1))), .second] [(.long (0 : Int64)), (.long (0 : Int64)), (.ref b1)])) _
          refine st25.trans ?_
          show Steps p.tables e below (T25.setTop (mkF m 103 #[.val (.long P0), .second, .val (.long P1), .second, .val (.long P2), .second, .val (.long P3), .second, .val (.int P4), .val (.ref b1), .val (.int (1 : Int32)), .val (.long (P0 - (own_fm P1))), .second] [(.long (((own_fd (0 : Int64) ((1000 : Int32).toInt64)) + (own_fd (0 : Int64) ((1000 : Int32).toInt64))) + (P0 - (own_fd P1 ((1000 : Int32).toInt64)))))])) _
          refine XS.lload X25.here hx rfl (hb hby at_103) rfl ?_
          show Steps p.tables e below (T25.setTop (mkF m 105 #[.val (.long P0), .second, .val (.long P1), .second, .val (.long P2), .second, .val (.long P3), .second, .val (.int P4), .val (.ref b1), .val (.int (1 : Int32)), .val (.long (P0 - (own_fm P1))), .second] [(.long (P0 - (own_fm P1))), (.long (((own_fd (0 : Int64) ((1000 : Int32).toInt64)) + (own_fd (0 : Int64) ((1000 : Int32).toInt64))) + (P0 - (own_fd P1 ((1000 : Int32).toInt64)))))])) _
          refine XS.lcmp X25.here hx rfl (hb hby at_105) rfl ?_
          show Steps p.tables e below (T25.setTop (mkF m 106 #[.val (.long P0), .second, .val (.long P1), .second, .val (.long P2), .second, .val (.long P3), .second, .val (.int P4), .val (.ref b1), .val (.int (1 : Int32)), .val (.long (P0 - (own_fm P1))), .second] [(.int (lcmpW (((own_fd (0 : Int64) ((1000 : Int32).toInt64)) + (own_fd (0 : Int64) ((1000 : Int32).toInt64))) + (P0 - (own_fd P1 ((1000 : Int32).toInt64)))) (P0 - (own_fm P1))))])) _
          refine XS.ifNo X25.here hx rfl (hb hby at_106) rfl ((if0 _ _).trans (teq ((lw_eq (((own_fd (0 : Int64) ((1000 : Int32).toInt64)) + (own_fd (0 : Int64) ((1000 : Int32).toInt64))) + (P0 - (own_fd P1 ((1000 : Int32).toInt64)))) (P0 - (own_fm P1))).mpr (show (((own_fd (0 : Int64) ((1000 : Int32).toInt64)) + (own_fd (0 : Int64) ((1000 : Int32).toInt64))) + (P0 - (own_fd P1 ((1000 : Int32).toInt64)))) = (P0 - (own_fm P1)) from (own_dl _ _)))).2) ?_
          show Steps p.tables e below (T25.setTop (mkF m 109 #[.val (.long P0), .second, .val (.long P1), .second, .val (.long P2), .second, .val (.long P3), .second, .val (.int P4), .val (.ref b1), .val (.int (1 : Int32)), .val (.long (P0 - (own_fm P1))), .second] [])) _
          refine XS.iconst X25.here hx rfl (hb hby at_109) ?_
          show Steps p.tables e below (T25.setTop (mkF m 110 #[.val (.long P0), .second, .val (.long P1), .second, .val (.long P2), .second, .val (.long P3), .second, .val (.int P4), .val (.ref b1), .val (.int (1 : Int32)), .val (.long (P0 - (own_fm P1))), .second] [(.int (1 : Int32))])) _
          refine XS.goto X25.here hx rfl (pc0 := 110) (pc' := 114) rfl (hb hby at_110) (by decide) (by decide) ?_
          exact kt)
      obtain ⟨fs, hr, hrun, hended, hW, hsame⟩ := X25.leave (v := some (.int (1 : Int32))) (fun h => by rw [Bd.returns] at h; cases h)
      refine ⟨_, _, pre26 _ ?_, hrun, hended, _, _, rfl, ?_, ⟨_, rfl⟩, hW, hsame.mono (by decide) (by decide)⟩
      · show Steps p.tables e below (T25.setTop (mkF m 114 #[.val (.long P0), .second, .val (.long P1), .second, .val (.long P2), .second, .val (.long P3), .second, .val (.int P4), .val (.ref b1), .val (.int (1 : Int32)), .val (.long (P0 - (own_fm P1))), .second] [(.int (1 : Int32))])) _
        exact retN X25 hx (t := .boolean) Bd.returns (by simp) (hb hby at_114) hr
      · show Q0 Z P0 P1 P2 P3 P4 h0 n0 _ T25.heap _
        rw [K25]
        exact ⟨rfl, N25⟩
set_option maxRecDepth 65536 in
set_option maxHeartbeats 40000000 in
theorem comes_1 {Post : Tables → Env → Array Value → State → Outcome → State → Prop} (hpost : ∀ tb e args s v u, (limb_1_1.after args s (.returned v) u = true ∧ limb_1_2.after args s (.returned v) u = true ∧ True) → FrameEnd s (.returned v) u (Jvm.fieldLocs frame_1_writes args s ++ Jvm.arrayLocs frame_1_arrays args s ++ Jvm.staticLocs frame_1_statics s) 16 128 → Post tb e args s (.returned v) u) :
    ArmFor flags0 classFile x code maxLocals ret World_1 tables_1 room_1 Calls_1 rest_1 Pre_1 Post := by
  intro l hfl _ _ p e ha hc hk s m args below hf hA hF happ hP
  obtain ⟨hcalls, hrest, hpre⟩ := hP
  obtain ⟨-, -, -, hnamed, -, -, -, hat⟩ := (Spec.applies_iff hf).mp happ
  obtain ⟨hg, hn⟩ := and_e (Cond.before_iff.mp (show (Jvm.Cond.and given_1 narrow_1).before args s = true from hpre))
  obtain ⟨gv1, gv2⟩ := and_e hg
  obtain ⟨gv3, gv4⟩ := and_e gv2
  obtain ⟨gv5, gv6⟩ := and_e gv4
  obtain ⟨gv7, gv8⟩ := and_e gv6
  obtain ⟨gv9, gv10⟩ := and_e gv8
  obtain ⟨w0, w1, w2, w3, w4, rfl⟩ : ∃ w0 w1 w2 w3 w4 : Value, args = #[w0, w1, w2, w3, w4] := by
    have hs : args.size = 5 := by simpa [Cond.value, given_1] using gv1
    obtain ⟨L⟩ := args
    match L, hs with
    | [w0, w1, w2, w3, w4], _ => exact ⟨w0, w1, w2, w3, w4, rfl⟩
  have hw := fun d (hd : d ∈ tables_1) => atoms_spec (ws := Jvm.Cond.code x code maxLocals ret :: tables_1) hat d (List.mem_cons_of_mem _ hd)
  have hfit : Fit s := fun {y c} hc i hi => by
    obtain ⟨ha, rfl⟩ := Array.getElem?_eq_some_iff.mp hc
    have q := List.all_eq_true.mp ((Array.all_eq_true_iff_forall_mem.mp hF) _ (Array.getElem_mem ha)) i (List.mem_range.mpr hi)
    simpa [Array.getElem?_eq_getElem hi] using q
  obtain ⟨i0, ei0⟩ := isL_v gv3
  obtain rfl : w0 = (.long i0) := Option.some.inj ei0
  obtain ⟨i1, ei1⟩ := isL_v gv5
  obtain rfl : w1 = (.long i1) := Option.some.inj ei1
  obtain ⟨i2, ei2⟩ := isL_v gv7
  obtain rfl : w2 = (.long i2) := Option.some.inj ei2
  obtain ⟨i3, ei3⟩ := isL_v gv9
  obtain rfl : w3 = (.long i3) := Option.some.inj ei3
  obtain ⟨i4, ei4⟩ := is_v gv10
  obtain rfl : w4 = (.int i4) := Option.some.inj ei4
  obtain ⟨n, o, h1, h2, h3, _, L, rfl, ⟨rfl, N⟩, hq⟩ := rm0 l s _ hw tables_1 i0 i1 i2 i3 i4  s.heap s.heap.size (Nat.le_refl _)  p e ha hc hk s m _ below hf ((Spec.applies_iff_loose hf).mp happ).1 ⟨rfl, State.Warmed39.refl s, rfl⟩ trivial
  refine ⟨n, _, h1, h2, h3, hpost _ _ _ _ _ _ ⟨Cond.after_iff.mpr rfl, Cond.after_iff.mpr (eq_i res_at (Term.int_eval (1)) rfl), trivial⟩ ⟨hq.1, hq.2.1, (hq.2.2.sift fun y hy => Or.inr (N y hy)).mono (by decide) (by decide)⟩⟩
theorem main_1_1 : Claimed_1_1 := comes_1 fun _ _ _ _ _ _ h hF => ⟨h.1, hF⟩
theorem main_1_2 : Claimed_1_2 := comes_1 fun _ _ _ _ _ _ h hF => ⟨h.2.1, hF⟩
end Jvm.Pilot.@@N@@
namespace Jvm.Pilot.@@N@@
open Jvm Jvm.ClassFile Sem Op Lib Jvm.Free Jvm.Stand Jvm.Pilot.@@N@@.Jvm.D
/-! MADE BY PROGRAM (witnessworld.py) out of the Statement's table words and the real class files: 10 classes; the members and pool entries that the words name. The judged class is class 1, her method 2. -/
namespace start1
open Jvm.ClassFile
def u (s : String) : CpInfo := .utf8 (stringToUtf16 s)
/-- a pool by its gaps: so many unusable entries, then the entry; so many at the end -/
def gap : Nat → List CpInfo → List CpInfo
  | 0, r => r
  | n + 1, r => .unusable :: gap n r
def poolList (es : List (Nat × CpInfo)) (last : Nat) : List CpInfo := es.foldr (fun e r => gap e.1 (e.2 :: r)) (gap last [])
def pool (es : List (Nat × CpInfo)) (last : Nat) : Array CpInfo := ⟨poolList es last⟩
def fileOf (pool : Array CpInfo) (this : Nat) (attrs : Array Attribute := #[]) (ms : Array MethodInfo := #[]) (fl : Nat := 33) (sup : Nat := 0) (ifs : Array Nat := #[]) (fds : Array FieldInfo := #[]) : ClassFile where
  minorVersion := 0
  majorVersion := 65
  constantPool := pool
  accessFlags := fl
  thisClass := this
  superClass := sup
  interfaces := ifs
  fields := fds
  methods := ms
  attributes := attrs
def plain (name : String) (sup : Option ClassId) : Class where
  name := name
  kind := .ordinary
  loader := none
  accessFlags := 33
  super := sup
  interfaces := #[]
  cf := none
  fields := #[]
  methods := #[]
  instanceTypes := #[]
  staticTypes := #[]
  resolved := #[]
  callSites := []
  init := .initialized
  statics := none
  mirror := none

def pool0 : Array CpInfo := pool [(5, u "<init>"), (0, u "()V"), (1, .class_ 10), (1, u "java/lang/Object")] 113

def k0c0 : Code := { maxStack := 0, maxLocals := 1, code := object_method_1_code, exceptionTable := #[], attributes := #[] }
def k0m0 : Method := { name := "<init>", desc := "()V", sig := { parameters := [], returnType := none }, accessFlags := 1, code := some k0c0 }
/-- java/lang/Object -/
def k0 : Class := { plain "java/lang/Object" none with
  accessFlags := 33
  interfaces := #[]
  cf := some (fileOf pool0 8 #[] #[{ accessFlags := 1, nameIndex := 5, descriptorIndex := 6, attributes := #[] }] 33 0 #[] #[])
  fields := #[]
  methods := #[k0m0]
  instanceTypes := #[]
  staticTypes := #[]
  resolved := Array.replicate 124 none
  statics := none }

def pool1 : Array CpInfo := pool [(2, .class_ 4), (0, .nameAndType 5 6), (0, u "java/lang/Object"), (0, u "<init>"), (0, u "()V"), (0, .long 1000), (1, .class_ 10), (0, u "com/example/holdfast/holdfast/NodeClock"), (0, .methodref 9 3), (0, .methodref 9 13), (0, .nameAndType 14 15), (0, u "isKnown"), (0, u "()Z"), (0, .methodref 9 17), (0, .nameAndType 18 19), (0, u "read"), (0, u "(JJ)V"), (0, .methodref 21 22), (0, .class_ 23), (0, .nameAndType 24 25), (0, u "com/example/holdfast/holdfast/NodeClockReadPinLaw"), (0, u "floorMicros"), (0, u "(J)J"), (2, .long 9223372036854775808), (1, .methodref 9 31), (0, .nameAndType 32 33), (0, u "deadline"), (0, u "(JJ)J"), (3, u "law"), (0, u "(JJJJI)Z")] 2

def k1m0 : Method := { name := "<init>", desc := "()V", sig := { parameters := [], returnType := none }, accessFlags := 1, code := none }
def k1c1 : Code := { maxStack := 4, maxLocals := 4, code := method_2_code, exceptionTable := #[], attributes := #[] }
def k1m1 : Method := { name := "floorMicros", desc := "(J)J", sig := { parameters := [.long], returnType := some .long }, accessFlags := 10, code := some k1c1 }
def k1c2 : Code := { maxStack := 5, maxLocals := 13, code := code, exceptionTable := #[], attributes := #[] }
def k1m2 : Method := { name := "law", desc := "(JJJJI)Z", sig := { parameters := [.long, .long, .long, .long, .int], returnType := some .boolean }, accessFlags := 9, code := some k1c2 }
/-- com/example/holdfast/holdfast/NodeClockReadPinLaw -/
def k1 : Class := { plain "com/example/holdfast/holdfast/NodeClockReadPinLaw" (some 0) with
  accessFlags := 49
  interfaces := #[]
  cf := some (fileOf pool1 21 #[] #[{ accessFlags := 1, nameIndex := 5, descriptorIndex := 6, attributes := #[] }, { accessFlags := 10, nameIndex := 24, descriptorIndex := 25, attributes := #[] }, { accessFlags := 9, nameIndex := 37, descriptorIndex := 38, attributes := #[] }] 49 2 #[] #[])
  fields := #[]
  methods := #[k1m0, k1m1, k1m2]
  instanceTypes := #[]
  staticTypes := #[]
  resolved := Array.replicate 41 none
  statics := none }

def pool2 : Array CpInfo := pool [(3, .methodref 4 5), (0, .class_ 6), (0, .nameAndType 7 8), (0, u "java/lang/Object"), (0, u "<init>"), (0, u "()V"), (0, .class_ 10), (0, u "com/example/holdfast/holdfast/NodeClock"), (0, .long 9223372036854775808), (1, .fieldref 9 14), (0, .nameAndType 15 16), (0, u "leadMicros"), (0, u "J"), (0, .methodref 18 19), (0, .class_ 20), (0, .nameAndType 21 22), (0, u "java/lang/Math"), (0, u "floorDiv"), (0, u "(JI)J"), (7, u "UNKNOWN"), (3, u "isKnown"), (0, u "()Z"), (1, u "read"), (0, u "(JJ)V"), (0, u "deadline"), (0, u "(JJ)J")] 2

def k2c0 : Code := { maxStack := 3, maxLocals := 1, code := prog_9_method_1_code, exceptionTable := #[], attributes := #[] }
def k2m0 : Method := { name := "<init>", desc := "()V", sig := { parameters := [], returnType := none }, accessFlags := 0, code := some k2c0 }
def k2c1 : Code := { maxStack := 4, maxLocals := 1, code := prog_9_method_2_code, exceptionTable := #[], attributes := #[] }
def k2m1 : Method := { name := "isKnown", desc := "()Z", sig := { parameters := [], returnType := some .boolean }, accessFlags := 0, code := some k2c1 }
def k2c2 : Code := { maxStack := 6, maxLocals := 5, code := prog_9_method_3_code, exceptionTable := #[], attributes := #[] }
def k2m2 : Method := { name := "read", desc := "(JJ)V", sig := { parameters := [.long, .long], returnType := none }, accessFlags := 0, code := some k2c2 }
def k2c3 : Code := { maxStack := 5, maxLocals := 7, code := prog_9_method_4_code, exceptionTable := #[], attributes := #[] }
def k2m3 : Method := { name := "deadline", desc := "(JJ)J", sig := { parameters := [.long, .long], returnType := some .long }, accessFlags := 0, code := some k2c3 }
/-- com/example/holdfast/holdfast/NodeClock -/
def k2 : Class := { plain "com/example/holdfast/holdfast/NodeClock" (some 0) with
  accessFlags := 48
  interfaces := #[]
  cf := some (fileOf pool2 9 #[] #[{ accessFlags := 0, nameIndex := 7, descriptorIndex := 8, attributes := #[] }, { accessFlags := 0, nameIndex := 34, descriptorIndex := 35, attributes := #[] }, { accessFlags := 0, nameIndex := 37, descriptorIndex := 38, attributes := #[] }, { accessFlags := 0, nameIndex := 39, descriptorIndex := 40, attributes := #[] }] 48 4 #[] #[{ accessFlags := 26, nameIndex := 30, descriptorIndex := 16, attributes := #[] }, { accessFlags := 66, nameIndex := 15, descriptorIndex := 16, attributes := #[] }])
  fields := #[{ name := "UNKNOWN", type := .long, accessFlags := 26, slot := 0, constantValue := 0 }, { name := "leadMicros", type := .long, accessFlags := 66, slot := 0, constantValue := 0 }]
  methods := #[k2m0, k2m1, k2m2, k2m3]
  instanceTypes := #[.long]
  staticTypes := #[.long]
  resolved := Array.replicate 43 none
  statics := none }

def pool3 : Array CpInfo := pool [(1, .class_ 2), (0, u "java/lang/Math"), (1, .class_ 6), (1, u "java/lang/Object"), (0, u "<init>"), (0, u "()V"), (89, .class_ 100), (1, u "java/lang/Math$RandomNumberGeneratorHolder"), (20, u "(JJ)J"), (21, .methodref 1 144), (0, .nameAndType 145 121), (0, u "floorDiv"), (26, u "negativeZeroFloatBits"), (0, u "J"), (2, u "negativeZeroDoubleBits"), (68, u "$assertionsDisabled"), (0, u "Z"), (91, u "twoToTheDoubleScaleDown"), (0, u "D"), (4, u "twoToTheDoubleScaleUp"), (9, u "E"), (3, u "PI"), (2, u "TAU"), (2, u "DEGREES_TO_RADIANS"), (0, u "RADIANS_TO_DEGREES"), (29, u "(JI)J")] 64

def k3m0 : Method := { name := "<init>", desc := "()V", sig := { parameters := [], returnType := none }, accessFlags := 2, code := none }
def k3c1 : Code := { maxStack := 4, maxLocals := 3, code := jdk_29_method_48_code, exceptionTable := #[], attributes := #[] }
def k3m1 : Method := { name := "floorDiv", desc := "(JI)J", sig := { parameters := [.long, .int], returnType := some .long }, accessFlags := 9, code := some k3c1 }
def k3c2 : Code := { maxStack := 4, maxLocals := 6, code := jdk_29_method_49_code, exceptionTable := #[], attributes := #[] }
def k3m2 : Method := { name := "floorDiv", desc := "(JJ)J", sig := { parameters := [.long, .long], returnType := some .long }, accessFlags := 9, code := some k3c2 }
/-- java/lang/Math -/
def k3 : Class := { plain "java/lang/Math" (some 0) with
  accessFlags := 49
  interfaces := #[]
  cf := some (fileOf pool3 1 #[.nestMembers #[98]] #[{ accessFlags := 2, nameIndex := 7, descriptorIndex := 8, attributes := #[] }, { accessFlags := 9, nameIndex := 145, descriptorIndex := 395, attributes := #[] }, { accessFlags := 9, nameIndex := 145, descriptorIndex := 121, attributes := #[] }] 49 4 #[] #[{ accessFlags := 25, nameIndex := 354, descriptorIndex := 339, attributes := #[] }, { accessFlags := 25, nameIndex := 358, descriptorIndex := 339, attributes := #[] }, { accessFlags := 25, nameIndex := 361, descriptorIndex := 339, attributes := #[] }, { accessFlags := 26, nameIndex := 364, descriptorIndex := 339, attributes := #[] }, { accessFlags := 26, nameIndex := 365, descriptorIndex := 339, attributes := #[] }, { accessFlags := 26, nameIndex := 172, descriptorIndex := 173, attributes := #[] }, { accessFlags := 26, nameIndex := 176, descriptorIndex := 173, attributes := #[] }, { accessFlags := 8, nameIndex := 344, descriptorIndex := 339, attributes := #[] }, { accessFlags := 8, nameIndex := 338, descriptorIndex := 339, attributes := #[] }, { accessFlags := 4120, nameIndex := 245, descriptorIndex := 246, attributes := #[] }])
  fields := #[{ name := "E", type := .double, accessFlags := 25, slot := 0, constantValue := 0 }, { name := "PI", type := .double, accessFlags := 25, slot := 1, constantValue := 0 }, { name := "TAU", type := .double, accessFlags := 25, slot := 2, constantValue := 0 }, { name := "DEGREES_TO_RADIANS", type := .double, accessFlags := 26, slot := 3, constantValue := 0 }, { name := "RADIANS_TO_DEGREES", type := .double, accessFlags := 26, slot := 4, constantValue := 0 }, { name := "negativeZeroFloatBits", type := .long, accessFlags := 26, slot := 5, constantValue := 0 }, { name := "negativeZeroDoubleBits", type := .long, accessFlags := 26, slot := 6, constantValue := 0 }, { name := "twoToTheDoubleScaleUp", type := .double, accessFlags := 8, slot := 7, constantValue := 0 }, { name := "twoToTheDoubleScaleDown", type := .double, accessFlags := 8, slot := 8, constantValue := 0 }, { name := "$assertionsDisabled", type := .boolean, accessFlags := 4120, slot := 9, constantValue := 0 }]
  methods := #[k3m0, k3m1, k3m2]
  instanceTypes := #[]
  staticTypes := #[.double, .double, .double, .double, .double, .long, .long, .double, .double, .boolean]
  resolved := Array.replicate 460 none
  statics := none }

def pool4 : Array CpInfo := pool [(1, u "java/lang/Cloneable"), (0, .class_ 1), (0, u "java/lang/Object"), (0, .class_ 3)] 3

/-- java/lang/Cloneable -/
def k4 : Class := { plain "java/lang/Cloneable" (some 0) with
  accessFlags := 1537
  interfaces := #[]
  cf := some (fileOf pool4 2 #[] #[] 1537 4 #[] #[])
  fields := #[]
  methods := #[]
  instanceTypes := #[]
  staticTypes := #[]
  resolved := Array.replicate 8 none
  statics := none }

def pool5 : Array CpInfo := pool [(1, u "java/io/Serializable"), (0, .class_ 1), (0, u "java/lang/Object"), (0, .class_ 3)] 3

/-- java/io/Serializable -/
def k5 : Class := { plain "java/io/Serializable" (some 0) with
  accessFlags := 1537
  interfaces := #[]
  cf := some (fileOf pool5 2 #[] #[] 1537 4 #[] #[])
  fields := #[]
  methods := #[]
  instanceTypes := #[]
  staticTypes := #[]
  resolved := Array.replicate 8 none
  statics := none }

/-- the primitive byte -/
def k6 : Class := { plain "byte" none with kind := .primitive 'B', accessFlags := 0x411 }
/-- [B -/
def k7 : Class := { plain "[B" (some 0) with kind := .array 6 .byte, interfaces := #[4, 5], accessFlags := 1041 }

/-- the primitive int -/
def k8 : Class := { plain "int" none with kind := .primitive 'I', accessFlags := 0x411 }
/-- [I -/
def k9 : Class := { plain "[I" (some 0) with kind := .array 8 .int, interfaces := #[4, 5], accessFlags := 1041 }

def heap : Heap := #[]
def classes : Array Class := #[k0, k1, k2, k3, k4, k5, k6, k7, k8, k9]
def interned : List (Array UInt16 × Addr) := []
def slotsUsed : Nat := 0
def theMethod : MethodId := ⟨1, 2⟩
def args0 : Array Value := #[.long 5, .long 6, .long 7, .long 8, .int 1]
def aboutOver (below : List Frame) : State where
  vm := { classes := classes, interned := interned.toArray }
  heap := heap
  slotsUsed := slotsUsed
  threads := #[{ frames := .invoking theMethod args0 :: below }]
def below0 : List Frame := [.native { method := ⟨0, 0⟩, args := #[] }]
def about1 : State := aboutOver below0
def p0 : Program := .bare "" "" ""
def e0 : Env := launch0.env 0 0 0
theorem w_frames : about1.frames = Frame.invoking theMethod args0 :: below0 := rfl
set_option maxRecDepth 65536 in
theorem w_args : argsFit about1.vm theMethod args0 = true := by decide +kernel
set_option maxRecDepth 65536 in
theorem w_heap : heapFits about1 = true := by decide +kernel
set_option maxRecDepth 65536 in
theorem w_runnable : about1.curStatus? = some .runnable := by decide +kernel
set_option maxRecDepth 65536 in
theorem w_alone : about1.alone = true := by decide +kernel
set_option maxRecDepth 65536 in
theorem w_named : about1.methodNamed? x = some theMethod := by decide +kernel
set_option maxRecDepth 65536 in
theorem w_hears : about1.hears theMethod below0 = true := by decide +kernel
set_option maxRecDepth 65536 in
theorem w_ripe : about1.ripe theMethod args0 below0 = true := by decide +kernel
theorem w_running : about1.status = .running := rfl
set_option maxRecDepth 65536 in
theorem w_room : about1.hasRoom e0.platform room_1 = true :=
  launch0.hasRoom_least _ room_1 (by decide +kernel) (by decide +kernel) (by decide +kernel) (by decide +kernel) (by decide +kernel) (by decide +kernel)
theorem allAtoms_all (ts : List Jvm.Cond) (a : Array Jvm.Value) (st : Jvm.State) : (allAtoms ts).before a st = ts.all (fun c => c.before a st) := by
  induction ts with
  | nil => rfl
  | cons c t ih =>
    show (Jvm.Cond.and c (allAtoms t)).before a st = _
    rw [Jvm.Cond.before_and, ih, List.all_cons]
def words1 : List Jvm.Cond := Jvm.Cond.code x code maxLocals ret :: tables_1
/-- a 'code' word, met by the world's own term for the bytes: nothing is compared byte by byte -/
theorem code_word {y : MethodName} {bytes : ByteArray} {mx : Nat} {rt : Option FieldType} {a : Array Value} {s : State} {m : MethodId} {meth : Method} {c : Code} (h1 : s.methodNamed? y = some m) (h2 : s.vm.method? m = some meth) (h3 : meth.code = some c) (h4 : c.code = bytes)
    (h5 : (c.maxLocals == mx && c.exceptionTable.isEmpty && decide (c.maxStack ≤ mostOperands) && decide (meth.sig.returnType = rt) && !meth.locks && decide (parseMethodDescriptor y.desc = some meth.sig)) = true) : (Jvm.Cond.code y bytes mx rt).before a s = true := by
  simp only [Bool.and_eq_true, beq_iff_eq, Bool.not_eq_true', decide_eq_true_eq] at h5
  obtain ⟨⟨⟨⟨⟨g1, g2⟩, g3⟩, g4⟩, g5⟩, g6⟩ := h5
  simp [Cond.before, Cond.holds, Cond.value, h1, h2, h3, h4, g1, g2, g3, g4, g5, g6]
def isCode : Jvm.Cond → Bool
  | .code _ _ _ _ => true
  | _ => false
theorem all_split {L : List Jvm.Cond} {P : Jvm.Cond → Bool} (h1 : L.all (fun c => isCode c || P c) = true) (h2 : ∀ c ∈ L.filter isCode, P c = true) : L.all P = true := by
  refine List.all_eq_true.mpr fun c hc => ?_
  have h := List.all_eq_true.mp h1 c hc
  rcases Bool.eq_false_or_eq_true (isCode c) with hi | hi
  · exact h2 c (List.mem_filter.mpr ⟨hc, hi⟩)
  · simpa [hi] using h
set_option maxRecDepth 65536 in
theorem w_c0 : (Jvm.Cond.code x code maxLocals ret).before args0 about1 = true := code_word (m := ⟨1, 2⟩) (meth := k1m2) (c := k1c2) (by decide +kernel) rfl rfl rfl (by decide +kernel)
set_option maxRecDepth 65536 in
theorem w_c1 : (Jvm.Cond.code ({ cls := "com/example/holdfast/holdfast/NodeClock", name := "<init>", desc := "()V" } : Jvm.MethodName) prog_9_method_1_code (1 : Nat) (Option.none : Option Jvm.ClassFile.FieldType)).before args0 about1 = true := code_word (m := ⟨2, 0⟩) (meth := k2m0) (c := k2c0) (by decide +kernel) rfl rfl rfl (by decide +kernel)
set_option maxRecDepth 65536 in
theorem w_c2 : (Jvm.Cond.code ({ cls := "java/lang/Object", name := "<init>", desc := "()V" } : Jvm.MethodName) object_method_1_code (1 : Nat) (Option.none : Option Jvm.ClassFile.FieldType)).before args0 about1 = true := code_word (m := ⟨0, 0⟩) (meth := k0m0) (c := k0c0) (by decide +kernel) rfl rfl rfl (by decide +kernel)
set_option maxRecDepth 65536 in
theorem w_c3 : (Jvm.Cond.code ({ cls := "com/example/holdfast/holdfast/NodeClock", name := "isKnown", desc := "()Z" } : Jvm.MethodName) prog_9_method_2_code (1 : Nat) (Option.some Jvm.ClassFile.FieldType.boolean)).before args0 about1 = true := code_word (m := ⟨2, 1⟩) (meth := k2m1) (c := k2c1) (by decide +kernel) rfl rfl rfl (by decide +kernel)
set_option maxRecDepth 65536 in
theorem w_c4 : (Jvm.Cond.code ({ cls := "com/example/holdfast/holdfast/NodeClock", name := "read", desc := "(JJ)V" } : Jvm.MethodName) prog_9_method_3_code (5 : Nat) (Option.none : Option Jvm.ClassFile.FieldType)).before args0 about1 = true := code_word (m := ⟨2, 2⟩) (meth := k2m2) (c := k2c2) (by decide +kernel) rfl rfl rfl (by decide +kernel)
set_option maxRecDepth 65536 in
theorem w_c5 : (Jvm.Cond.code ({ cls := "java/lang/Math", name := "floorDiv", desc := "(JI)J" } : Jvm.MethodName) jdk_29_method_48_code (3 : Nat) (Option.some Jvm.ClassFile.FieldType.long)).before args0 about1 = true := code_word (m := ⟨3, 1⟩) (meth := k3m1) (c := k3c1) (by decide +kernel) rfl rfl rfl (by decide +kernel)
set_option maxRecDepth 65536 in
theorem w_c6 : (Jvm.Cond.code ({ cls := "java/lang/Math", name := "floorDiv", desc := "(JJ)J" } : Jvm.MethodName) jdk_29_method_49_code (6 : Nat) (Option.some Jvm.ClassFile.FieldType.long)).before args0 about1 = true := code_word (m := ⟨3, 2⟩) (meth := k3m2) (c := k3c2) (by decide +kernel) rfl rfl rfl (by decide +kernel)
set_option maxRecDepth 65536 in
theorem w_c7 : (Jvm.Cond.code ({ cls := "com/example/holdfast/holdfast/NodeClockReadPinLaw", name := "floorMicros", desc := "(J)J" } : Jvm.MethodName) method_2_code (4 : Nat) (Option.some Jvm.ClassFile.FieldType.long)).before args0 about1 = true := code_word (m := ⟨1, 1⟩) (meth := k1m1) (c := k1c1) (by decide +kernel) rfl rfl rfl (by decide +kernel)
set_option maxRecDepth 65536 in
theorem w_c8 : (Jvm.Cond.code ({ cls := "com/example/holdfast/holdfast/NodeClock", name := "deadline", desc := "(JJ)J" } : Jvm.MethodName) prog_9_method_4_code (7 : Nat) (Option.some Jvm.ClassFile.FieldType.long)).before args0 about1 = true := code_word (m := ⟨2, 3⟩) (meth := k2m3) (c := k2c3) (by decide +kernel) rfl rfl rfl (by decide +kernel)
def codes1 : List Jvm.Cond := [Jvm.Cond.code x code maxLocals ret, Jvm.Cond.code ({ cls := "com/example/holdfast/holdfast/NodeClock", name := "<init>", desc := "()V" } : Jvm.MethodName) prog_9_method_1_code (1 : Nat) (Option.none : Option Jvm.ClassFile.FieldType), Jvm.Cond.code ({ cls := "java/lang/Object", name := "<init>", desc := "()V" } : Jvm.MethodName) object_method_1_code (1 : Nat) (Option.none : Option Jvm.ClassFile.FieldType), Jvm.Cond.code ({ cls := "com/example/holdfast/holdfast/NodeClock", name := "isKnown", desc := "()Z" } : Jvm.MethodName) prog_9_method_2_code (1 : Nat) (Option.some Jvm.ClassFile.FieldType.boolean), Jvm.Cond.code ({ cls := "com/example/holdfast/holdfast/NodeClock", name := "read", desc := "(JJ)V" } : Jvm.MethodName) prog_9_method_3_code (5 : Nat) (Option.none : Option Jvm.ClassFile.FieldType), Jvm.Cond.code ({ cls := "java/lang/Math", name := "floorDiv", desc := "(JI)J" } : Jvm.MethodName) jdk_29_method_48_code (3 : Nat) (Option.some Jvm.ClassFile.FieldType.long), Jvm.Cond.code ({ cls := "java/lang/Math", name := "floorDiv", desc := "(JJ)J" } : Jvm.MethodName) jdk_29_method_49_code (6 : Nat) (Option.some Jvm.ClassFile.FieldType.long), Jvm.Cond.code ({ cls := "com/example/holdfast/holdfast/NodeClockReadPinLaw", name := "floorMicros", desc := "(J)J" } : Jvm.MethodName) method_2_code (4 : Nat) (Option.some Jvm.ClassFile.FieldType.long), Jvm.Cond.code ({ cls := "com/example/holdfast/holdfast/NodeClock", name := "deadline", desc := "(JJ)J" } : Jvm.MethodName) prog_9_method_4_code (7 : Nat) (Option.some Jvm.ClassFile.FieldType.long)]
set_option maxRecDepth 65536 in
theorem codes_eq : words1.filter isCode = codes1 := rfl
theorem w_codes : ∀ c ∈ words1.filter isCode, c.before args0 about1 = true := by
  rw [codes_eq]
  intro c hc
  simp only [codes1, List.mem_cons, List.not_mem_nil, or_false] at hc
  rcases hc with rfl | rfl | rfl | rfl | rfl | rfl | rfl | rfl | rfl
  · exact w_c0
  · exact w_c1
  · exact w_c2
  · exact w_c3
  · exact w_c4
  · exact w_c5
  · exact w_c6
  · exact w_c7
  · exact w_c8
set_option maxRecDepth 65536 in
theorem w_t1 : (words1.take 24).all (fun c => isCode c || c.before args0 about1) = true := by decide +kernel
set_option maxRecDepth 65536 in
theorem w_t2 : (words1.drop 24).all (fun c => isCode c || c.before args0 about1) = true := by decide +kernel
theorem w_tables : (allAtoms (Jvm.Cond.code x code maxLocals ret :: tables_1)).before args0 about1 = true := by
  rw [allAtoms_all]
  show words1.all (fun c => c.before args0 about1) = true
  refine all_split ?_ w_codes
  rw [← List.take_append_drop 24 words1, List.all_append, w_t1, w_t2]
  rfl
set_option maxRecDepth 65536 in
theorem w_case : (Jvm.Cond.and given_1 narrow_1).before args0 about1 = true := by decide +kernel
theorem w_applies : (headSpec (Jvm.Cond.code x code maxLocals ret :: tables_1) room_1).applies x e0.platform about1 = true :=
  (Spec.applies_iff w_frames).mpr ⟨w_running, w_runnable, w_alone, w_named, w_hears, w_ripe, w_room, w_tables⟩
theorem atStart : AtStart classFile x code maxLocals ret World_1 tables_1 room_1 Calls_1 rest_1 Pre_1 launch0 p0 e0 about1 theMethod args0 below0 :=
  ⟨lists_1, trivial, launch0.admits_env _ _ _, launch0.least_env, fairChoices_fair.cas, fairChoices_fair.clock, w_frames, w_args, w_heap, w_applies, trivial, trivial, w_case⟩
end start1
theorem witness_1 : WitnessClaimed_1 := ⟨start1.p0, start1.e0, start1.about1, start1.theMethod, start1.args0, start1.below0, start1.atStart⟩
end Jvm.Pilot.@@N@@
