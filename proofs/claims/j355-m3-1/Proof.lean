import JvmDerived
import JvmDerived.Pilot.@@N@@Statement
import JvmDerived.Pilot.@@N@@Code
set_option linter.unusedVariables false
set_option linter.unusedSimpArgs false
namespace Jvm.RoadKit
open Sem ClassFile Op Lib Jvm.Stand Jvm.Free Jvm.LawKit
section New
variable {p : Program} {l : Launch} {e : Env} {R : Room} {s : State} {m : MethodId} {args : Array Value} {below : List Frame} {meth : Method} {c : Code} {T : State} {locs : List Loc} {cells slots : Nat}
theorem retI (X : Stand p l e R s m args below meth c T locs cells slots) (hx : p.tables.exec = Jvm.exec) {pc : Nat} {Ls : Array Slot} {z : Int32} {rest : List Value} (hret : meth.sig.returnType = some .int) (hd : decode c.code pc = .ok (.ireturn, 1)) {fs : List Frame}
    (hl : ∀ (f : JFrame) (acts : List Action), f.method = m → f.locked = none → f.entered = [] → (doReturn e (T.setTop f) acts (some (.int z))).1 = T.setFrames fs) : Steps p.tables e below (T.setTop (mkF m pc Ls (.int z :: rest))) (T.setFrames fs) := by
  have hm' : T.vm.method? m = some meth := X.method'
  have hn : narrow .int (.int z) = .int z := rfl
  show Steps p.tables e below (T.setTop { method := m, pc := pc, locals := Ls, stack := _ :: rest, locked := none }) _
  jvm_step X.here [X.here.top, hx, hd, hm', hret, hn]
  first | (intro acts; rw [hl _ acts rfl rfl rfl]) | rw [hl _ _ rfl rfl rfl]
  exact Steps.refl _
end New
end Jvm.RoadKit
namespace Jvm.Pilot.@@N@@
open Jvm Jvm.ClassFile Sem Op Lib Jvm.Free Jvm.Stand Jvm.LawKit Jvm.RoadKit Bundle Jvm.Pilot.@@N@@.Jvm.D
def own_En (Z : State) (h : Heap) (f : String) (lo hi : Int32) : Prop := ∃ a : Addr, Sta Z h "com/example/postil/postil/query/Builtin" f "Lcom/example/postil/postil/query/Builtin;" (.ref a) ∧ Exa Z h a "com/example/postil/postil/query/Builtin" ∧ Fld Z h a "com/example/postil/postil/query/Builtin" "leastArity" "I" (.int lo) ∧ Fld Z h a "com/example/postil/postil/query/Builtin" "mostArity" "I" (.int hi)
theorem own_fint {args : Array Value} {s : State} {t : Term} {x : Addr} {C n d : String} {z : Int32} (ht : t.eval args s none [] s = some (.ref x)) (h : (Jvm.Cond.eq (Term.field t C n d) (Term.int z)).value args s none s [] = some true) : Fld s s.heap x C n d (.int z) := by
  obtain ⟨u, w, e1, e2, k1, k2⟩ := cmp_v (Or.inl h)
  rw [Term.int_eval] at e2
  cases e2
  obtain ⟨y, rfl⟩ := k2
  have q : y = z := by
    simp only [Cond.value, e1, Term.int_eval] at h
    simpa using h
  subst q
  exact Fld.start (by rw [← fld_at ht]; exact e1)
theorem own_en {args : Array Value} {s : State} {f : String} {lo hi : Int32} (h1 : (Jvm.Cond.exactly (Term.static "com/example/postil/postil/query/Builtin" f "Lcom/example/postil/postil/query/Builtin;") "com/example/postil/postil/query/Builtin").value args s none s [] = some true) (h2 : (Jvm.Cond.eq (Term.field (Term.static "com/example/postil/postil/query/Builtin" f "Lcom/example/postil/postil/query/Builtin;") "com/example/postil/postil/query/Builtin" "leastArity" "I") (Term.int lo)).value args s none s [] = some true) (h3 : (Jvm.Cond.eq (Term.field (Term.static "com/example/postil/postil/query/Builtin" f "Lcom/example/postil/postil/query/Builtin;") "com/example/postil/postil/query/Builtin" "mostArity" "I") (Term.int hi)).value args s none s [] = some true)
    (w1 : (Jvm.Cond.initialized "com/example/postil/postil/query/Builtin").before args s = true) (w2 : (Jvm.Cond.laysStatic "com/example/postil/postil/query/Builtin" f "Lcom/example/postil/postil/query/Builtin;").before args s = true) : own_En s s.heap f lo hi := by
  obtain ⟨a, ev⟩ := exa_v h1
  exact ⟨a, Sta.start ev (Or.inr ⟨w1, w2⟩), Exa.start ev h1, own_fint ev h2, own_fint ev h3⟩
def own_lo (k : Int32) : Int32 := if (k = 2 ∨ k = 4 ∨ k = 9) then 2 else 1
def own_hi (k : Int32) : Int32 := if k = 9 then 3 else (if (k = 2 ∨ k = 4) then 2 else 1)
theorem d1_0 : decode method_2_code 0 = .ok (.iload_n 0, 1) := by decide +kernel
theorem d1_1 : decode method_2_code 1 = .ok (.ifCond .ne 7, 3) := by decide +kernel
theorem d1_4 : decode method_2_code 4 = .ok (.getstatic 7, 3) := by decide +kernel
theorem d1_7 : decode method_2_code 7 = .ok (.areturn, 1) := by decide +kernel
theorem d1_8 : decode method_2_code 8 = .ok (.iload_n 0, 1) := by decide +kernel
theorem d1_9 : decode method_2_code 9 = .ok (.iconst 1, 1) := by decide +kernel
theorem d1_10 : decode method_2_code 10 = .ok (.if_icmp .ne 7, 3) := by decide +kernel
theorem d1_13 : decode method_2_code 13 = .ok (.getstatic 13, 3) := by decide +kernel
theorem d1_16 : decode method_2_code 16 = .ok (.areturn, 1) := by decide +kernel
theorem d1_17 : decode method_2_code 17 = .ok (.iload_n 0, 1) := by decide +kernel
theorem d1_18 : decode method_2_code 18 = .ok (.iconst 2, 1) := by decide +kernel
theorem d1_19 : decode method_2_code 19 = .ok (.if_icmp .ne 7, 3) := by decide +kernel
theorem d1_22 : decode method_2_code 22 = .ok (.getstatic 16, 3) := by decide +kernel
theorem d1_25 : decode method_2_code 25 = .ok (.areturn, 1) := by decide +kernel
theorem d1_26 : decode method_2_code 26 = .ok (.iload_n 0, 1) := by decide +kernel
theorem d1_27 : decode method_2_code 27 = .ok (.iconst 3, 1) := by decide +kernel
theorem d1_28 : decode method_2_code 28 = .ok (.if_icmp .ne 7, 3) := by decide +kernel
theorem d1_31 : decode method_2_code 31 = .ok (.getstatic 19, 3) := by decide +kernel
theorem d1_34 : decode method_2_code 34 = .ok (.areturn, 1) := by decide +kernel
theorem d1_35 : decode method_2_code 35 = .ok (.iload_n 0, 1) := by decide +kernel
theorem d1_36 : decode method_2_code 36 = .ok (.iconst 4, 1) := by decide +kernel
theorem d1_37 : decode method_2_code 37 = .ok (.if_icmp .ne 7, 3) := by decide +kernel
theorem d1_40 : decode method_2_code 40 = .ok (.getstatic 22, 3) := by decide +kernel
theorem d1_43 : decode method_2_code 43 = .ok (.areturn, 1) := by decide +kernel
theorem d1_44 : decode method_2_code 44 = .ok (.iload_n 0, 1) := by decide +kernel
theorem d1_45 : decode method_2_code 45 = .ok (.iconst 5, 1) := by decide +kernel
theorem d1_46 : decode method_2_code 46 = .ok (.if_icmp .ne 7, 3) := by decide +kernel
theorem d1_49 : decode method_2_code 49 = .ok (.getstatic 25, 3) := by decide +kernel
theorem d1_52 : decode method_2_code 52 = .ok (.areturn, 1) := by decide +kernel
theorem d1_53 : decode method_2_code 53 = .ok (.iload_n 0, 1) := by decide +kernel
theorem d1_54 : decode method_2_code 54 = .ok (.bipush 6, 2) := by decide +kernel
theorem d1_56 : decode method_2_code 56 = .ok (.if_icmp .ne 7, 3) := by decide +kernel
theorem d1_59 : decode method_2_code 59 = .ok (.getstatic 28, 3) := by decide +kernel
theorem d1_62 : decode method_2_code 62 = .ok (.areturn, 1) := by decide +kernel
theorem d1_63 : decode method_2_code 63 = .ok (.iload_n 0, 1) := by decide +kernel
theorem d1_64 : decode method_2_code 64 = .ok (.bipush 7, 2) := by decide +kernel
theorem d1_66 : decode method_2_code 66 = .ok (.if_icmp .ne 7, 3) := by decide +kernel
theorem d1_69 : decode method_2_code 69 = .ok (.getstatic 31, 3) := by decide +kernel
theorem d1_72 : decode method_2_code 72 = .ok (.areturn, 1) := by decide +kernel
theorem d1_73 : decode method_2_code 73 = .ok (.iload_n 0, 1) := by decide +kernel
theorem d1_74 : decode method_2_code 74 = .ok (.bipush 8, 2) := by decide +kernel
theorem d1_76 : decode method_2_code 76 = .ok (.if_icmp .ne 7, 3) := by decide +kernel
theorem d1_79 : decode method_2_code 79 = .ok (.getstatic 34, 3) := by decide +kernel
theorem d1_82 : decode method_2_code 82 = .ok (.areturn, 1) := by decide +kernel
theorem d1_83 : decode method_2_code 83 = .ok (.iload_n 0, 1) := by decide +kernel
theorem d1_84 : decode method_2_code 84 = .ok (.bipush 9, 2) := by decide +kernel
theorem d1_86 : decode method_2_code 86 = .ok (.if_icmp .ne 7, 3) := by decide +kernel
theorem d1_89 : decode method_2_code 89 = .ok (.getstatic 37, 3) := by decide +kernel
theorem d1_92 : decode method_2_code 92 = .ok (.areturn, 1) := by decide +kernel
theorem d1_93 : decode method_2_code 93 = .ok (.iload_n 0, 1) := by decide +kernel
theorem d1_94 : decode method_2_code 94 = .ok (.bipush 10, 2) := by decide +kernel
theorem d1_96 : decode method_2_code 96 = .ok (.if_icmp .ne 7, 3) := by decide +kernel
theorem d1_99 : decode method_2_code 99 = .ok (.getstatic 40, 3) := by decide +kernel
theorem d1_102 : decode method_2_code 102 = .ok (.areturn, 1) := by decide +kernel
theorem d1_103 : decode method_2_code 103 = .ok (.iload_n 0, 1) := by decide +kernel
theorem d1_104 : decode method_2_code 104 = .ok (.bipush 11, 2) := by decide +kernel
theorem d1_106 : decode method_2_code 106 = .ok (.if_icmp .ne 7, 3) := by decide +kernel
theorem d1_109 : decode method_2_code 109 = .ok (.getstatic 43, 3) := by decide +kernel
theorem d1_112 : decode method_2_code 112 = .ok (.areturn, 1) := by decide +kernel
theorem d1_113 : decode method_2_code 113 = .ok (.iload_n 0, 1) := by decide +kernel
theorem d1_114 : decode method_2_code 114 = .ok (.bipush 12, 2) := by decide +kernel
theorem d1_116 : decode method_2_code 116 = .ok (.if_icmp .ne 7, 3) := by decide +kernel
theorem d1_119 : decode method_2_code 119 = .ok (.getstatic 46, 3) := by decide +kernel
theorem d1_122 : decode method_2_code 122 = .ok (.areturn, 1) := by decide +kernel
theorem d1_123 : decode method_2_code 123 = .ok (.iload_n 0, 1) := by decide +kernel
theorem d1_124 : decode method_2_code 124 = .ok (.bipush 13, 2) := by decide +kernel
theorem d1_126 : decode method_2_code 126 = .ok (.if_icmp .ne 7, 3) := by decide +kernel
theorem d1_129 : decode method_2_code 129 = .ok (.getstatic 49, 3) := by decide +kernel
theorem d1_132 : decode method_2_code 132 = .ok (.areturn, 1) := by decide +kernel
theorem d1_133 : decode method_2_code 133 = .ok (.iload_n 0, 1) := by decide +kernel
theorem d1_134 : decode method_2_code 134 = .ok (.bipush 14, 2) := by decide +kernel
theorem d1_136 : decode method_2_code 136 = .ok (.if_icmp .ne 7, 3) := by decide +kernel
theorem d1_139 : decode method_2_code 139 = .ok (.getstatic 52, 3) := by decide +kernel
theorem d1_142 : decode method_2_code 142 = .ok (.areturn, 1) := by decide +kernel
theorem d1_143 : decode method_2_code 143 = .ok (.iload_n 0, 1) := by decide +kernel
theorem d1_144 : decode method_2_code 144 = .ok (.bipush 15, 2) := by decide +kernel
theorem d1_146 : decode method_2_code 146 = .ok (.if_icmp .ne 7, 3) := by decide +kernel
theorem d1_149 : decode method_2_code 149 = .ok (.getstatic 55, 3) := by decide +kernel
theorem d1_152 : decode method_2_code 152 = .ok (.areturn, 1) := by decide +kernel
theorem d1_153 : decode method_2_code 153 = .ok (.getstatic 58, 3) := by decide +kernel
theorem d1_156 : decode method_2_code 156 = .ok (.areturn, 1) := by decide +kernel
theorem pn_1 : plainName "com/example/postil/postil/query/BuiltinTakesPinLaw" = true := by first | (simp [plainName, overriddenIn]; done) | decide +kernel
theorem ef_1 (m : MethodId) (P0 : Int32) : entryFrame m #[(.int P0)] 1 = mkF m 0 #[.val (.int P0)] [] := by first | (simp [entryFrame, mkF, argsToLocals, Value.category]; done) | rfl
def Q1 (Z : State) (P0 : Int32) (h0 : Heap) (n0 : Nat) (v : Option Value) (h : Heap) (L : List Loc) : Prop := ∃ R0 : Addr, (v = some (.ref R0)) ∧ (Fr n0 L) ∧ (h = h0) ∧ (Exa Z h R0 "com/example/postil/postil/query/Builtin") ∧ (Fld Z h R0 "com/example/postil/postil/query/Builtin" "leastArity" "I" (.int (own_lo P0))) ∧ (Fld Z h R0 "com/example/postil/postil/query/Builtin" "mostArity" "I" (.int (own_hi P0)))
set_option maxRecDepth 65536 in
set_option maxHeartbeats 40000000 in
theorem rm1 (l : Launch) (Z : State) (a0 : Array Value) (hw : ∀ d ∈ tables_1, d.before a0 Z = true) (ws : List Jvm.Cond) (P0 : Int32) (h0 : Heap) (n0 : Nat) (Z0 : n0 ≤ h0.size) (hE0 : own_En Z h0 "STR" 1 1) (hE1 : own_En Z h0 "LANG" 1 1) (hE2 : own_En Z h0 "LANG_MATCHES" 2 2) (hE3 : own_En Z h0 "DATATYPE" 1 1) (hE4 : own_En Z h0 "SAME_TERM" 2 2) (hE5 : own_En Z h0 "IS_IRI" 1 1) (hE6 : own_En Z h0 "IS_URI" 1 1) (hE7 : own_En Z h0 "IS_BLANK" 1 1) (hE8 : own_En Z h0 "IS_LITERAL" 1 1) (hE9 : own_En Z h0 "REGEX" 2 3) (hE10 : own_En Z h0 "TO_STRING" 1 1) (hE11 : own_En Z h0 "TO_BOOLEAN" 1 1) (hE12 : own_En Z h0 "TO_INTEGER" 1 1) (hE13 : own_En Z h0 "TO_DECIMAL" 1 1) (hE14 : own_En Z h0 "TO_FLOAT" 1 1) (hE15 : own_En Z h0 "TO_DOUBLE" 1 1) (hE16 : own_En Z h0 "TO_DATE_TIME" 1 1) :
    MetFree l (⟨"com/example/postil/postil/query/BuiltinTakesPinLaw", "pick", "(I)Lcom/example/postil/postil/query/Builtin;"⟩ : MethodName) (head1 (Jvm.Cond.code (⟨"com/example/postil/postil/query/BuiltinTakesPinLaw", "pick", "(I)Lcom/example/postil/postil/query/Builtin;"⟩ : MethodName) method_2_code 1 (some (.object "com/example/postil/postil/query/Builtin")) :: ws) ({ frames := 0, cells := 0, slots := 0, locals := 0 } : Room)) (fun a U => a = #[(.int P0)] ∧ Z.Warmed39 U.vm ∧ U.heap = h0) (fun _ _ _ _ _ => True) (fun _ U o U' => ∃ v L, o = .returned v ∧ Q1 Z P0 h0 n0 v U'.heap L ∧ FrameEnd U o U' L ({ frames := 0, cells := 0, slots := 0, locals := 0 } : Room).cells ({ frames := 0, cells := 0, slots := 0, locals := 0 } : Room).slots) := by
  refine MetFree.of_bodySF (plainFor_of_name pn_1) hisR ?_
  intro p e s m args below meth c s₁ Bd hml0 hP hK
  obtain ⟨rfl, hZ, hh⟩ := hP
  have hx := Bd.exec
  have hby := Bd.bytes
  have hml : c.maxLocals = 1 := hml0
  have hown : s.vm.findClass "com/example/postil/postil/query/BuiltinTakesPinLaw" = some m.cls := findClass_of_methodNamed Bd.named
  have hnm := (name_of_methodNamed Bd.named Bd.method).1
  have X0 : Stand p l e ({ frames := 0, cells := 0, slots := 0, locals := 0 } : Room) s m #[(.int P0)] below meth c s₁ [] 0 0 := Stand.of_body Bd
  have e0 : s₁.heap = h0 := by rw [← hh, Bd.state]; rfl
  have N0 := Fr.nil n0
  have pre0 : ∀ t, Steps p.tables e below (s₁.setTop (mkF m 0 #[.val (.int P0)] [])) t → Steps p.tables e below (s₁.setTop (entryFrame m #[(.int P0)] 1)) t := fun t k => castTop (ef_1 m P0) k
  have pre101 : ∀ t, Steps p.tables e below (s₁.setTop (mkF m 1 #[.val (.int P0)] [(.int P0)])) t → Steps p.tables e below (s₁.setTop (entryFrame m #[(.int P0)] 1)) t := fun t kt => pre0 t (by
      show Steps p.tables e below (s₁.setTop (mkF m 0 #[.val (.int P0)] [])) _
      refine XS.iloadN X0.here hx rfl (hb hby d1_0) rfl ?_
      exact kt)
  by_cases hc1 : P0 = (0 : Int32)
  · obtain ⟨r0, hS0, hX0, hL0, hM0⟩ := hE0
    obtain ⟨T102, X102, e102, st102⟩ := getS2 X0 hx hZ hown (host := "") (Or.inl (hw _ (List.mem_of_getElem? (i := 5) rfl))) Via.refl e0 hS0 (g := (mkF m 4 #[.val (.int P0)] [])) rfl (hb hby d1_4)
    have pre103 : ∀ t, Steps p.tables e below (T102.setTop (mkF m 7 #[.val (.int P0)] [(.ref r0)])) t → Steps p.tables e below (s₁.setTop (entryFrame m #[(.int P0)] 1)) t := fun t kt => pre101 t (by
        show Steps p.tables e below (s₁.setTop (mkF m 1 #[.val (.int P0)] [(.int P0)])) _
        refine XS.ifNo X0.here hx rfl (hb hby d1_1) rfl ((if0 _ _).trans (teq hc1).2) ?_
        show Steps p.tables e below (s₁.setTop (mkF m 4 #[.val (.int P0)] [])) _
        refine st102 _ ?_
        exact kt)
    obtain ⟨fs, hr, hrun, hended, hW, hsame⟩ := X102.leave (v := some (.ref r0)) (fun h => by rw [Bd.returns] at h; cases h)
    refine ⟨_, _, pre103 _ ?_, hrun, hended, _, _, rfl, ?_, ⟨_, rfl⟩, hW, hsame.mono (by decide) (by decide)⟩
    · show Steps p.tables e below (T102.setTop (mkF m 7 #[.val (.int P0)] [(.ref r0)])) _
      exact retOut X102 hx Bd.returns rfl (Or.inr (Or.inr (Or.inr (Or.inr ⟨rfl, rfl, rfl⟩)))) (hb hby d1_7) hr
    · show Q1 Z P0 h0 n0 _ T102.heap _
      rw [e102]
      exact ⟨r0, rfl, N0, rfl, hX0, (by rw [show own_lo P0 = (1 : Int32) from by rw [hc1]; decide]; exact hL0), (by rw [show own_hi P0 = (1 : Int32) from by rw [hc1]; decide]; exact hM0)⟩
  · have pre104 : ∀ t, Steps p.tables e below (s₁.setTop (mkF m 10 #[.val (.int P0)] [(.int (1 : Int32)), (.int P0)])) t → Steps p.tables e below (s₁.setTop (entryFrame m #[(.int P0)] 1)) t := fun t kt => pre101 t (by
        show Steps p.tables e below (s₁.setTop (mkF m 1 #[.val (.int P0)] [(.int P0)])) _
        refine XS.ifYes X0.here hx rfl (pc0 := 1) (pc' := 8) rfl (hb hby d1_1) rfl ((if0 _ _).trans (feq hc1).2) (by decide) (by decide) ?_
        show Steps p.tables e below (s₁.setTop (mkF m 8 #[.val (.int P0)] [])) _
        refine XS.iloadN X0.here hx rfl (hb hby d1_8) rfl ?_
        show Steps p.tables e below (s₁.setTop (mkF m 9 #[.val (.int P0)] [(.int P0)])) _
        refine XS.iconst X0.here hx rfl (hb hby d1_9) ?_
        exact kt)
    by_cases hc10 : P0 = (1 : Int32)
    · obtain ⟨r1, hS1, hX1, hL1, hM1⟩ := hE1
      obtain ⟨T105, X105, e105, st105⟩ := getS2 X0 hx hZ hown (host := "") (Or.inl (hw _ (List.mem_of_getElem? (i := 20) rfl))) Via.refl e0 hS1 (g := (mkF m 13 #[.val (.int P0)] [])) rfl (hb hby d1_13)
      have pre106 : ∀ t, Steps p.tables e below (T105.setTop (mkF m 16 #[.val (.int P0)] [(.ref r1)])) t → Steps p.tables e below (s₁.setTop (entryFrame m #[(.int P0)] 1)) t := fun t kt => pre104 t (by
          show Steps p.tables e below (s₁.setTop (mkF m 10 #[.val (.int P0)] [(.int (1 : Int32)), (.int P0)])) _
          refine XS.icmpNo X0.here hx rfl (hb hby d1_10) rfl (teq hc10).2 ?_
          show Steps p.tables e below (s₁.setTop (mkF m 13 #[.val (.int P0)] [])) _
          refine st105 _ ?_
          exact kt)
      obtain ⟨fs, hr, hrun, hended, hW, hsame⟩ := X105.leave (v := some (.ref r1)) (fun h => by rw [Bd.returns] at h; cases h)
      refine ⟨_, _, pre106 _ ?_, hrun, hended, _, _, rfl, ?_, ⟨_, rfl⟩, hW, hsame.mono (by decide) (by decide)⟩
      · show Steps p.tables e below (T105.setTop (mkF m 16 #[.val (.int P0)] [(.ref r1)])) _
        exact retOut X105 hx Bd.returns rfl (Or.inr (Or.inr (Or.inr (Or.inr ⟨rfl, rfl, rfl⟩)))) (hb hby d1_16) hr
      · show Q1 Z P0 h0 n0 _ T105.heap _
        rw [e105]
        exact ⟨r1, rfl, N0, rfl, hX1, (by rw [show own_lo P0 = (1 : Int32) from by rw [hc10]; decide]; exact hL1), (by rw [show own_hi P0 = (1 : Int32) from by rw [hc10]; decide]; exact hM1)⟩
    · have pre107 : ∀ t, Steps p.tables e below (s₁.setTop (mkF m 19 #[.val (.int P0)] [(.int (2 : Int32)), (.int P0)])) t → Steps p.tables e below (s₁.setTop (entryFrame m #[(.int P0)] 1)) t := fun t kt => pre104 t (by
          show Steps p.tables e below (s₁.setTop (mkF m 10 #[.val (.int P0)] [(.int (1 : Int32)), (.int P0)])) _
          refine XS.icmpYes X0.here hx rfl (pc0 := 10) (pc' := 17) rfl (hb hby d1_10) rfl (feq hc10).2 (by decide) (by decide) ?_
          show Steps p.tables e below (s₁.setTop (mkF m 17 #[.val (.int P0)] [])) _
          refine XS.iloadN X0.here hx rfl (hb hby d1_17) rfl ?_
          show Steps p.tables e below (s₁.setTop (mkF m 18 #[.val (.int P0)] [(.int P0)])) _
          refine XS.iconst X0.here hx rfl (hb hby d1_18) ?_
          exact kt)
      by_cases hc19 : P0 = (2 : Int32)
      · obtain ⟨r2, hS2, hX2, hL2, hM2⟩ := hE2
        obtain ⟨T108, X108, e108, st108⟩ := getS2 X0 hx hZ hown (host := "") (Or.inl (hw _ (List.mem_of_getElem? (i := 38) rfl))) Via.refl e0 hS2 (g := (mkF m 22 #[.val (.int P0)] [])) rfl (hb hby d1_22)
        have pre109 : ∀ t, Steps p.tables e below (T108.setTop (mkF m 25 #[.val (.int P0)] [(.ref r2)])) t → Steps p.tables e below (s₁.setTop (entryFrame m #[(.int P0)] 1)) t := fun t kt => pre107 t (by
            show Steps p.tables e below (s₁.setTop (mkF m 19 #[.val (.int P0)] [(.int (2 : Int32)), (.int P0)])) _
            refine XS.icmpNo X0.here hx rfl (hb hby d1_19) rfl (teq hc19).2 ?_
            show Steps p.tables e below (s₁.setTop (mkF m 22 #[.val (.int P0)] [])) _
            refine st108 _ ?_
            exact kt)
        obtain ⟨fs, hr, hrun, hended, hW, hsame⟩ := X108.leave (v := some (.ref r2)) (fun h => by rw [Bd.returns] at h; cases h)
        refine ⟨_, _, pre109 _ ?_, hrun, hended, _, _, rfl, ?_, ⟨_, rfl⟩, hW, hsame.mono (by decide) (by decide)⟩
        · show Steps p.tables e below (T108.setTop (mkF m 25 #[.val (.int P0)] [(.ref r2)])) _
          exact retOut X108 hx Bd.returns rfl (Or.inr (Or.inr (Or.inr (Or.inr ⟨rfl, rfl, rfl⟩)))) (hb hby d1_25) hr
        · show Q1 Z P0 h0 n0 _ T108.heap _
          rw [e108]
          exact ⟨r2, rfl, N0, rfl, hX2, (by rw [show own_lo P0 = (2 : Int32) from by rw [hc19]; decide]; exact hL2), (by rw [show own_hi P0 = (2 : Int32) from by rw [hc19]; decide]; exact hM2)⟩
      · have pre110 : ∀ t, Steps p.tables e below (s₁.setTop (mkF m 28 #[.val (.int P0)] [(.int (3 : Int32)), (.int P0)])) t → Steps p.tables e below (s₁.setTop (entryFrame m #[(.int P0)] 1)) t := fun t kt => pre107 t (by
            show Steps p.tables e below (s₁.setTop (mkF m 19 #[.val (.int P0)] [(.int (2 : Int32)), (.int P0)])) _
            refine XS.icmpYes X0.here hx rfl (pc0 := 19) (pc' := 26) rfl (hb hby d1_19) rfl (feq hc19).2 (by decide) (by decide) ?_
            show Steps p.tables e below (s₁.setTop (mkF m 26 #[.val (.int P0)] [])) _
            refine XS.iloadN X0.here hx rfl (hb hby d1_26) rfl ?_
            show Steps p.tables e below (s₁.setTop (mkF m 27 #[.val (.int P0)] [(.int P0)])) _
            refine XS.iconst X0.here hx rfl (hb hby d1_27) ?_
            exact kt)
        by_cases hc28 : P0 = (3 : Int32)
        · obtain ⟨r3, hS3, hX3, hL3, hM3⟩ := hE3
          obtain ⟨T111, X111, e111, st111⟩ := getS2 X0 hx hZ hown (host := "") (Or.inl (hw _ (List.mem_of_getElem? (i := 30) rfl))) Via.refl e0 hS3 (g := (mkF m 31 #[.val (.int P0)] [])) rfl (hb hby d1_31)
          have pre112 : ∀ t, Steps p.tables e below (T111.setTop (mkF m 34 #[.val (.int P0)] [(.ref r3)])) t → Steps p.tables e below (s₁.setTop (entryFrame m #[(.int P0)] 1)) t := fun t kt => pre110 t (by
              show Steps p.tables e below (s₁.setTop (mkF m 28 #[.val (.int P0)] [(.int (3 : Int32)), (.int P0)])) _
              refine XS.icmpNo X0.here hx rfl (hb hby d1_28) rfl (teq hc28).2 ?_
              show Steps p.tables e below (s₁.setTop (mkF m 31 #[.val (.int P0)] [])) _
              refine st111 _ ?_
              exact kt)
          obtain ⟨fs, hr, hrun, hended, hW, hsame⟩ := X111.leave (v := some (.ref r3)) (fun h => by rw [Bd.returns] at h; cases h)
          refine ⟨_, _, pre112 _ ?_, hrun, hended, _, _, rfl, ?_, ⟨_, rfl⟩, hW, hsame.mono (by decide) (by decide)⟩
          · show Steps p.tables e below (T111.setTop (mkF m 34 #[.val (.int P0)] [(.ref r3)])) _
            exact retOut X111 hx Bd.returns rfl (Or.inr (Or.inr (Or.inr (Or.inr ⟨rfl, rfl, rfl⟩)))) (hb hby d1_34) hr
          · show Q1 Z P0 h0 n0 _ T111.heap _
            rw [e111]
            exact ⟨r3, rfl, N0, rfl, hX3, (by rw [show own_lo P0 = (1 : Int32) from by rw [hc28]; decide]; exact hL3), (by rw [show own_hi P0 = (1 : Int32) from by rw [hc28]; decide]; exact hM3)⟩
        · have pre113 : ∀ t, Steps p.tables e below (s₁.setTop (mkF m 37 #[.val (.int P0)] [(.int (4 : Int32)), (.int P0)])) t → Steps p.tables e below (s₁.setTop (entryFrame m #[(.int P0)] 1)) t := fun t kt => pre110 t (by
              show Steps p.tables e below (s₁.setTop (mkF m 28 #[.val (.int P0)] [(.int (3 : Int32)), (.int P0)])) _
              refine XS.icmpYes X0.here hx rfl (pc0 := 28) (pc' := 35) rfl (hb hby d1_28) rfl (feq hc28).2 (by decide) (by decide) ?_
              show Steps p.tables e below (s₁.setTop (mkF m 35 #[.val (.int P0)] [])) _
              refine XS.iloadN X0.here hx rfl (hb hby d1_35) rfl ?_
              show Steps p.tables e below (s₁.setTop (mkF m 36 #[.val (.int P0)] [(.int P0)])) _
              refine XS.iconst X0.here hx rfl (hb hby d1_36) ?_
              exact kt)
          by_cases hc37 : P0 = (4 : Int32)
          · obtain ⟨r4, hS4, hX4, hL4, hM4⟩ := hE4
            obtain ⟨T114, X114, e114, st114⟩ := getS2 X0 hx hZ hown (host := "") (Or.inl (hw _ (List.mem_of_getElem? (i := 40) rfl))) Via.refl e0 hS4 (g := (mkF m 40 #[.val (.int P0)] [])) rfl (hb hby d1_40)
            have pre115 : ∀ t, Steps p.tables e below (T114.setTop (mkF m 43 #[.val (.int P0)] [(.ref r4)])) t → Steps p.tables e below (s₁.setTop (entryFrame m #[(.int P0)] 1)) t := fun t kt => pre113 t (by
                show Steps p.tables e below (s₁.setTop (mkF m 37 #[.val (.int P0)] [(.int (4 : Int32)), (.int P0)])) _
                refine XS.icmpNo X0.here hx rfl (hb hby d1_37) rfl (teq hc37).2 ?_
                show Steps p.tables e below (s₁.setTop (mkF m 40 #[.val (.int P0)] [])) _
                refine st114 _ ?_
                exact kt)
            obtain ⟨fs, hr, hrun, hended, hW, hsame⟩ := X114.leave (v := some (.ref r4)) (fun h => by rw [Bd.returns] at h; cases h)
            refine ⟨_, _, pre115 _ ?_, hrun, hended, _, _, rfl, ?_, ⟨_, rfl⟩, hW, hsame.mono (by decide) (by decide)⟩
            · show Steps p.tables e below (T114.setTop (mkF m 43 #[.val (.int P0)] [(.ref r4)])) _
              exact retOut X114 hx Bd.returns rfl (Or.inr (Or.inr (Or.inr (Or.inr ⟨rfl, rfl, rfl⟩)))) (hb hby d1_43) hr
            · show Q1 Z P0 h0 n0 _ T114.heap _
              rw [e114]
              exact ⟨r4, rfl, N0, rfl, hX4, (by rw [show own_lo P0 = (2 : Int32) from by rw [hc37]; decide]; exact hL4), (by rw [show own_hi P0 = (2 : Int32) from by rw [hc37]; decide]; exact hM4)⟩
          · have pre116 : ∀ t, Steps p.tables e below (s₁.setTop (mkF m 46 #[.val (.int P0)] [(.int (5 : Int32)), (.int P0)])) t → Steps p.tables e below (s₁.setTop (entryFrame m #[(.int P0)] 1)) t := fun t kt => pre113 t (by
                show Steps p.tables e below (s₁.setTop (mkF m 37 #[.val (.int P0)] [(.int (4 : Int32)), (.int P0)])) _
                refine XS.icmpYes X0.here hx rfl (pc0 := 37) (pc' := 44) rfl (hb hby d1_37) rfl (feq hc37).2 (by decide) (by decide) ?_
                show Steps p.tables e below (s₁.setTop (mkF m 44 #[.val (.int P0)] [])) _
                refine XS.iloadN X0.here hx rfl (hb hby d1_44) rfl ?_
                show Steps p.tables e below (s₁.setTop (mkF m 45 #[.val (.int P0)] [(.int P0)])) _
                refine XS.iconst X0.here hx rfl (hb hby d1_45) ?_
                exact kt)
            by_cases hc46 : P0 = (5 : Int32)
            · obtain ⟨r5, hS5, hX5, hL5, hM5⟩ := hE5
              obtain ⟨T117, X117, e117, st117⟩ := getS2 X0 hx hZ hown (host := "") (Or.inl (hw _ (List.mem_of_getElem? (i := 42) rfl))) Via.refl e0 hS5 (g := (mkF m 49 #[.val (.int P0)] [])) rfl (hb hby d1_49)
              have pre118 : ∀ t, Steps p.tables e below (T117.setTop (mkF m 52 #[.val (.int P0)] [(.ref r5)])) t → Steps p.tables e below (s₁.setTop (entryFrame m #[(.int P0)] 1)) t := fun t kt => pre116 t (by
                  show Steps p.tables e below (s₁.setTop (mkF m 46 #[.val (.int P0)] [(.int (5 : Int32)), (.int P0)])) _
                  refine XS.icmpNo X0.here hx rfl (hb hby d1_46) rfl (teq hc46).2 ?_
                  show Steps p.tables e below (s₁.setTop (mkF m 49 #[.val (.int P0)] [])) _
                  refine st117 _ ?_
                  exact kt)
              obtain ⟨fs, hr, hrun, hended, hW, hsame⟩ := X117.leave (v := some (.ref r5)) (fun h => by rw [Bd.returns] at h; cases h)
              refine ⟨_, _, pre118 _ ?_, hrun, hended, _, _, rfl, ?_, ⟨_, rfl⟩, hW, hsame.mono (by decide) (by decide)⟩
              · show Steps p.tables e below (T117.setTop (mkF m 52 #[.val (.int P0)] [(.ref r5)])) _
                exact retOut X117 hx Bd.returns rfl (Or.inr (Or.inr (Or.inr (Or.inr ⟨rfl, rfl, rfl⟩)))) (hb hby d1_52) hr
              · show Q1 Z P0 h0 n0 _ T117.heap _
                rw [e117]
                exact ⟨r5, rfl, N0, rfl, hX5, (by rw [show own_lo P0 = (1 : Int32) from by rw [hc46]; decide]; exact hL5), (by rw [show own_hi P0 = (1 : Int32) from by rw [hc46]; decide]; exact hM5)⟩
            · have pre119 : ∀ t, Steps p.tables e below (s₁.setTop (mkF m 56 #[.val (.int P0)] [(.int (6 : Int32)), (.int P0)])) t → Steps p.tables e below (s₁.setTop (entryFrame m #[(.int P0)] 1)) t := fun t kt => pre116 t (by
                  show Steps p.tables e below (s₁.setTop (mkF m 46 #[.val (.int P0)] [(.int (5 : Int32)), (.int P0)])) _
                  refine XS.icmpYes X0.here hx rfl (pc0 := 46) (pc' := 53) rfl (hb hby d1_46) rfl (feq hc46).2 (by decide) (by decide) ?_
                  show Steps p.tables e below (s₁.setTop (mkF m 53 #[.val (.int P0)] [])) _
                  refine XS.iloadN X0.here hx rfl (hb hby d1_53) rfl ?_
                  show Steps p.tables e below (s₁.setTop (mkF m 54 #[.val (.int P0)] [(.int P0)])) _
                  refine XS.bipush X0.here hx rfl (hb hby d1_54) ?_
                  exact kt)
              by_cases hc56 : P0 = (6 : Int32)
              · obtain ⟨r6, hS6, hX6, hL6, hM6⟩ := hE6
                obtain ⟨T120, X120, e120, st120⟩ := getS2 X0 hx hZ hown (host := "") (Or.inl (hw _ (List.mem_of_getElem? (i := 46) rfl))) Via.refl e0 hS6 (g := (mkF m 59 #[.val (.int P0)] [])) rfl (hb hby d1_59)
                have pre121 : ∀ t, Steps p.tables e below (T120.setTop (mkF m 62 #[.val (.int P0)] [(.ref r6)])) t → Steps p.tables e below (s₁.setTop (entryFrame m #[(.int P0)] 1)) t := fun t kt => pre119 t (by
                    show Steps p.tables e below (s₁.setTop (mkF m 56 #[.val (.int P0)] [(.int (6 : Int32)), (.int P0)])) _
                    refine XS.icmpNo X0.here hx rfl (hb hby d1_56) rfl (teq hc56).2 ?_
                    show Steps p.tables e below (s₁.setTop (mkF m 59 #[.val (.int P0)] [])) _
                    refine st120 _ ?_
                    exact kt)
                obtain ⟨fs, hr, hrun, hended, hW, hsame⟩ := X120.leave (v := some (.ref r6)) (fun h => by rw [Bd.returns] at h; cases h)
                refine ⟨_, _, pre121 _ ?_, hrun, hended, _, _, rfl, ?_, ⟨_, rfl⟩, hW, hsame.mono (by decide) (by decide)⟩
                · show Steps p.tables e below (T120.setTop (mkF m 62 #[.val (.int P0)] [(.ref r6)])) _
                  exact retOut X120 hx Bd.returns rfl (Or.inr (Or.inr (Or.inr (Or.inr ⟨rfl, rfl, rfl⟩)))) (hb hby d1_62) hr
                · show Q1 Z P0 h0 n0 _ T120.heap _
                  rw [e120]
                  exact ⟨r6, rfl, N0, rfl, hX6, (by rw [show own_lo P0 = (1 : Int32) from by rw [hc56]; decide]; exact hL6), (by rw [show own_hi P0 = (1 : Int32) from by rw [hc56]; decide]; exact hM6)⟩
              · have pre122 : ∀ t, Steps p.tables e below (s₁.setTop (mkF m 66 #[.val (.int P0)] [(.int (7 : Int32)), (.int P0)])) t → Steps p.tables e below (s₁.setTop (entryFrame m #[(.int P0)] 1)) t := fun t kt => pre119 t (by
                    show Steps p.tables e below (s₁.setTop (mkF m 56 #[.val (.int P0)] [(.int (6 : Int32)), (.int P0)])) _
                    refine XS.icmpYes X0.here hx rfl (pc0 := 56) (pc' := 63) rfl (hb hby d1_56) rfl (feq hc56).2 (by decide) (by decide) ?_
                    show Steps p.tables e below (s₁.setTop (mkF m 63 #[.val (.int P0)] [])) _
                    refine XS.iloadN X0.here hx rfl (hb hby d1_63) rfl ?_
                    show Steps p.tables e below (s₁.setTop (mkF m 64 #[.val (.int P0)] [(.int P0)])) _
                    refine XS.bipush X0.here hx rfl (hb hby d1_64) ?_
                    exact kt)
                by_cases hc66 : P0 = (7 : Int32)
                · obtain ⟨r7, hS7, hX7, hL7, hM7⟩ := hE7
                  obtain ⟨T123, X123, e123, st123⟩ := getS2 X0 hx hZ hown (host := "") (Or.inl (hw _ (List.mem_of_getElem? (i := 36) rfl))) Via.refl e0 hS7 (g := (mkF m 69 #[.val (.int P0)] [])) rfl (hb hby d1_69)
                  have pre124 : ∀ t, Steps p.tables e below (T123.setTop (mkF m 72 #[.val (.int P0)] [(.ref r7)])) t → Steps p.tables e below (s₁.setTop (entryFrame m #[(.int P0)] 1)) t := fun t kt => pre122 t (by
                      show Steps p.tables e below (s₁.setTop (mkF m 66 #[.val (.int P0)] [(.int (7 : Int32)), (.int P0)])) _
                      refine XS.icmpNo X0.here hx rfl (hb hby d1_66) rfl (teq hc66).2 ?_
                      show Steps p.tables e below (s₁.setTop (mkF m 69 #[.val (.int P0)] [])) _
                      refine st123 _ ?_
                      exact kt)
                  obtain ⟨fs, hr, hrun, hended, hW, hsame⟩ := X123.leave (v := some (.ref r7)) (fun h => by rw [Bd.returns] at h; cases h)
                  refine ⟨_, _, pre124 _ ?_, hrun, hended, _, _, rfl, ?_, ⟨_, rfl⟩, hW, hsame.mono (by decide) (by decide)⟩
                  · show Steps p.tables e below (T123.setTop (mkF m 72 #[.val (.int P0)] [(.ref r7)])) _
                    exact retOut X123 hx Bd.returns rfl (Or.inr (Or.inr (Or.inr (Or.inr ⟨rfl, rfl, rfl⟩)))) (hb hby d1_72) hr
                  · show Q1 Z P0 h0 n0 _ T123.heap _
                    rw [e123]
                    exact ⟨r7, rfl, N0, rfl, hX7, (by rw [show own_lo P0 = (1 : Int32) from by rw [hc66]; decide]; exact hL7), (by rw [show own_hi P0 = (1 : Int32) from by rw [hc66]; decide]; exact hM7)⟩
                · have pre125 : ∀ t, Steps p.tables e below (s₁.setTop (mkF m 76 #[.val (.int P0)] [(.int (8 : Int32)), (.int P0)])) t → Steps p.tables e below (s₁.setTop (entryFrame m #[(.int P0)] 1)) t := fun t kt => pre122 t (by
                      show Steps p.tables e below (s₁.setTop (mkF m 66 #[.val (.int P0)] [(.int (7 : Int32)), (.int P0)])) _
                      refine XS.icmpYes X0.here hx rfl (pc0 := 66) (pc' := 73) rfl (hb hby d1_66) rfl (feq hc66).2 (by decide) (by decide) ?_
                      show Steps p.tables e below (s₁.setTop (mkF m 73 #[.val (.int P0)] [])) _
                      refine XS.iloadN X0.here hx rfl (hb hby d1_73) rfl ?_
                      show Steps p.tables e below (s₁.setTop (mkF m 74 #[.val (.int P0)] [(.int P0)])) _
                      refine XS.bipush X0.here hx rfl (hb hby d1_74) ?_
                      exact kt)
                  by_cases hc76 : P0 = (8 : Int32)
                  · obtain ⟨r8, hS8, hX8, hL8, hM8⟩ := hE8
                    obtain ⟨T126, X126, e126, st126⟩ := getS2 X0 hx hZ hown (host := "") (Or.inl (hw _ (List.mem_of_getElem? (i := 24) rfl))) Via.refl e0 hS8 (g := (mkF m 79 #[.val (.int P0)] [])) rfl (hb hby d1_79)
                    have pre127 : ∀ t, Steps p.tables e below (T126.setTop (mkF m 82 #[.val (.int P0)] [(.ref r8)])) t → Steps p.tables e below (s₁.setTop (entryFrame m #[(.int P0)] 1)) t := fun t kt => pre125 t (by
                        show Steps p.tables e below (s₁.setTop (mkF m 76 #[.val (.int P0)] [(.int (8 : Int32)), (.int P0)])) _
                        refine XS.icmpNo X0.here hx rfl (hb hby d1_76) rfl (teq hc76).2 ?_
                        show Steps p.tables e below (s₁.setTop (mkF m 79 #[.val (.int P0)] [])) _
                        refine st126 _ ?_
                        exact kt)
                    obtain ⟨fs, hr, hrun, hended, hW, hsame⟩ := X126.leave (v := some (.ref r8)) (fun h => by rw [Bd.returns] at h; cases h)
                    refine ⟨_, _, pre127 _ ?_, hrun, hended, _, _, rfl, ?_, ⟨_, rfl⟩, hW, hsame.mono (by decide) (by decide)⟩
                    · show Steps p.tables e below (T126.setTop (mkF m 82 #[.val (.int P0)] [(.ref r8)])) _
                      exact retOut X126 hx Bd.returns rfl (Or.inr (Or.inr (Or.inr (Or.inr ⟨rfl, rfl, rfl⟩)))) (hb hby d1_82) hr
                    · show Q1 Z P0 h0 n0 _ T126.heap _
                      rw [e126]
                      exact ⟨r8, rfl, N0, rfl, hX8, (by rw [show own_lo P0 = (1 : Int32) from by rw [hc76]; decide]; exact hL8), (by rw [show own_hi P0 = (1 : Int32) from by rw [hc76]; decide]; exact hM8)⟩
                  · have pre128 : ∀ t, Steps p.tables e below (s₁.setTop (mkF m 86 #[.val (.int P0)] [(.int (9 : Int32)), (.int P0)])) t → Steps p.tables e below (s₁.setTop (entryFrame m #[(.int P0)] 1)) t := fun t kt => pre125 t (by
                        show Steps p.tables e below (s₁.setTop (mkF m 76 #[.val (.int P0)] [(.int (8 : Int32)), (.int P0)])) _
                        refine XS.icmpYes X0.here hx rfl (pc0 := 76) (pc' := 83) rfl (hb hby d1_76) rfl (feq hc76).2 (by decide) (by decide) ?_
                        show Steps p.tables e below (s₁.setTop (mkF m 83 #[.val (.int P0)] [])) _
                        refine XS.iloadN X0.here hx rfl (hb hby d1_83) rfl ?_
                        show Steps p.tables e below (s₁.setTop (mkF m 84 #[.val (.int P0)] [(.int P0)])) _
                        refine XS.bipush X0.here hx rfl (hb hby d1_84) ?_
                        exact kt)
                    by_cases hc86 : P0 = (9 : Int32)
                    · obtain ⟨r9, hS9, hX9, hL9, hM9⟩ := hE9
                      obtain ⟨T129, X129, e129, st129⟩ := getS2 X0 hx hZ hown (host := "") (Or.inl (hw _ (List.mem_of_getElem? (i := 48) rfl))) Via.refl e0 hS9 (g := (mkF m 89 #[.val (.int P0)] [])) rfl (hb hby d1_89)
                      have pre130 : ∀ t, Steps p.tables e below (T129.setTop (mkF m 92 #[.val (.int P0)] [(.ref r9)])) t → Steps p.tables e below (s₁.setTop (entryFrame m #[(.int P0)] 1)) t := fun t kt => pre128 t (by
                          show Steps p.tables e below (s₁.setTop (mkF m 86 #[.val (.int P0)] [(.int (9 : Int32)), (.int P0)])) _
                          refine XS.icmpNo X0.here hx rfl (hb hby d1_86) rfl (teq hc86).2 ?_
                          show Steps p.tables e below (s₁.setTop (mkF m 89 #[.val (.int P0)] [])) _
                          refine st129 _ ?_
                          exact kt)
                      obtain ⟨fs, hr, hrun, hended, hW, hsame⟩ := X129.leave (v := some (.ref r9)) (fun h => by rw [Bd.returns] at h; cases h)
                      refine ⟨_, _, pre130 _ ?_, hrun, hended, _, _, rfl, ?_, ⟨_, rfl⟩, hW, hsame.mono (by decide) (by decide)⟩
                      · show Steps p.tables e below (T129.setTop (mkF m 92 #[.val (.int P0)] [(.ref r9)])) _
                        exact retOut X129 hx Bd.returns rfl (Or.inr (Or.inr (Or.inr (Or.inr ⟨rfl, rfl, rfl⟩)))) (hb hby d1_92) hr
                      · show Q1 Z P0 h0 n0 _ T129.heap _
                        rw [e129]
                        exact ⟨r9, rfl, N0, rfl, hX9, (by rw [show own_lo P0 = (2 : Int32) from by rw [hc86]; decide]; exact hL9), (by rw [show own_hi P0 = (3 : Int32) from by rw [hc86]; decide]; exact hM9)⟩
                    · have pre131 : ∀ t, Steps p.tables e below (s₁.setTop (mkF m 96 #[.val (.int P0)] [(.int (10 : Int32)), (.int P0)])) t → Steps p.tables e below (s₁.setTop (entryFrame m #[(.int P0)] 1)) t := fun t kt => pre128 t (by
                          show Steps p.tables e below (s₁.setTop (mkF m 86 #[.val (.int P0)] [(.int (9 : Int32)), (.int P0)])) _
                          refine XS.icmpYes X0.here hx rfl (pc0 := 86) (pc' := 93) rfl (hb hby d1_86) rfl (feq hc86).2 (by decide) (by decide) ?_
                          show Steps p.tables e below (s₁.setTop (mkF m 93 #[.val (.int P0)] [])) _
                          refine XS.iloadN X0.here hx rfl (hb hby d1_93) rfl ?_
                          show Steps p.tables e below (s₁.setTop (mkF m 94 #[.val (.int P0)] [(.int P0)])) _
                          refine XS.bipush X0.here hx rfl (hb hby d1_94) ?_
                          exact kt)
                      by_cases hc96 : P0 = (10 : Int32)
                      · obtain ⟨r10, hS10, hX10, hL10, hM10⟩ := hE10
                        obtain ⟨T132, X132, e132, st132⟩ := getS2 X0 hx hZ hown (host := "") (Or.inl (hw _ (List.mem_of_getElem? (i := 32) rfl))) Via.refl e0 hS10 (g := (mkF m 99 #[.val (.int P0)] [])) rfl (hb hby d1_99)
                        have pre133 : ∀ t, Steps p.tables e below (T132.setTop (mkF m 102 #[.val (.int P0)] [(.ref r10)])) t → Steps p.tables e below (s₁.setTop (entryFrame m #[(.int P0)] 1)) t := fun t kt => pre131 t (by
                            show Steps p.tables e below (s₁.setTop (mkF m 96 #[.val (.int P0)] [(.int (10 : Int32)), (.int P0)])) _
                            refine XS.icmpNo X0.here hx rfl (hb hby d1_96) rfl (teq hc96).2 ?_
                            show Steps p.tables e below (s₁.setTop (mkF m 99 #[.val (.int P0)] [])) _
                            refine st132 _ ?_
                            exact kt)
                        obtain ⟨fs, hr, hrun, hended, hW, hsame⟩ := X132.leave (v := some (.ref r10)) (fun h => by rw [Bd.returns] at h; cases h)
                        refine ⟨_, _, pre133 _ ?_, hrun, hended, _, _, rfl, ?_, ⟨_, rfl⟩, hW, hsame.mono (by decide) (by decide)⟩
                        · show Steps p.tables e below (T132.setTop (mkF m 102 #[.val (.int P0)] [(.ref r10)])) _
                          exact retOut X132 hx Bd.returns rfl (Or.inr (Or.inr (Or.inr (Or.inr ⟨rfl, rfl, rfl⟩)))) (hb hby d1_102) hr
                        · show Q1 Z P0 h0 n0 _ T132.heap _
                          rw [e132]
                          exact ⟨r10, rfl, N0, rfl, hX10, (by rw [show own_lo P0 = (1 : Int32) from by rw [hc96]; decide]; exact hL10), (by rw [show own_hi P0 = (1 : Int32) from by rw [hc96]; decide]; exact hM10)⟩
                      · have pre134 : ∀ t, Steps p.tables e below (s₁.setTop (mkF m 106 #[.val (.int P0)] [(.int (11 : Int32)), (.int P0)])) t → Steps p.tables e below (s₁.setTop (entryFrame m #[(.int P0)] 1)) t := fun t kt => pre131 t (by
                            show Steps p.tables e below (s₁.setTop (mkF m 96 #[.val (.int P0)] [(.int (10 : Int32)), (.int P0)])) _
                            refine XS.icmpYes X0.here hx rfl (pc0 := 96) (pc' := 103) rfl (hb hby d1_96) rfl (feq hc96).2 (by decide) (by decide) ?_
                            show Steps p.tables e below (s₁.setTop (mkF m 103 #[.val (.int P0)] [])) _
                            refine XS.iloadN X0.here hx rfl (hb hby d1_103) rfl ?_
                            show Steps p.tables e below (s₁.setTop (mkF m 104 #[.val (.int P0)] [(.int P0)])) _
                            refine XS.bipush X0.here hx rfl (hb hby d1_104) ?_
                            exact kt)
                        by_cases hc106 : P0 = (11 : Int32)
                        · obtain ⟨r11, hS11, hX11, hL11, hM11⟩ := hE11
                          obtain ⟨T135, X135, e135, st135⟩ := getS2 X0 hx hZ hown (host := "") (Or.inl (hw _ (List.mem_of_getElem? (i := 22) rfl))) Via.refl e0 hS11 (g := (mkF m 109 #[.val (.int P0)] [])) rfl (hb hby d1_109)
                          have pre136 : ∀ t, Steps p.tables e below (T135.setTop (mkF m 112 #[.val (.int P0)] [(.ref r11)])) t → Steps p.tables e below (s₁.setTop (entryFrame m #[(.int P0)] 1)) t := fun t kt => pre134 t (by
                              show Steps p.tables e below (s₁.setTop (mkF m 106 #[.val (.int P0)] [(.int (11 : Int32)), (.int P0)])) _
                              refine XS.icmpNo X0.here hx rfl (hb hby d1_106) rfl (teq hc106).2 ?_
                              show Steps p.tables e below (s₁.setTop (mkF m 109 #[.val (.int P0)] [])) _
                              refine st135 _ ?_
                              exact kt)
                          obtain ⟨fs, hr, hrun, hended, hW, hsame⟩ := X135.leave (v := some (.ref r11)) (fun h => by rw [Bd.returns] at h; cases h)
                          refine ⟨_, _, pre136 _ ?_, hrun, hended, _, _, rfl, ?_, ⟨_, rfl⟩, hW, hsame.mono (by decide) (by decide)⟩
                          · show Steps p.tables e below (T135.setTop (mkF m 112 #[.val (.int P0)] [(.ref r11)])) _
                            exact retOut X135 hx Bd.returns rfl (Or.inr (Or.inr (Or.inr (Or.inr ⟨rfl, rfl, rfl⟩)))) (hb hby d1_112) hr
                          · show Q1 Z P0 h0 n0 _ T135.heap _
                            rw [e135]
                            exact ⟨r11, rfl, N0, rfl, hX11, (by rw [show own_lo P0 = (1 : Int32) from by rw [hc106]; decide]; exact hL11), (by rw [show own_hi P0 = (1 : Int32) from by rw [hc106]; decide]; exact hM11)⟩
                        · have pre137 : ∀ t, Steps p.tables e below (s₁.setTop (mkF m 116 #[.val (.int P0)] [(.int (12 : Int32)), (.int P0)])) t → Steps p.tables e below (s₁.setTop (entryFrame m #[(.int P0)] 1)) t := fun t kt => pre134 t (by
                              show Steps p.tables e below (s₁.setTop (mkF m 106 #[.val (.int P0)] [(.int (11 : Int32)), (.int P0)])) _
                              refine XS.icmpYes X0.here hx rfl (pc0 := 106) (pc' := 113) rfl (hb hby d1_106) rfl (feq hc106).2 (by decide) (by decide) ?_
                              show Steps p.tables e below (s₁.setTop (mkF m 113 #[.val (.int P0)] [])) _
                              refine XS.iloadN X0.here hx rfl (hb hby d1_113) rfl ?_
                              show Steps p.tables e below (s₁.setTop (mkF m 114 #[.val (.int P0)] [(.int P0)])) _
                              refine XS.bipush X0.here hx rfl (hb hby d1_114) ?_
                              exact kt)
                          by_cases hc116 : P0 = (12 : Int32)
                          · obtain ⟨r12, hS12, hX12, hL12, hM12⟩ := hE12
                            obtain ⟨T138, X138, e138, st138⟩ := getS2 X0 hx hZ hown (host := "") (Or.inl (hw _ (List.mem_of_getElem? (i := 26) rfl))) Via.refl e0 hS12 (g := (mkF m 119 #[.val (.int P0)] [])) rfl (hb hby d1_119)
                            have pre139 : ∀ t, Steps p.tables e below (T138.setTop (mkF m 122 #[.val (.int P0)] [(.ref r12)])) t → Steps p.tables e below (s₁.setTop (entryFrame m #[(.int P0)] 1)) t := fun t kt => pre137 t (by
                                show Steps p.tables e below (s₁.setTop (mkF m 116 #[.val (.int P0)] [(.int (12 : Int32)), (.int P0)])) _
                                refine XS.icmpNo X0.here hx rfl (hb hby d1_116) rfl (teq hc116).2 ?_
                                show Steps p.tables e below (s₁.setTop (mkF m 119 #[.val (.int P0)] [])) _
                                refine st138 _ ?_
                                exact kt)
                            obtain ⟨fs, hr, hrun, hended, hW, hsame⟩ := X138.leave (v := some (.ref r12)) (fun h => by rw [Bd.returns] at h; cases h)
                            refine ⟨_, _, pre139 _ ?_, hrun, hended, _, _, rfl, ?_, ⟨_, rfl⟩, hW, hsame.mono (by decide) (by decide)⟩
                            · show Steps p.tables e below (T138.setTop (mkF m 122 #[.val (.int P0)] [(.ref r12)])) _
                              exact retOut X138 hx Bd.returns rfl (Or.inr (Or.inr (Or.inr (Or.inr ⟨rfl, rfl, rfl⟩)))) (hb hby d1_122) hr
                            · show Q1 Z P0 h0 n0 _ T138.heap _
                              rw [e138]
                              exact ⟨r12, rfl, N0, rfl, hX12, (by rw [show own_lo P0 = (1 : Int32) from by rw [hc116]; decide]; exact hL12), (by rw [show own_hi P0 = (1 : Int32) from by rw [hc116]; decide]; exact hM12)⟩
                          · have pre140 : ∀ t, Steps p.tables e below (s₁.setTop (mkF m 126 #[.val (.int P0)] [(.int (13 : Int32)), (.int P0)])) t → Steps p.tables e below (s₁.setTop (entryFrame m #[(.int P0)] 1)) t := fun t kt => pre137 t (by
                                show Steps p.tables e below (s₁.setTop (mkF m 116 #[.val (.int P0)] [(.int (12 : Int32)), (.int P0)])) _
                                refine XS.icmpYes X0.here hx rfl (pc0 := 116) (pc' := 123) rfl (hb hby d1_116) rfl (feq hc116).2 (by decide) (by decide) ?_
                                show Steps p.tables e below (s₁.setTop (mkF m 123 #[.val (.int P0)] [])) _
                                refine XS.iloadN X0.here hx rfl (hb hby d1_123) rfl ?_
                                show Steps p.tables e below (s₁.setTop (mkF m 124 #[.val (.int P0)] [(.int P0)])) _
                                refine XS.bipush X0.here hx rfl (hb hby d1_124) ?_
                                exact kt)
                            by_cases hc126 : P0 = (13 : Int32)
                            · obtain ⟨r13, hS13, hX13, hL13, hM13⟩ := hE13
                              obtain ⟨T141, X141, e141, st141⟩ := getS2 X0 hx hZ hown (host := "") (Or.inl (hw _ (List.mem_of_getElem? (i := 28) rfl))) Via.refl e0 hS13 (g := (mkF m 129 #[.val (.int P0)] [])) rfl (hb hby d1_129)
                              have pre142 : ∀ t, Steps p.tables e below (T141.setTop (mkF m 132 #[.val (.int P0)] [(.ref r13)])) t → Steps p.tables e below (s₁.setTop (entryFrame m #[(.int P0)] 1)) t := fun t kt => pre140 t (by
                                  show Steps p.tables e below (s₁.setTop (mkF m 126 #[.val (.int P0)] [(.int (13 : Int32)), (.int P0)])) _
                                  refine XS.icmpNo X0.here hx rfl (hb hby d1_126) rfl (teq hc126).2 ?_
                                  show Steps p.tables e below (s₁.setTop (mkF m 129 #[.val (.int P0)] [])) _
                                  refine st141 _ ?_
                                  exact kt)
                              obtain ⟨fs, hr, hrun, hended, hW, hsame⟩ := X141.leave (v := some (.ref r13)) (fun h => by rw [Bd.returns] at h; cases h)
                              refine ⟨_, _, pre142 _ ?_, hrun, hended, _, _, rfl, ?_, ⟨_, rfl⟩, hW, hsame.mono (by decide) (by decide)⟩
                              · show Steps p.tables e below (T141.setTop (mkF m 132 #[.val (.int P0)] [(.ref r13)])) _
                                exact retOut X141 hx Bd.returns rfl (Or.inr (Or.inr (Or.inr (Or.inr ⟨rfl, rfl, rfl⟩)))) (hb hby d1_132) hr
                              · show Q1 Z P0 h0 n0 _ T141.heap _
                                rw [e141]
                                exact ⟨r13, rfl, N0, rfl, hX13, (by rw [show own_lo P0 = (1 : Int32) from by rw [hc126]; decide]; exact hL13), (by rw [show own_hi P0 = (1 : Int32) from by rw [hc126]; decide]; exact hM13)⟩
                            · have pre143 : ∀ t, Steps p.tables e below (s₁.setTop (mkF m 136 #[.val (.int P0)] [(.int (14 : Int32)), (.int P0)])) t → Steps p.tables e below (s₁.setTop (entryFrame m #[(.int P0)] 1)) t := fun t kt => pre140 t (by
                                  show Steps p.tables e below (s₁.setTop (mkF m 126 #[.val (.int P0)] [(.int (13 : Int32)), (.int P0)])) _
                                  refine XS.icmpYes X0.here hx rfl (pc0 := 126) (pc' := 133) rfl (hb hby d1_126) rfl (feq hc126).2 (by decide) (by decide) ?_
                                  show Steps p.tables e below (s₁.setTop (mkF m 133 #[.val (.int P0)] [])) _
                                  refine XS.iloadN X0.here hx rfl (hb hby d1_133) rfl ?_
                                  show Steps p.tables e below (s₁.setTop (mkF m 134 #[.val (.int P0)] [(.int P0)])) _
                                  refine XS.bipush X0.here hx rfl (hb hby d1_134) ?_
                                  exact kt)
                              by_cases hc136 : P0 = (14 : Int32)
                              · obtain ⟨r14, hS14, hX14, hL14, hM14⟩ := hE14
                                obtain ⟨T144, X144, e144, st144⟩ := getS2 X0 hx hZ hown (host := "") (Or.inl (hw _ (List.mem_of_getElem? (i := 44) rfl))) Via.refl e0 hS14 (g := (mkF m 139 #[.val (.int P0)] [])) rfl (hb hby d1_139)
                                have pre145 : ∀ t, Steps p.tables e below (T144.setTop (mkF m 142 #[.val (.int P0)] [(.ref r14)])) t → Steps p.tables e below (s₁.setTop (entryFrame m #[(.int P0)] 1)) t := fun t kt => pre143 t (by
                                    show Steps p.tables e below (s₁.setTop (mkF m 136 #[.val (.int P0)] [(.int (14 : Int32)), (.int P0)])) _
                                    refine XS.icmpNo X0.here hx rfl (hb hby d1_136) rfl (teq hc136).2 ?_
                                    show Steps p.tables e below (s₁.setTop (mkF m 139 #[.val (.int P0)] [])) _
                                    refine st144 _ ?_
                                    exact kt)
                                obtain ⟨fs, hr, hrun, hended, hW, hsame⟩ := X144.leave (v := some (.ref r14)) (fun h => by rw [Bd.returns] at h; cases h)
                                refine ⟨_, _, pre145 _ ?_, hrun, hended, _, _, rfl, ?_, ⟨_, rfl⟩, hW, hsame.mono (by decide) (by decide)⟩
                                · show Steps p.tables e below (T144.setTop (mkF m 142 #[.val (.int P0)] [(.ref r14)])) _
                                  exact retOut X144 hx Bd.returns rfl (Or.inr (Or.inr (Or.inr (Or.inr ⟨rfl, rfl, rfl⟩)))) (hb hby d1_142) hr
                                · show Q1 Z P0 h0 n0 _ T144.heap _
                                  rw [e144]
                                  exact ⟨r14, rfl, N0, rfl, hX14, (by rw [show own_lo P0 = (1 : Int32) from by rw [hc136]; decide]; exact hL14), (by rw [show own_hi P0 = (1 : Int32) from by rw [hc136]; decide]; exact hM14)⟩
                              · have pre146 : ∀ t, Steps p.tables e below (s₁.setTop (mkF m 146 #[.val (.int P0)] [(.int (15 : Int32)), (.int P0)])) t → Steps p.tables e below (s₁.setTop (entryFrame m #[(.int P0)] 1)) t := fun t kt => pre143 t (by
                                    show Steps p.tables e below (s₁.setTop (mkF m 136 #[.val (.int P0)] [(.int (14 : Int32)), (.int P0)])) _
                                    refine XS.icmpYes X0.here hx rfl (pc0 := 136) (pc' := 143) rfl (hb hby d1_136) rfl (feq hc136).2 (by decide) (by decide) ?_
                                    show Steps p.tables e below (s₁.setTop (mkF m 143 #[.val (.int P0)] [])) _
                                    refine XS.iloadN X0.here hx rfl (hb hby d1_143) rfl ?_
                                    show Steps p.tables e below (s₁.setTop (mkF m 144 #[.val (.int P0)] [(.int P0)])) _
                                    refine XS.bipush X0.here hx rfl (hb hby d1_144) ?_
                                    exact kt)
                                by_cases hc146 : P0 = (15 : Int32)
                                · obtain ⟨r15, hS15, hX15, hL15, hM15⟩ := hE15
                                  obtain ⟨T147, X147, e147, st147⟩ := getS2 X0 hx hZ hown (host := "") (Or.inl (hw _ (List.mem_of_getElem? (i := 50) rfl))) Via.refl e0 hS15 (g := (mkF m 149 #[.val (.int P0)] [])) rfl (hb hby d1_149)
                                  have pre148 : ∀ t, Steps p.tables e below (T147.setTop (mkF m 152 #[.val (.int P0)] [(.ref r15)])) t → Steps p.tables e below (s₁.setTop (entryFrame m #[(.int P0)] 1)) t := fun t kt => pre146 t (by
                                      show Steps p.tables e below (s₁.setTop (mkF m 146 #[.val (.int P0)] [(.int (15 : Int32)), (.int P0)])) _
                                      refine XS.icmpNo X0.here hx rfl (hb hby d1_146) rfl (teq hc146).2 ?_
                                      show Steps p.tables e below (s₁.setTop (mkF m 149 #[.val (.int P0)] [])) _
                                      refine st147 _ ?_
                                      exact kt)
                                  obtain ⟨fs, hr, hrun, hended, hW, hsame⟩ := X147.leave (v := some (.ref r15)) (fun h => by rw [Bd.returns] at h; cases h)
                                  refine ⟨_, _, pre148 _ ?_, hrun, hended, _, _, rfl, ?_, ⟨_, rfl⟩, hW, hsame.mono (by decide) (by decide)⟩
                                  · show Steps p.tables e below (T147.setTop (mkF m 152 #[.val (.int P0)] [(.ref r15)])) _
                                    exact retOut X147 hx Bd.returns rfl (Or.inr (Or.inr (Or.inr (Or.inr ⟨rfl, rfl, rfl⟩)))) (hb hby d1_152) hr
                                  · show Q1 Z P0 h0 n0 _ T147.heap _
                                    rw [e147]
                                    exact ⟨r15, rfl, N0, rfl, hX15, (by rw [show own_lo P0 = (1 : Int32) from by rw [hc146]; decide]; exact hL15), (by rw [show own_hi P0 = (1 : Int32) from by rw [hc146]; decide]; exact hM15)⟩
                                · obtain ⟨r16, hS16, hX16, hL16, hM16⟩ := hE16
                                  obtain ⟨T149, X149, e149, st149⟩ := getS2 X0 hx hZ hown (host := "") (Or.inl (hw _ (List.mem_of_getElem? (i := 34) rfl))) Via.refl e0 hS16 (g := (mkF m 153 #[.val (.int P0)] [])) rfl (hb hby d1_153)
                                  have pre150 : ∀ t, Steps p.tables e below (T149.setTop (mkF m 156 #[.val (.int P0)] [(.ref r16)])) t → Steps p.tables e below (s₁.setTop (entryFrame m #[(.int P0)] 1)) t := fun t kt => pre146 t (by
                                      show Steps p.tables e below (s₁.setTop (mkF m 146 #[.val (.int P0)] [(.int (15 : Int32)), (.int P0)])) _
                                      refine XS.icmpYes X0.here hx rfl (pc0 := 146) (pc' := 153) rfl (hb hby d1_146) rfl (feq hc146).2 (by decide) (by decide) ?_
                                      show Steps p.tables e below (s₁.setTop (mkF m 153 #[.val (.int P0)] [])) _
                                      refine st149 _ ?_
                                      exact kt)
                                  obtain ⟨fs, hr, hrun, hended, hW, hsame⟩ := X149.leave (v := some (.ref r16)) (fun h => by rw [Bd.returns] at h; cases h)
                                  refine ⟨_, _, pre150 _ ?_, hrun, hended, _, _, rfl, ?_, ⟨_, rfl⟩, hW, hsame.mono (by decide) (by decide)⟩
                                  · show Steps p.tables e below (T149.setTop (mkF m 156 #[.val (.int P0)] [(.ref r16)])) _
                                    exact retOut X149 hx Bd.returns rfl (Or.inr (Or.inr (Or.inr (Or.inr ⟨rfl, rfl, rfl⟩)))) (hb hby d1_156) hr
                                  · show Q1 Z P0 h0 n0 _ T149.heap _
                                    rw [e149]
                                    exact ⟨r16, rfl, N0, rfl, hX16, (by rw [show own_lo P0 = (1 : Int32) from if_neg (fun q => q.elim hc19 (fun q => q.elim hc37 hc86))]; exact hL16), (by rw [show own_hi P0 = (1 : Int32) from by unfold own_hi; rw [if_neg hc86, if_neg (fun q => q.elim hc19 hc37)]]; exact hM16)⟩
theorem d2_0 : decode prog_94_method_8_code 0 = .ok (.iload_n 1, 1) := by decide +kernel
theorem d2_1 : decode prog_94_method_8_code 1 = .ok (.aload_n 0, 1) := by decide +kernel
theorem d2_2 : decode prog_94_method_8_code 2 = .ok (.getfield 82, 3) := by decide +kernel
theorem d2_5 : decode prog_94_method_8_code 5 = .ok (.if_icmp .lt 15, 3) := by decide +kernel
theorem d2_8 : decode prog_94_method_8_code 8 = .ok (.iload_n 1, 1) := by decide +kernel
theorem d2_9 : decode prog_94_method_8_code 9 = .ok (.aload_n 0, 1) := by decide +kernel
theorem d2_10 : decode prog_94_method_8_code 10 = .ok (.getfield 86, 3) := by decide +kernel
theorem d2_13 : decode prog_94_method_8_code 13 = .ok (.if_icmp .gt 7, 3) := by decide +kernel
theorem d2_16 : decode prog_94_method_8_code 16 = .ok (.iconst 1, 1) := by decide +kernel
theorem d2_17 : decode prog_94_method_8_code 17 = .ok (.goto 4, 3) := by decide +kernel
theorem d2_20 : decode prog_94_method_8_code 20 = .ok (.iconst 0, 1) := by decide +kernel
theorem d2_21 : decode prog_94_method_8_code 21 = .ok (.ireturn, 1) := by decide +kernel
theorem pn_2 : plainName "com/example/postil/postil/query/Builtin" = true := by first | (simp [plainName, overriddenIn]; done) | decide +kernel
theorem ef_2 (m : MethodId) (A0 : Addr) (P1 : Int32) : entryFrame m #[(.ref A0), (.int P1)] 2 = mkF m 0 #[.val (.ref A0), .val (.int P1)] [] := by first | (simp [entryFrame, mkF, argsToLocals, Value.category]; done) | rfl
def Q2 (Z : State) (A0 : Addr) (P1 : Int32) (W0 : Int32) (W1 : Int32) (h0 : Heap) (n0 : Nat) (v : Option Value) (h : Heap) (L : List Loc) : Prop := (v = some (.int (if P1 < W0 then (0 : Int32) else (if W1 < P1 then (0 : Int32) else (1 : Int32))))) ∧ (Fr n0 L) ∧ (h = h0)
set_option maxRecDepth 65536 in
set_option maxHeartbeats 40000000 in
theorem rm2 (l : Launch) (Z : State) (a0 : Array Value) (hw : ∀ d ∈ tables_1, d.before a0 Z = true) (ws : List Jvm.Cond) (A0 : Addr) (P1 : Int32) (W0 : Int32) (W1 : Int32) (h0 : Heap) (n0 : Nat) (Z0 : n0 ≤ h0.size) (pm0 : Fld Z h0 A0 "com/example/postil/postil/query/Builtin" "leastArity" "I" (.int W0)) (pm1 : Fld Z h0 A0 "com/example/postil/postil/query/Builtin" "mostArity" "I" (.int W1)) :
    MetFree l (⟨"com/example/postil/postil/query/Builtin", "takes", "(I)Z"⟩ : MethodName) (head1 (Jvm.Cond.code (⟨"com/example/postil/postil/query/Builtin", "takes", "(I)Z"⟩ : MethodName) prog_94_method_8_code 2 (some .boolean) :: ws) ({ frames := 0, cells := 0, slots := 0, locals := 0 } : Room)) (fun a U => a = #[(.ref A0), (.int P1)] ∧ Z.Warmed39 U.vm ∧ U.heap = h0) (fun _ _ _ _ _ => True) (fun _ U o U' => ∃ v L, o = .returned v ∧ Q2 Z A0 P1 W0 W1 h0 n0 v U'.heap L ∧ FrameEnd U o U' L ({ frames := 0, cells := 0, slots := 0, locals := 0 } : Room).cells ({ frames := 0, cells := 0, slots := 0, locals := 0 } : Room).slots) := by
  refine MetFree.of_bodySF (plainFor_of_name pn_2) hisR ?_
  intro p e s m args below meth c s₁ Bd hml0 hP hK
  obtain ⟨rfl, hZ, hh⟩ := hP
  have hx := Bd.exec
  have hby := Bd.bytes
  have hml : c.maxLocals = 2 := hml0
  have hown : s.vm.findClass "com/example/postil/postil/query/Builtin" = some m.cls := findClass_of_methodNamed Bd.named
  have hnm := (name_of_methodNamed Bd.named Bd.method).1
  have X0 : Stand p l e ({ frames := 0, cells := 0, slots := 0, locals := 0 } : Room) s m #[(.ref A0), (.int P1)] below meth c s₁ [] 0 0 := Stand.of_body Bd
  have e0 : s₁.heap = h0 := by rw [← hh, Bd.state]; rfl
  have N0 := Fr.nil n0
  have pre0 : ∀ t, Steps p.tables e below (s₁.setTop (mkF m 0 #[.val (.ref A0), .val (.int P1)] [])) t → Steps p.tables e below (s₁.setTop (entryFrame m #[(.ref A0), (.int P1)] 2)) t := fun t k => castTop (ef_2 m A0 P1) k
  obtain ⟨T101, X101, e101, st101⟩ := getF X0 hx hZ hown (host := "") (Or.inl (hw _ (List.mem_of_getElem? (i := 13) rfl))) Via.refl e0 pm0 (g := (mkF m 2 #[.val (.ref A0), .val (.int P1)] [(.ref A0), (.int P1)])) rfl rfl (hb hby d2_2)
  have pre102 : ∀ t, Steps p.tables e below (T101.setTop (mkF m 5 #[.val (.ref A0), .val (.int P1)] [(.int W0), (.int P1)])) t → Steps p.tables e below (s₁.setTop (entryFrame m #[(.ref A0), (.int P1)] 2)) t := fun t kt => pre0 t (by
      show Steps p.tables e below (s₁.setTop (mkF m 0 #[.val (.ref A0), .val (.int P1)] [])) _
      refine XS.iloadN X0.here hx rfl (hb hby d2_0) rfl ?_
      show Steps p.tables e below (s₁.setTop (mkF m 1 #[.val (.ref A0), .val (.int P1)] [(.int P1)])) _
      refine XS.aloadN X0.here hx rfl (hb hby d2_1) rfl rfl ?_
      show Steps p.tables e below (s₁.setTop (mkF m 2 #[.val (.ref A0), .val (.int P1)] [(.ref A0), (.int P1)])) _
      refine st101 _ ?_
      exact kt)
  by_cases hc5 : P1 < W0
  · have pre103 : ∀ t, Steps p.tables e below (T101.setTop (mkF m 21 #[.val (.ref A0), .val (.int P1)] [(.int (0 : Int32))])) t → Steps p.tables e below (s₁.setTop (entryFrame m #[(.ref A0), (.int P1)] 2)) t := fun t kt => pre102 t (by
        show Steps p.tables e below (T101.setTop (mkF m 5 #[.val (.ref A0), .val (.int P1)] [(.int W0), (.int P1)])) _
        refine XS.icmpYes X101.here hx rfl (pc0 := 5) (pc' := 20) rfl (hb hby d2_5) rfl (tlt hc5).1 (by decide) (by decide) ?_
        show Steps p.tables e below (T101.setTop (mkF m 20 #[.val (.ref A0), .val (.int P1)] [])) _
        refine XS.iconst X101.here hx rfl (hb hby d2_20) ?_
        exact kt)
    obtain ⟨fs, hr, hrun, hended, hW, hsame⟩ := X101.leave (v := some (.int (0 : Int32))) (fun h => by rw [Bd.returns] at h; cases h)
    refine ⟨_, _, pre103 _ ?_, hrun, hended, _, _, rfl, ?_, ⟨_, rfl⟩, hW, hsame.mono (by decide) (by decide)⟩
    · show Steps p.tables e below (T101.setTop (mkF m 21 #[.val (.ref A0), .val (.int P1)] [(.int (0 : Int32))])) _
      exact retN X101 hx (t := .boolean) Bd.returns (by simp) (hb hby d2_21) hr
    · show Q2 Z A0 P1 W0 W1 h0 n0 _ T101.heap _
      rw [e101]
      exact ⟨(congrArg (fun z => some (Value.int z)) (show (0 : Int32) = (if P1 < W0 then (0 : Int32) else (if W1 < P1 then (0 : Int32) else (1 : Int32))) from by rw [if_pos hc5])), N0, rfl⟩
  · obtain ⟨T104, X104, e104, st104⟩ := getF X101 hx hZ hown (host := "") (Or.inl (hw _ (List.mem_of_getElem? (i := 15) rfl))) Via.refl e101 pm1 (g := (mkF m 10 #[.val (.ref A0), .val (.int P1)] [(.ref A0), (.int P1)])) rfl rfl (hb hby d2_10)
    have pre105 : ∀ t, Steps p.tables e below (T104.setTop (mkF m 13 #[.val (.ref A0), .val (.int P1)] [(.int W1), (.int P1)])) t → Steps p.tables e below (s₁.setTop (entryFrame m #[(.ref A0), (.int P1)] 2)) t := fun t kt => pre102 t (by
        show Steps p.tables e below (T101.setTop (mkF m 5 #[.val (.ref A0), .val (.int P1)] [(.int W0), (.int P1)])) _
        refine XS.icmpNo X101.here hx rfl (hb hby d2_5) rfl (flt hc5).1 ?_
        show Steps p.tables e below (T101.setTop (mkF m 8 #[.val (.ref A0), .val (.int P1)] [])) _
        refine XS.iloadN X101.here hx rfl (hb hby d2_8) rfl ?_
        show Steps p.tables e below (T101.setTop (mkF m 9 #[.val (.ref A0), .val (.int P1)] [(.int P1)])) _
        refine XS.aloadN X101.here hx rfl (hb hby d2_9) rfl rfl ?_
        show Steps p.tables e below (T101.setTop (mkF m 10 #[.val (.ref A0), .val (.int P1)] [(.ref A0), (.int P1)])) _
        refine st104 _ ?_
        exact kt)
    by_cases hc13 : W1 < P1
    · have pre106 : ∀ t, Steps p.tables e below (T104.setTop (mkF m 21 #[.val (.ref A0), .val (.int P1)] [(.int (0 : Int32))])) t → Steps p.tables e below (s₁.setTop (entryFrame m #[(.ref A0), (.int P1)] 2)) t := fun t kt => pre105 t (by
          show Steps p.tables e below (T104.setTop (mkF m 13 #[.val (.ref A0), .val (.int P1)] [(.int W1), (.int P1)])) _
          refine XS.icmpYes X104.here hx rfl (pc0 := 13) (pc' := 20) rfl (hb hby d2_13) rfl (tlt hc13).2.2.1 (by decide) (by decide) ?_
          show Steps p.tables e below (T104.setTop (mkF m 20 #[.val (.ref A0), .val (.int P1)] [])) _
          refine XS.iconst X104.here hx rfl (hb hby d2_20) ?_
          exact kt)
      obtain ⟨fs, hr, hrun, hended, hW, hsame⟩ := X104.leave (v := some (.int (0 : Int32))) (fun h => by rw [Bd.returns] at h; cases h)
      refine ⟨_, _, pre106 _ ?_, hrun, hended, _, _, rfl, ?_, ⟨_, rfl⟩, hW, hsame.mono (by decide) (by decide)⟩
      · show Steps p.tables e below (T104.setTop (mkF m 21 #[.val (.ref A0), .val (.int P1)] [(.int (0 : Int32))])) _
        exact retN X104 hx (t := .boolean) Bd.returns (by simp) (hb hby d2_21) hr
      · show Q2 Z A0 P1 W0 W1 h0 n0 _ T104.heap _
        rw [e104]
        exact ⟨(congrArg (fun z => some (Value.int z)) (show (0 : Int32) = (if P1 < W0 then (0 : Int32) else (if W1 < P1 then (0 : Int32) else (1 : Int32))) from by rw [if_neg hc5, if_pos hc13])), N0, rfl⟩
    · have pre107 : ∀ t, Steps p.tables e below (T104.setTop (mkF m 21 #[.val (.ref A0), .val (.int P1)] [(.int (1 : Int32))])) t → Steps p.tables e below (s₁.setTop (entryFrame m #[(.ref A0), (.int P1)] 2)) t := fun t kt => pre105 t (by
          show Steps p.tables e below (T104.setTop (mkF m 13 #[.val (.ref A0), .val (.int P1)] [(.int W1), (.int P1)])) _
          refine XS.icmpNo X104.here hx rfl (hb hby d2_13) rfl (flt hc13).2.2.1 ?_
          show Steps p.tables e below (T104.setTop (mkF m 16 #[.val (.ref A0), .val (.int P1)] [])) _
          refine XS.iconst X104.here hx rfl (hb hby d2_16) ?_
          show Steps p.tables e below (T104.setTop (mkF m 17 #[.val (.ref A0), .val (.int P1)] [(.int (1 : Int32))])) _
          refine XS.goto X104.here hx rfl (pc0 := 17) (pc' := 21) rfl (hb hby d2_17) (by decide) (by decide) ?_
          exact kt)
      obtain ⟨fs, hr, hrun, hended, hW, hsame⟩ := X104.leave (v := some (.int (1 : Int32))) (fun h => by rw [Bd.returns] at h; cases h)
      refine ⟨_, _, pre107 _ ?_, hrun, hended, _, _, rfl, ?_, ⟨_, rfl⟩, hW, hsame.mono (by decide) (by decide)⟩
      · show Steps p.tables e below (T104.setTop (mkF m 21 #[.val (.ref A0), .val (.int P1)] [(.int (1 : Int32))])) _
        exact retN X104 hx (t := .boolean) Bd.returns (by simp) (hb hby d2_21) hr
      · show Q2 Z A0 P1 W0 W1 h0 n0 _ T104.heap _
        rw [e104]
        exact ⟨(congrArg (fun z => some (Value.int z)) (show (1 : Int32) = (if P1 < W0 then (0 : Int32) else (if W1 < P1 then (0 : Int32) else (1 : Int32))) from by rw [if_neg hc5, if_neg hc13])), N0, rfl⟩
theorem d3_0 : decode method_3_code 0 = .ok (.iload_n 0, 1) := by decide +kernel
theorem d3_1 : decode method_3_code 1 = .ok (.bipush 9, 2) := by decide +kernel
theorem d3_3 : decode method_3_code 3 = .ok (.if_icmp .ne 19, 3) := by decide +kernel
theorem d3_6 : decode method_3_code 6 = .ok (.iload_n 1, 1) := by decide +kernel
theorem d3_7 : decode method_3_code 7 = .ok (.iconst 2, 1) := by decide +kernel
theorem d3_8 : decode method_3_code 8 = .ok (.if_icmp .eq 8, 3) := by decide +kernel
theorem d3_11 : decode method_3_code 11 = .ok (.iload_n 1, 1) := by decide +kernel
theorem d3_12 : decode method_3_code 12 = .ok (.iconst 3, 1) := by decide +kernel
theorem d3_13 : decode method_3_code 13 = .ok (.if_icmp .ne 7, 3) := by decide +kernel
theorem d3_16 : decode method_3_code 16 = .ok (.iconst 1, 1) := by decide +kernel
theorem d3_17 : decode method_3_code 17 = .ok (.goto 4, 3) := by decide +kernel
theorem d3_20 : decode method_3_code 20 = .ok (.iconst 0, 1) := by decide +kernel
theorem d3_21 : decode method_3_code 21 = .ok (.ireturn, 1) := by decide +kernel
theorem d3_22 : decode method_3_code 22 = .ok (.iload_n 0, 1) := by decide +kernel
theorem d3_23 : decode method_3_code 23 = .ok (.iconst 2, 1) := by decide +kernel
theorem d3_24 : decode method_3_code 24 = .ok (.if_icmp .eq 8, 3) := by decide +kernel
theorem d3_27 : decode method_3_code 27 = .ok (.iload_n 0, 1) := by decide +kernel
theorem d3_28 : decode method_3_code 28 = .ok (.iconst 4, 1) := by decide +kernel
theorem d3_29 : decode method_3_code 29 = .ok (.if_icmp .ne 14, 3) := by decide +kernel
theorem d3_32 : decode method_3_code 32 = .ok (.iload_n 1, 1) := by decide +kernel
theorem d3_33 : decode method_3_code 33 = .ok (.iconst 2, 1) := by decide +kernel
theorem d3_34 : decode method_3_code 34 = .ok (.if_icmp .ne 7, 3) := by decide +kernel
theorem d3_37 : decode method_3_code 37 = .ok (.iconst 1, 1) := by decide +kernel
theorem d3_38 : decode method_3_code 38 = .ok (.goto 4, 3) := by decide +kernel
theorem d3_41 : decode method_3_code 41 = .ok (.iconst 0, 1) := by decide +kernel
theorem d3_42 : decode method_3_code 42 = .ok (.ireturn, 1) := by decide +kernel
theorem d3_43 : decode method_3_code 43 = .ok (.iload_n 1, 1) := by decide +kernel
theorem d3_44 : decode method_3_code 44 = .ok (.iconst 1, 1) := by decide +kernel
theorem d3_45 : decode method_3_code 45 = .ok (.if_icmp .ne 7, 3) := by decide +kernel
theorem d3_48 : decode method_3_code 48 = .ok (.iconst 1, 1) := by decide +kernel
theorem d3_49 : decode method_3_code 49 = .ok (.goto 4, 3) := by decide +kernel
theorem d3_52 : decode method_3_code 52 = .ok (.iconst 0, 1) := by decide +kernel
theorem d3_53 : decode method_3_code 53 = .ok (.ireturn, 1) := by decide +kernel
theorem pn_3 : plainName "com/example/postil/postil/query/BuiltinTakesPinLaw" = true := by first | (simp [plainName, overriddenIn]; done) | decide +kernel
theorem ef_3 (m : MethodId) (P0 : Int32) (P1 : Int32) : entryFrame m #[(.int P0), (.int P1)] 2 = mkF m 0 #[.val (.int P0), .val (.int P1)] [] := by first | (simp [entryFrame, mkF, argsToLocals, Value.category]; done) | rfl
def tf3_0 (P0 : Int32) (P1 : Int32) : Int32 := (if P0 = (9 : Int32) then (if P1 = (2 : Int32) then (1 : Int32) else (if P1 = (3 : Int32) then (1 : Int32) else (0 : Int32))) else (if P0 = (2 : Int32) then (if P1 = (2 : Int32) then (1 : Int32) else (0 : Int32)) else (if P0 = (4 : Int32) then (if P1 = (2 : Int32) then (1 : Int32) else (0 : Int32)) else (if P1 = (1 : Int32) then (1 : Int32) else (0 : Int32)))))
set_option maxRecDepth 65536 in
set_option maxHeartbeats 40000000 in
theorem tl3_0 {p : Program} {l : Launch} {e : Env} {s : State} {m : MethodId} {args : Array Value} {below : List Frame} {meth : Method} {c : Code} {T0 : State} {locs : List Loc} {Z : State} {a0 : Array Value} {h0 : Heap} {n0 : Nat} (P0 : Int32) (P1 : Int32)
    (X0 : Stand p l e ({ frames := 0, cells := 0, slots := 0, locals := 0 } : Room) s m args below meth c T0 locs 0 0) (hx : p.tables.exec = Jvm.exec) (hZ : Z.Warmed39 s.vm) (hw : ∀ d ∈ tables_1, d.before a0 Z = true) (hby : c.code = method_3_code) (hml : c.maxLocals = 2) (hown : s.vm.findClass "com/example/postil/postil/query/BuiltinTakesPinLaw" = some m.cls) (e0 : T0.heap = h0) (N0 : Fr n0 locs) (Z0 : n0 ≤ h0.size) :
    ∃ (T' : State) (pc' : Nat) (L' : Array Slot) (locs' : List Loc), Stand p l e ({ frames := 0, cells := 0, slots := 0, locals := 0 } : Room) s m args below meth c T' locs' 0 0 ∧ Fr n0 locs' ∧ T'.heap = h0 ∧ decode c.code pc' = .ok (.ireturn, 1) ∧ ∀ t, Steps p.tables e below (T'.setTop (mkF m pc' L' [.int (tf3_0 P0 P1)])) t → Steps p.tables e below (T0.setTop (mkF m 0 #[.val (.int P0), .val (.int P1)] [])) t := by
  have pre0 : ∀ t, Steps p.tables e below (T0.setTop (mkF m 0 #[.val (.int P0), .val (.int P1)] [])) t → Steps p.tables e below (T0.setTop (mkF m 0 #[.val (.int P0), .val (.int P1)] [])) t := fun t k => k
  have pre1001 : ∀ t, Steps p.tables e below (T0.setTop (mkF m 3 #[.val (.int P0), .val (.int P1)] [(.int (9 : Int32)), (.int P0)])) t → Steps p.tables e below (T0.setTop (mkF m 0 #[.val (.int P0), .val (.int P1)] [])) t := fun t kt => pre0 t (by
      show Steps p.tables e below (T0.setTop (mkF m 0 #[.val (.int P0), .val (.int P1)] [])) _
      refine XS.iloadN X0.here hx rfl (hb hby d3_0) rfl ?_
      show Steps p.tables e below (T0.setTop (mkF m 1 #[.val (.int P0), .val (.int P1)] [(.int P0)])) _
      refine XS.bipush X0.here hx rfl (hb hby d3_1) ?_
      exact kt)
  by_cases hc3 : P0 = (9 : Int32)
  · have pre1002 : ∀ t, Steps p.tables e below (T0.setTop (mkF m 8 #[.val (.int P0), .val (.int P1)] [(.int (2 : Int32)), (.int P1)])) t → Steps p.tables e below (T0.setTop (mkF m 0 #[.val (.int P0), .val (.int P1)] [])) t := fun t kt => pre1001 t (by
        show Steps p.tables e below (T0.setTop (mkF m 3 #[.val (.int P0), .val (.int P1)] [(.int (9 : Int32)), (.int P0)])) _
        refine XS.icmpNo X0.here hx rfl (hb hby d3_3) rfl (teq hc3).2 ?_
        show Steps p.tables e below (T0.setTop (mkF m 6 #[.val (.int P0), .val (.int P1)] [])) _
        refine XS.iloadN X0.here hx rfl (hb hby d3_6) rfl ?_
        show Steps p.tables e below (T0.setTop (mkF m 7 #[.val (.int P0), .val (.int P1)] [(.int P1)])) _
        refine XS.iconst X0.here hx rfl (hb hby d3_7) ?_
        exact kt)
    by_cases hc8 : P1 = (2 : Int32)
    · have pre1003 : ∀ t, Steps p.tables e below (T0.setTop (mkF m 21 #[.val (.int P0), .val (.int P1)] [(.int (1 : Int32))])) t → Steps p.tables e below (T0.setTop (mkF m 0 #[.val (.int P0), .val (.int P1)] [])) t := fun t kt => pre1002 t (by
          show Steps p.tables e below (T0.setTop (mkF m 8 #[.val (.int P0), .val (.int P1)] [(.int (2 : Int32)), (.int P1)])) _
          refine XS.icmpYes X0.here hx rfl (pc0 := 8) (pc' := 16) rfl (hb hby d3_8) rfl (teq hc8).1 (by decide) (by decide) ?_
          show Steps p.tables e below (T0.setTop (mkF m 16 #[.val (.int P0), .val (.int P1)] [])) _
          refine XS.iconst X0.here hx rfl (hb hby d3_16) ?_
          show Steps p.tables e below (T0.setTop (mkF m 17 #[.val (.int P0), .val (.int P1)] [(.int (1 : Int32))])) _
          refine XS.goto X0.here hx rfl (pc0 := 17) (pc' := 21) rfl (hb hby d3_17) (by decide) (by decide) ?_
          exact kt)
      have hv : tf3_0 P0 P1 = (1 : Int32) := by unfold tf3_0; rw [if_pos hc3, if_pos hc8]
      rw [hv]
      exact ⟨T0, 21, _, _, X0, N0, e0, (hb hby d3_21), pre1003⟩
    · have pre1004 : ∀ t, Steps p.tables e below (T0.setTop (mkF m 13 #[.val (.int P0), .val (.int P1)] [(.int (3 : Int32)), (.int P1)])) t → Steps p.tables e below (T0.setTop (mkF m 0 #[.val (.int P0), .val (.int P1)] [])) t := fun t kt => pre1002 t (by
          show Steps p.tables e below (T0.setTop (mkF m 8 #[.val (.int P0), .val (.int P1)] [(.int (2 : Int32)), (.int P1)])) _
          refine XS.icmpNo X0.here hx rfl (hb hby d3_8) rfl (feq hc8).1 ?_
          show Steps p.tables e below (T0.setTop (mkF m 11 #[.val (.int P0), .val (.int P1)] [])) _
          refine XS.iloadN X0.here hx rfl (hb hby d3_11) rfl ?_
          show Steps p.tables e below (T0.setTop (mkF m 12 #[.val (.int P0), .val (.int P1)] [(.int P1)])) _
          refine XS.iconst X0.here hx rfl (hb hby d3_12) ?_
          exact kt)
      by_cases hc13 : P1 = (3 : Int32)
      · have pre1005 : ∀ t, Steps p.tables e below (T0.setTop (mkF m 21 #[.val (.int P0), .val (.int P1)] [(.int (1 : Int32))])) t → Steps p.tables e below (T0.setTop (mkF m 0 #[.val (.int P0), .val (.int P1)] [])) t := fun t kt => pre1004 t (by
            show Steps p.tables e below (T0.setTop (mkF m 13 #[.val (.int P0), .val (.int P1)] [(.int (3 : Int32)), (.int P1)])) _
            refine XS.icmpNo X0.here hx rfl (hb hby d3_13) rfl (teq hc13).2 ?_
            show Steps p.tables e below (T0.setTop (mkF m 16 #[.val (.int P0), .val (.int P1)] [])) _
            refine XS.iconst X0.here hx rfl (hb hby d3_16) ?_
            show Steps p.tables e below (T0.setTop (mkF m 17 #[.val (.int P0), .val (.int P1)] [(.int (1 : Int32))])) _
            refine XS.goto X0.here hx rfl (pc0 := 17) (pc' := 21) rfl (hb hby d3_17) (by decide) (by decide) ?_
            exact kt)
        have hv : tf3_0 P0 P1 = (1 : Int32) := by unfold tf3_0; rw [if_pos hc3, if_neg hc8, if_pos hc13]
        rw [hv]
        exact ⟨T0, 21, _, _, X0, N0, e0, (hb hby d3_21), pre1005⟩
      · have pre1006 : ∀ t, Steps p.tables e below (T0.setTop (mkF m 21 #[.val (.int P0), .val (.int P1)] [(.int (0 : Int32))])) t → Steps p.tables e below (T0.setTop (mkF m 0 #[.val (.int P0), .val (.int P1)] [])) t := fun t kt => pre1004 t (by
            show Steps p.tables e below (T0.setTop (mkF m 13 #[.val (.int P0), .val (.int P1)] [(.int (3 : Int32)), (.int P1)])) _
            refine XS.icmpYes X0.here hx rfl (pc0 := 13) (pc' := 20) rfl (hb hby d3_13) rfl (feq hc13).2 (by decide) (by decide) ?_
            show Steps p.tables e below (T0.setTop (mkF m 20 #[.val (.int P0), .val (.int P1)] [])) _
            refine XS.iconst X0.here hx rfl (hb hby d3_20) ?_
            exact kt)
        have hv : tf3_0 P0 P1 = (0 : Int32) := by unfold tf3_0; rw [if_pos hc3, if_neg hc8, if_neg hc13]
        rw [hv]
        exact ⟨T0, 21, _, _, X0, N0, e0, (hb hby d3_21), pre1006⟩
  · have pre1007 : ∀ t, Steps p.tables e below (T0.setTop (mkF m 24 #[.val (.int P0), .val (.int P1)] [(.int (2 : Int32)), (.int P0)])) t → Steps p.tables e below (T0.setTop (mkF m 0 #[.val (.int P0), .val (.int P1)] [])) t := fun t kt => pre1001 t (by
        show Steps p.tables e below (T0.setTop (mkF m 3 #[.val (.int P0), .val (.int P1)] [(.int (9 : Int32)), (.int P0)])) _
        refine XS.icmpYes X0.here hx rfl (pc0 := 3) (pc' := 22) rfl (hb hby d3_3) rfl (feq hc3).2 (by decide) (by decide) ?_
        show Steps p.tables e below (T0.setTop (mkF m 22 #[.val (.int P0), .val (.int P1)] [])) _
        refine XS.iloadN X0.here hx rfl (hb hby d3_22) rfl ?_
        show Steps p.tables e below (T0.setTop (mkF m 23 #[.val (.int P0), .val (.int P1)] [(.int P0)])) _
        refine XS.iconst X0.here hx rfl (hb hby d3_23) ?_
        exact kt)
    by_cases hc24 : P0 = (2 : Int32)
    · have pre1008 : ∀ t, Steps p.tables e below (T0.setTop (mkF m 34 #[.val (.int P0), .val (.int P1)] [(.int (2 : Int32)), (.int P1)])) t → Steps p.tables e below (T0.setTop (mkF m 0 #[.val (.int P0), .val (.int P1)] [])) t := fun t kt => pre1007 t (by
          show Steps p.tables e below (T0.setTop (mkF m 24 #[.val (.int P0), .val (.int P1)] [(.int (2 : Int32)), (.int P0)])) _
          refine XS.icmpYes X0.here hx rfl (pc0 := 24) (pc' := 32) rfl (hb hby d3_24) rfl (teq hc24).1 (by decide) (by decide) ?_
          show Steps p.tables e below (T0.setTop (mkF m 32 #[.val (.int P0), .val (.int P1)] [])) _
          refine XS.iloadN X0.here hx rfl (hb hby d3_32) rfl ?_
          show Steps p.tables e below (T0.setTop (mkF m 33 #[.val (.int P0), .val (.int P1)] [(.int P1)])) _
          refine XS.iconst X0.here hx rfl (hb hby d3_33) ?_
          exact kt)
      by_cases hc34 : P1 = (2 : Int32)
      · have pre1009 : ∀ t, Steps p.tables e below (T0.setTop (mkF m 42 #[.val (.int P0), .val (.int P1)] [(.int (1 : Int32))])) t → Steps p.tables e below (T0.setTop (mkF m 0 #[.val (.int P0), .val (.int P1)] [])) t := fun t kt => pre1008 t (by
            show Steps p.tables e below (T0.setTop (mkF m 34 #[.val (.int P0), .val (.int P1)] [(.int (2 : Int32)), (.int P1)])) _
            refine XS.icmpNo X0.here hx rfl (hb hby d3_34) rfl (teq hc34).2 ?_
            show Steps p.tables e below (T0.setTop (mkF m 37 #[.val (.int P0), .val (.int P1)] [])) _
            refine XS.iconst X0.here hx rfl (hb hby d3_37) ?_
            show Steps p.tables e below (T0.setTop (mkF m 38 #[.val (.int P0), .val (.int P1)] [(.int (1 : Int32))])) _
            refine XS.goto X0.here hx rfl (pc0 := 38) (pc' := 42) rfl (hb hby d3_38) (by decide) (by decide) ?_
            exact kt)
        have hv : tf3_0 P0 P1 = (1 : Int32) := by unfold tf3_0; rw [if_neg hc3, if_pos hc24, if_pos hc34]
        rw [hv]
        exact ⟨T0, 42, _, _, X0, N0, e0, (hb hby d3_42), pre1009⟩
      · have pre1010 : ∀ t, Steps p.tables e below (T0.setTop (mkF m 42 #[.val (.int P0), .val (.int P1)] [(.int (0 : Int32))])) t → Steps p.tables e below (T0.setTop (mkF m 0 #[.val (.int P0), .val (.int P1)] [])) t := fun t kt => pre1008 t (by
            show Steps p.tables e below (T0.setTop (mkF m 34 #[.val (.int P0), .val (.int P1)] [(.int (2 : Int32)), (.int P1)])) _
            refine XS.icmpYes X0.here hx rfl (pc0 := 34) (pc' := 41) rfl (hb hby d3_34) rfl (feq hc34).2 (by decide) (by decide) ?_
            show Steps p.tables e below (T0.setTop (mkF m 41 #[.val (.int P0), .val (.int P1)] [])) _
            refine XS.iconst X0.here hx rfl (hb hby d3_41) ?_
            exact kt)
        have hv : tf3_0 P0 P1 = (0 : Int32) := by unfold tf3_0; rw [if_neg hc3, if_pos hc24, if_neg hc34]
        rw [hv]
        exact ⟨T0, 42, _, _, X0, N0, e0, (hb hby d3_42), pre1010⟩
    · have pre1011 : ∀ t, Steps p.tables e below (T0.setTop (mkF m 29 #[.val (.int P0), .val (.int P1)] [(.int (4 : Int32)), (.int P0)])) t → Steps p.tables e below (T0.setTop (mkF m 0 #[.val (.int P0), .val (.int P1)] [])) t := fun t kt => pre1007 t (by
          show Steps p.tables e below (T0.setTop (mkF m 24 #[.val (.int P0), .val (.int P1)] [(.int (2 : Int32)), (.int P0)])) _
          refine XS.icmpNo X0.here hx rfl (hb hby d3_24) rfl (feq hc24).1 ?_
          show Steps p.tables e below (T0.setTop (mkF m 27 #[.val (.int P0), .val (.int P1)] [])) _
          refine XS.iloadN X0.here hx rfl (hb hby d3_27) rfl ?_
          show Steps p.tables e below (T0.setTop (mkF m 28 #[.val (.int P0), .val (.int P1)] [(.int P0)])) _
          refine XS.iconst X0.here hx rfl (hb hby d3_28) ?_
          exact kt)
      by_cases hc29 : P0 = (4 : Int32)
      · have pre1012 : ∀ t, Steps p.tables e below (T0.setTop (mkF m 34 #[.val (.int P0), .val (.int P1)] [(.int (2 : Int32)), (.int P1)])) t → Steps p.tables e below (T0.setTop (mkF m 0 #[.val (.int P0), .val (.int P1)] [])) t := fun t kt => pre1011 t (by
            show Steps p.tables e below (T0.setTop (mkF m 29 #[.val (.int P0), .val (.int P1)] [(.int (4 : Int32)), (.int P0)])) _
            refine XS.icmpNo X0.here hx rfl (hb hby d3_29) rfl (teq hc29).2 ?_
            show Steps p.tables e below (T0.setTop (mkF m 32 #[.val (.int P0), .val (.int P1)] [])) _
            refine XS.iloadN X0.here hx rfl (hb hby d3_32) rfl ?_
            show Steps p.tables e below (T0.setTop (mkF m 33 #[.val (.int P0), .val (.int P1)] [(.int P1)])) _
            refine XS.iconst X0.here hx rfl (hb hby d3_33) ?_
            exact kt)
        by_cases hc34 : P1 = (2 : Int32)
        · have pre1013 : ∀ t, Steps p.tables e below (T0.setTop (mkF m 42 #[.val (.int P0), .val (.int P1)] [(.int (1 : Int32))])) t → Steps p.tables e below (T0.setTop (mkF m 0 #[.val (.int P0), .val (.int P1)] [])) t := fun t kt => pre1012 t (by
              show Steps p.tables e below (T0.setTop (mkF m 34 #[.val (.int P0), .val (.int P1)] [(.int (2 : Int32)), (.int P1)])) _
              refine XS.icmpNo X0.here hx rfl (hb hby d3_34) rfl (teq hc34).2 ?_
              show Steps p.tables e below (T0.setTop (mkF m 37 #[.val (.int P0), .val (.int P1)] [])) _
              refine XS.iconst X0.here hx rfl (hb hby d3_37) ?_
              show Steps p.tables e below (T0.setTop (mkF m 38 #[.val (.int P0), .val (.int P1)] [(.int (1 : Int32))])) _
              refine XS.goto X0.here hx rfl (pc0 := 38) (pc' := 42) rfl (hb hby d3_38) (by decide) (by decide) ?_
              exact kt)
          have hv : tf3_0 P0 P1 = (1 : Int32) := by unfold tf3_0; rw [if_neg hc3, if_neg hc24, if_pos hc29, if_pos hc34]
          rw [hv]
          exact ⟨T0, 42, _, _, X0, N0, e0, (hb hby d3_42), pre1013⟩
        · have pre1014 : ∀ t, Steps p.tables e below (T0.setTop (mkF m 42 #[.val (.int P0), .val (.int P1)] [(.int (0 : Int32))])) t → Steps p.tables e below (T0.setTop (mkF m 0 #[.val (.int P0), .val (.int P1)] [])) t := fun t kt => pre1012 t (by
              show Steps p.tables e below (T0.setTop (mkF m 34 #[.val (.int P0), .val (.int P1)] [(.int (2 : Int32)), (.int P1)])) _
              refine XS.icmpYes X0.here hx rfl (pc0 := 34) (pc' := 41) rfl (hb hby d3_34) rfl (feq hc34).2 (by decide) (by decide) ?_
              show Steps p.tables e below (T0.setTop (mkF m 41 #[.val (.int P0), .val (.int P1)] [])) _
              refine XS.iconst X0.here hx rfl (hb hby d3_41) ?_
              exact kt)
          have hv : tf3_0 P0 P1 = (0 : Int32) := by unfold tf3_0; rw [if_neg hc3, if_neg hc24, if_pos hc29, if_neg hc34]
          rw [hv]
          exact ⟨T0, 42, _, _, X0, N0, e0, (hb hby d3_42), pre1014⟩
      · have pre1015 : ∀ t, Steps p.tables e below (T0.setTop (mkF m 45 #[.val (.int P0), .val (.int P1)] [(.int (1 : Int32)), (.int P1)])) t → Steps p.tables e below (T0.setTop (mkF m 0 #[.val (.int P0), .val (.int P1)] [])) t := fun t kt => pre1011 t (by
            show Steps p.tables e below (T0.setTop (mkF m 29 #[.val (.int P0), .val (.int P1)] [(.int (4 : Int32)), (.int P0)])) _
            refine XS.icmpYes X0.here hx rfl (pc0 := 29) (pc' := 43) rfl (hb hby d3_29) rfl (feq hc29).2 (by decide) (by decide) ?_
            show Steps p.tables e below (T0.setTop (mkF m 43 #[.val (.int P0), .val (.int P1)] [])) _
            refine XS.iloadN X0.here hx rfl (hb hby d3_43) rfl ?_
            show Steps p.tables e below (T0.setTop (mkF m 44 #[.val (.int P0), .val (.int P1)] [(.int P1)])) _
            refine XS.iconst X0.here hx rfl (hb hby d3_44) ?_
            exact kt)
        by_cases hc45 : P1 = (1 : Int32)
        · have pre1016 : ∀ t, Steps p.tables e below (T0.setTop (mkF m 53 #[.val (.int P0), .val (.int P1)] [(.int (1 : Int32))])) t → Steps p.tables e below (T0.setTop (mkF m 0 #[.val (.int P0), .val (.int P1)] [])) t := fun t kt => pre1015 t (by
              show Steps p.tables e below (T0.setTop (mkF m 45 #[.val (.int P0), .val (.int P1)] [(.int (1 : Int32)), (.int P1)])) _
              refine XS.icmpNo X0.here hx rfl (hb hby d3_45) rfl (teq hc45).2 ?_
              show Steps p.tables e below (T0.setTop (mkF m 48 #[.val (.int P0), .val (.int P1)] [])) _
              refine XS.iconst X0.here hx rfl (hb hby d3_48) ?_
              show Steps p.tables e below (T0.setTop (mkF m 49 #[.val (.int P0), .val (.int P1)] [(.int (1 : Int32))])) _
              refine XS.goto X0.here hx rfl (pc0 := 49) (pc' := 53) rfl (hb hby d3_49) (by decide) (by decide) ?_
              exact kt)
          have hv : tf3_0 P0 P1 = (1 : Int32) := by unfold tf3_0; rw [if_neg hc3, if_neg hc24, if_neg hc29, if_pos hc45]
          rw [hv]
          exact ⟨T0, 53, _, _, X0, N0, e0, (hb hby d3_53), pre1016⟩
        · have pre1017 : ∀ t, Steps p.tables e below (T0.setTop (mkF m 53 #[.val (.int P0), .val (.int P1)] [(.int (0 : Int32))])) t → Steps p.tables e below (T0.setTop (mkF m 0 #[.val (.int P0), .val (.int P1)] [])) t := fun t kt => pre1015 t (by
              show Steps p.tables e below (T0.setTop (mkF m 45 #[.val (.int P0), .val (.int P1)] [(.int (1 : Int32)), (.int P1)])) _
              refine XS.icmpYes X0.here hx rfl (pc0 := 45) (pc' := 52) rfl (hb hby d3_45) rfl (feq hc45).2 (by decide) (by decide) ?_
              show Steps p.tables e below (T0.setTop (mkF m 52 #[.val (.int P0), .val (.int P1)] [])) _
              refine XS.iconst X0.here hx rfl (hb hby d3_52) ?_
              exact kt)
          have hv : tf3_0 P0 P1 = (0 : Int32) := by unfold tf3_0; rw [if_neg hc3, if_neg hc24, if_neg hc29, if_neg hc45]
          rw [hv]
          exact ⟨T0, 53, _, _, X0, N0, e0, (hb hby d3_53), pre1017⟩
theorem tb3_0 (P0 : Int32) (P1 : Int32) : tf3_0 P0 P1 = 0 ∨ tf3_0 P0 P1 = 1 := by
  unfold tf3_0
  (repeat' split) <;> first | exact Or.inl rfl | exact Or.inr rfl
def Q3 (Z : State) (P0 : Int32) (P1 : Int32) (h0 : Heap) (n0 : Nat) (v : Option Value) (h : Heap) (L : List Loc) : Prop := (v = some (.int (tf3_0 P0 P1))) ∧ (Fr n0 L) ∧ (h = h0)
set_option maxRecDepth 65536 in
set_option maxHeartbeats 40000000 in
theorem rm3 (l : Launch) (Z : State) (a0 : Array Value) (hw : ∀ d ∈ tables_1, d.before a0 Z = true) (ws : List Jvm.Cond) (P0 : Int32) (P1 : Int32) (h0 : Heap) (n0 : Nat) (Z0 : n0 ≤ h0.size) :
    MetFree l (⟨"com/example/postil/postil/query/BuiltinTakesPinLaw", "expected", "(II)Z"⟩ : MethodName) (head1 (Jvm.Cond.code (⟨"com/example/postil/postil/query/BuiltinTakesPinLaw", "expected", "(II)Z"⟩ : MethodName) method_3_code 2 (some .boolean) :: ws) ({ frames := 0, cells := 0, slots := 0, locals := 0 } : Room)) (fun a U => a = #[(.int P0), (.int P1)] ∧ Z.Warmed39 U.vm ∧ U.heap = h0) (fun _ _ _ _ _ => True) (fun _ U o U' => ∃ v L, o = .returned v ∧ Q3 Z P0 P1 h0 n0 v U'.heap L ∧ FrameEnd U o U' L ({ frames := 0, cells := 0, slots := 0, locals := 0 } : Room).cells ({ frames := 0, cells := 0, slots := 0, locals := 0 } : Room).slots) := by
  refine MetFree.of_bodySF (plainFor_of_name pn_3) hisR ?_
  intro p e s m args below meth c s₁ Bd hml0 hP hK
  obtain ⟨rfl, hZ, hh⟩ := hP
  have hx := Bd.exec
  have hby := Bd.bytes
  have hml : c.maxLocals = 2 := hml0
  have hown : s.vm.findClass "com/example/postil/postil/query/BuiltinTakesPinLaw" = some m.cls := findClass_of_methodNamed Bd.named
  have X0 : Stand p l e ({ frames := 0, cells := 0, slots := 0, locals := 0 } : Room) s m #[(.int P0), (.int P1)] below meth c s₁ [] 0 0 := Stand.of_body Bd
  have e0 : s₁.heap = h0 := by rw [← hh, Bd.state]; rfl
  obtain ⟨T1, pc1, L1, lc1, X1, N1, e1, dc1, st1⟩ := tl3_0 P0 P1 (a0 := a0) (Z := Z) X0 hx hZ hw hby hml hown e0 (Fr.nil n0) Z0
  obtain ⟨fs, hr, hrun, hended, hW, hsame⟩ := X1.leave (v := some (.int (tf3_0 P0 P1))) (fun h => by rw [Bd.returns] at h; cases h)
  refine ⟨_, _, castTop (ef_3 m P0 P1) (st1 _ ?_), hrun, hended, _, _, rfl, ?_, ⟨_, rfl⟩, hW, hsame.mono (by decide) (by decide)⟩
  · refine retN X1 hx (t := .boolean) Bd.returns (by simp) dc1 ?_
    rw [show nar .boolean (tf3_0 P0 P1) = tf3_0 P0 P1 from by rcases tb3_0 P0 P1 with q | q <;> rw [q] <;> rfl]
    exact hr
  · show Q3 Z P0 P1 h0 n0 _ T1.heap _
    rw [e1]
    exact ⟨rfl, N1, rfl⟩

theorem own_same (k n : Int32) : (if n < own_lo k then (0 : Int32) else (if own_hi k < n then (0 : Int32) else (1 : Int32))) = tf3_0 k n := by
  have z1 : (1 : Int32).toInt = 1 := rfl
  have z2 : (2 : Int32).toInt = 2 := rfl
  have z3 : (3 : Int32).toInt = 3 := rfl
  have key : ∀ lo hi : Int32, (if n < lo then (0 : Int32) else (if hi < n then (0 : Int32) else (1 : Int32))) = if (lo.toInt ≤ n.toInt ∧ n.toInt ≤ hi.toInt) then (1 : Int32) else (0 : Int32) := fun lo hi => by
    by_cases h1 : n < lo
    · rw [if_pos h1, if_neg]; rw [Int32.lt_iff_toInt_lt] at h1; omega
    · rw [if_neg h1]
      by_cases h2 : hi < n
      · rw [if_pos h2, if_neg]; rw [Int32.lt_iff_toInt_lt] at h2; omega
      · rw [if_neg h2, if_pos]; rw [Int32.lt_iff_toInt_lt] at h1 h2; omega
  have q : ∀ m : Int32, (n = m) ↔ n.toInt = m.toInt := fun m => Int32.toInt_inj.symm
  rw [key]
  unfold tf3_0
  by_cases c9 : k = (9 : Int32)
  · rw [if_pos c9]
    have l : own_lo k = 2 := by rw [c9]; decide
    have h : own_hi k = 3 := by rw [c9]; decide
    rw [l, h, z2, z3]
    by_cases a : n = (2 : Int32)
    · rw [if_pos a, if_pos]; rw [q, z2] at a; omega
    · rw [if_neg a]
      by_cases b : n = (3 : Int32)
      · rw [if_pos b, if_pos]; rw [q, z3] at b; omega
      · rw [if_neg b, if_neg]; rw [q, z2] at a; rw [q, z3] at b; omega
  · rw [if_neg c9]
    by_cases c2 : k = (2 : Int32)
    · rw [if_pos c2]
      have l : own_lo k = 2 := by rw [c2]; decide
      have h : own_hi k = 2 := by rw [c2]; decide
      rw [l, h, z2]
      by_cases a : n = (2 : Int32)
      · rw [if_pos a, if_pos]; rw [q, z2] at a; omega
      · rw [if_neg a, if_neg]; rw [q, z2] at a; omega
    · rw [if_neg c2]
      by_cases c4 : k = (4 : Int32)
      · rw [if_pos c4]
        have l : own_lo k = 2 := by rw [c4]; decide
        have h : own_hi k = 2 := by rw [c4]; decide
        rw [l, h, z2]
        by_cases a : n = (2 : Int32)
        · rw [if_pos a, if_pos]; rw [q, z2] at a; omega
        · rw [if_neg a, if_neg]; rw [q, z2] at a; omega
      · rw [if_neg c4]
        have l : own_lo k = 1 := if_neg (fun q => q.elim c2 (fun q => q.elim c4 c9))
        have h : own_hi k = 1 := by unfold own_hi; rw [if_neg c9, if_neg (fun q => q.elim c2 c4)]
        rw [l, h, z1]
        by_cases a : n = (1 : Int32)
        · rw [if_pos a, if_pos]; rw [q, z1] at a; omega
        · rw [if_neg a, if_neg]; rw [q, z1] at a; omega
theorem pn_0 : plainName "com/example/postil/postil/query/BuiltinTakesPinLaw" = true := by first | (simp [plainName, overriddenIn]; done) | decide +kernel
theorem pd_0_0 : parseMethodDescriptor "(I)Lcom/example/postil/postil/query/Builtin;" = some ⟨[.int], some (.object "com/example/postil/postil/query/Builtin")⟩ := by decide +kernel
theorem pd_0_1 : parseMethodDescriptor "(I)Z" = some ⟨[.int], some .boolean⟩ := by decide +kernel
theorem pd_0_2 : parseMethodDescriptor "(II)Z" = some ⟨[.int, .int], some .boolean⟩ := by decide +kernel
theorem ef_0 (m : MethodId) (P0 : Int32) (P1 : Int32) (P2 : Int32) : entryFrame m #[(.int P0), (.int P1), (.int P2)] maxLocals = mkF m 0 #[.val (.int P0), .val (.int P1), .val (.int P2), .unset, .unset, .unset, .unset, .unset] [] := by first | (simp [entryFrame, mkF, argsToLocals, Value.category, maxLocals]; done) | rfl
def Q0 (Z : State) (P0 : Int32) (P1 : Int32) (P2 : Int32) (h0 : Heap) (n0 : Nat) (v : Option Value) (h : Heap) (L : List Loc) : Prop := v = some (.int (1 : Int32)) ∧ Fr n0 L
set_option maxRecDepth 65536 in
set_option maxHeartbeats 40000000 in
theorem rm0 (l : Launch) (Z : State) (a0 : Array Value) (hw : ∀ d ∈ tables_1, d.before a0 Z = true) (ws : List Jvm.Cond) (P0 : Int32) (P1 : Int32) (P2 : Int32) (h0 : Heap) (n0 : Nat) (Z0 : n0 ≤ h0.size) (hE0 : own_En Z h0 "STR" 1 1) (hE1 : own_En Z h0 "LANG" 1 1) (hE2 : own_En Z h0 "LANG_MATCHES" 2 2) (hE3 : own_En Z h0 "DATATYPE" 1 1) (hE4 : own_En Z h0 "SAME_TERM" 2 2) (hE5 : own_En Z h0 "IS_IRI" 1 1) (hE6 : own_En Z h0 "IS_URI" 1 1) (hE7 : own_En Z h0 "IS_BLANK" 1 1) (hE8 : own_En Z h0 "IS_LITERAL" 1 1) (hE9 : own_En Z h0 "REGEX" 2 3) (hE10 : own_En Z h0 "TO_STRING" 1 1) (hE11 : own_En Z h0 "TO_BOOLEAN" 1 1) (hE12 : own_En Z h0 "TO_INTEGER" 1 1) (hE13 : own_En Z h0 "TO_DECIMAL" 1 1) (hE14 : own_En Z h0 "TO_FLOAT" 1 1) (hE15 : own_En Z h0 "TO_DOUBLE" 1 1) (hE16 : own_En Z h0 "TO_DATE_TIME" 1 1) :
    MetFree l x (head1 (Jvm.Cond.code x code maxLocals ret :: ws) room_1) (fun a U => a = #[(.int P0), (.int P1), (.int P2)] ∧ Z.Warmed39 U.vm ∧ U.heap = h0) (fun _ _ _ _ _ => True) (fun _ U o U' => ∃ v L, o = .returned v ∧ Q0 Z P0 P1 P2 h0 n0 v U'.heap L ∧ FrameEnd U o U' L 0 0) := by
  refine MetFree.of_bodySF (plainFor_of_name pn_0) hisR ?_
  intro p e s m args below meth c s₁ Bd hml0 hP hK
  obtain ⟨rfl, hZ, hh⟩ := hP
  have hx := Bd.exec
  have hby := Bd.bytes
  have hml : c.maxLocals = 8 := hml0
  have hown : s.vm.findClass "com/example/postil/postil/query/BuiltinTakesPinLaw" = some m.cls := findClass_of_methodNamed Bd.named
  have hnm := (name_of_methodNamed Bd.named Bd.method).1
  have X0 : Stand p l e room_1 s m #[(.int P0), (.int P1), (.int P2)] below meth c s₁ [] 0 0 := Stand.of_body Bd
  have e0 : s₁.heap = h0 := by rw [← hh, Bd.state]; rfl
  have N0 := Fr.nil n0
  have pre0 : ∀ t, Steps p.tables e below (s₁.setTop (mkF m 0 #[.val (.int P0), .val (.int P1), .val (.int P2), .unset, .unset, .unset, .unset, .unset] [])) t → Steps p.tables e below (s₁.setTop (entryFrame m #[(.int P0), (.int P1), (.int P2)] maxLocals)) t := fun t k => castTop (ef_0 m P0 P1 P2) k
  obtain ⟨_, _, ⟨T101, L101, k101, n101⟩, -, X101, ⟨Lc101, hQ101, l101, y101, z101⟩, st101⟩ := Jvm.LawKit.callS X0 hx (y := (⟨"com/example/postil/postil/query/BuiltinTakesPinLaw", "pick", "(I)Lcom/example/postil/postil/query/Builtin;"⟩ : MethodName)) hown (mvT hZ (hw _ (List.mem_of_getElem? (i := 1) rfl))) (mvT hZ (hw _ (List.mem_of_getElem? (i := 2) rfl))) (mvT hZ (hw _ (List.mem_of_getElem? (i := 3) rfl))) (mvT hZ (hw _ (List.mem_of_getElem? (i := 4) rfl))) (by decide) (backOf (W := 0) (rm1 l Z a0 hw [] ((P0 &&& (2147483647 : Int32)) % (17 : Int32)) h0 n0 Z0 (show own_En Z h0 "STR" 1 1 from hE0) (show own_En Z h0 "LANG" 1 1 from hE1) (show own_En Z h0 "LANG_MATCHES" 2 2 from hE2) (show own_En Z h0 "DATATYPE" 1 1 from hE3) (show own_En Z h0 "SAME_TERM" 2 2 from hE4) (show own_En Z h0 "IS_IRI" 1 1 from hE5) (show own_En Z h0 "IS_URI" 1 1 from hE6) (show own_En Z h0 "IS_BLANK" 1 1 from hE7) (show own_En Z h0 "IS_LITERAL" 1 1 from hE8) (show own_En Z h0 "REGEX" 2 3 from hE9) (show own_En Z h0 "TO_STRING" 1 1 from hE10) (show own_En Z h0 "TO_BOOLEAN" 1 1 from hE11) (show own_En Z h0 "TO_INTEGER" 1 1 from hE12) (show own_En Z h0 "TO_DECIMAL" 1 1 from hE13) (show own_En Z h0 "TO_FLOAT" 1 1 from hE14) (show own_En Z h0 "TO_DOUBLE" 1 1 from hE15) (show own_En Z h0 "TO_DATE_TIME" 1 1 from hE16)) hZ (hw _ (List.mem_of_getElem? (i := 4) rfl)) (hw _ (List.mem_of_getElem? (i := 3) rfl)) (by decide) (by decide)) (g := (mkF m 9 #[.val (.int P0), .val (.int P1), .val (.int P2), .val (.int ((P0 &&& (2147483647 : Int32)) % (17 : Int32))), .unset, .unset, .unset, .unset] [(.int ((P0 &&& (2147483647 : Int32)) % (17 : Int32)))])) rfl (by rw [hml]; rfl) (argsL := [(.int ((P0 &&& (2147483647 : Int32)) % (17 : Int32)))]) (rest := []) (lenOf pd_0_0 rfl) rfl (by show 2 * 0 + _ ≤ _; exact Nat.le_of_eq rfl) (hb hby at_9) (fun _ _ => ⟨rfl, e0, (by decide : 0 + 0 ≤ _), (by decide : 0 + 0 ≤ _)⟩)
  dsimp only [Pt.U, Pt.locs, Pt.cells, Pt.slots] at X101 l101 y101 z101 st101 hQ101
  subst l101 y101 z101
  obtain ⟨x101_R0, rfl, N101q, K101, p101_0, p101_1, p101_2⟩ := hQ101
  have N101 := Fr.app N0 N101q
  rw [K101] at p101_0 p101_1 p101_2
  obtain ⟨cq102, kq102, q102a, q102b, q102c⟩ := isOf hZ K101 p101_0
  obtain ⟨_, _, ⟨T102, L102, k102, n102⟩, -, X102, ⟨Lc102, hQ102, l102, y102, z102⟩, st102⟩ := X101.virtualBack hx (y := (⟨"com/example/postil/postil/query/Builtin", "takes", "(I)Z"⟩ : MethodName)) (z := (⟨"com/example/postil/postil/query/Builtin", "takes", "(I)Z"⟩ : MethodName)) hown (mvT hZ (hw _ (List.mem_of_getElem? (i := 8) rfl))) (mvT hZ (hw _ (List.mem_of_getElem? (i := 9) rfl))) (notFace_of_selects (args := #[]) (mvT hZ (hw _ (List.mem_of_getElem? (i := 11) rfl)))) (mvT hZ (hw _ (List.mem_of_getElem? (i := 11) rfl))) (mvT hZ (hw _ (List.mem_of_getElem? (i := 10) rfl))) (by decide) (backOf (W := 0) (rm2 l Z a0 hw [] x101_R0 P1 (own_lo ((P0 &&& (2147483647 : Int32)) % (17 : Int32))) (own_hi ((P0 &&& (2147483647 : Int32)) % (17 : Int32))) h0 n0 Z0 p101_1 p101_2) hZ (hw _ (List.mem_of_getElem? (i := 12) rfl)) (hw _ (List.mem_of_getElem? (i := 6) rfl)) (by decide) (by decide)) q102a q102c (g := (mkF m 25 #[.val (.int P0), .val (.int P1), .val (.int P2), .val (.int ((P0 &&& (2147483647 : Int32)) % (17 : Int32))), .val (.ref x101_R0), .val (.int ((P2 &&& (7 : Int32)) - (2 : Int32))), .unset, .unset] [(.int P1), (.ref x101_R0)])) rfl (by rw [hml]; rfl) (Steps.refl _) (argsL := [(.int P1)]) (rest := []) (lenOf pd_0_1 rfl) rfl (by show 2 * 0 + _ ≤ _; exact Nat.le_of_eq rfl) (hb hby at_25) (fun _ _ => ⟨rfl, K101, (by decide : 0 + 0 ≤ _), (by decide : 0 + 0 ≤ _)⟩)
  dsimp only [Pt.U, Pt.locs, Pt.cells, Pt.slots] at X102 l102 y102 z102 st102 hQ102
  subst l102 y102 z102
  obtain ⟨rfl, N102q, K102⟩ := hQ102
  have N102 := Fr.app N101 N102q
  obtain ⟨_, _, ⟨T103, L103, k103, n103⟩, -, X103, ⟨Lc103, hQ103, l103, y103, z103⟩, st103⟩ := Jvm.LawKit.callS X102 hx (y := (⟨"com/example/postil/postil/query/BuiltinTakesPinLaw", "expected", "(II)Z"⟩ : MethodName)) hown (mvT hZ (hw _ (List.mem_of_getElem? (i := 17) rfl))) (mvT hZ (hw _ (List.mem_of_getElem? (i := 18) rfl))) (mvT hZ (hw _ (List.mem_of_getElem? (i := 3) rfl))) (mvT hZ (hw _ (List.mem_of_getElem? (i := 19) rfl))) (by decide) (backOf (W := 1) (rm3 l Z a0 hw [] ((P0 &&& (2147483647 : Int32)) % (17 : Int32)) P1 h0 n0 Z0 ) hZ (hw _ (List.mem_of_getElem? (i := 19) rfl)) (hw _ (List.mem_of_getElem? (i := 3) rfl)) (by decide) (by decide)) (g := (mkF m 30 #[.val (.int P0), .val (.int P1), .val (.int P2), .val (.int ((P0 &&& (2147483647 : Int32)) % (17 : Int32))), .val (.ref x101_R0), .val (.int ((P2 &&& (7 : Int32)) - (2 : Int32))), .unset, .unset] [(.int P1), (.int ((P0 &&& (2147483647 : Int32)) % (17 : Int32))), (.int (if P1 < (own_lo ((P0 &&& (2147483647 : Int32)) % (17 : Int32))) then (0 : Int32) else (if (own_hi ((P0 &&& (2147483647 : Int32)) % (17 : Int32))) < P1 then (0 : Int32) else (1 : Int32))))])) rfl (by rw [hml]; rfl) (argsL := [(.int ((P0 &&& (2147483647 : Int32)) % (17 : Int32))), (.int P1)]) (rest := [(.int (if P1 < (own_lo ((P0 &&& (2147483647 : Int32)) % (17 : Int32))) then (0 : Int32) else (if (own_hi ((P0 &&& (2147483647 : Int32)) % (17 : Int32))) < P1 then (0 : Int32) else (1 : Int32))))]) (lenOf pd_0_2 rfl) rfl (by show 2 * 0 + _ ≤ _; exact Nat.le_of_eq rfl) (hb hby at_30) (fun _ _ => ⟨rfl, K102, (by decide : 0 + 0 ≤ _), (by decide : 0 + 0 ≤ _)⟩)
  dsimp only [Pt.U, Pt.locs, Pt.cells, Pt.slots] at X103 l103 y103 z103 st103 hQ103
  subst l103 y103 z103
  obtain ⟨rfl, N103q, K103⟩ := hQ103
  have N103 := Fr.app N102 N103q
  obtain ⟨cq104, kq104, q104a, q104b, q104c⟩ := isOf hZ K103 p101_0
  obtain ⟨_, _, ⟨T104, L104, k104, n104⟩, -, X104, ⟨Lc104, hQ104, l104, y104, z104⟩, st104⟩ := X103.virtualBack hx (y := (⟨"com/example/postil/postil/query/Builtin", "takes", "(I)Z"⟩ : MethodName)) (z := (⟨"com/example/postil/postil/query/Builtin", "takes", "(I)Z"⟩ : MethodName)) hown (mvT hZ (hw _ (List.mem_of_getElem? (i := 8) rfl))) (mvT hZ (hw _ (List.mem_of_getElem? (i := 9) rfl))) (notFace_of_selects (args := #[]) (mvT hZ (hw _ (List.mem_of_getElem? (i := 11) rfl)))) (mvT hZ (hw _ (List.mem_of_getElem? (i := 11) rfl))) (mvT hZ (hw _ (List.mem_of_getElem? (i := 10) rfl))) (by decide) (backOf (W := 0) (rm2 l Z a0 hw [] x101_R0 ((P2 &&& (7 : Int32)) - (2 : Int32)) (own_lo ((P0 &&& (2147483647 : Int32)) % (17 : Int32))) (own_hi ((P0 &&& (2147483647 : Int32)) % (17 : Int32))) h0 n0 Z0 p101_1 p101_2) hZ (hw _ (List.mem_of_getElem? (i := 12) rfl)) (hw _ (List.mem_of_getElem? (i := 6) rfl)) (by decide) (by decide)) q104a q104c (g := (mkF m 47 #[.val (.int P0), .val (.int P1), .val (.int P2), .val (.int ((P0 &&& (2147483647 : Int32)) % (17 : Int32))), .val (.ref x101_R0), .val (.int ((P2 &&& (7 : Int32)) - (2 : Int32))), .val (.int (1 : Int32)), .unset] [(.int ((P2 &&& (7 : Int32)) - (2 : Int32))), (.ref x101_R0)])) rfl (by rw [hml]; rfl) (Steps.refl _) (argsL := [(.int ((P2 &&& (7 : Int32)) - (2 : Int32)))]) (rest := []) (lenOf pd_0_1 rfl) rfl (by show 2 * 0 + _ ≤ _; exact Nat.le_of_eq rfl) (hb hby at_47) (fun _ _ => ⟨rfl, K103, (by decide : 0 + 0 ≤ _), (by decide : 0 + 0 ≤ _)⟩)
  dsimp only [Pt.U, Pt.locs, Pt.cells, Pt.slots] at X104 l104 y104 z104 st104 hQ104
  subst l104 y104 z104
  obtain ⟨rfl, N104q, K104⟩ := hQ104
  have N104 := Fr.app N103 N104q
  obtain ⟨_, _, ⟨T105, L105, k105, n105⟩, -, X105, ⟨Lc105, hQ105, l105, y105, z105⟩, st105⟩ := Jvm.LawKit.callS X104 hx (y := (⟨"com/example/postil/postil/query/BuiltinTakesPinLaw", "expected", "(II)Z"⟩ : MethodName)) hown (mvT hZ (hw _ (List.mem_of_getElem? (i := 17) rfl))) (mvT hZ (hw _ (List.mem_of_getElem? (i := 18) rfl))) (mvT hZ (hw _ (List.mem_of_getElem? (i := 3) rfl))) (mvT hZ (hw _ (List.mem_of_getElem? (i := 19) rfl))) (by decide) (backOf (W := 1) (rm3 l Z a0 hw [] ((P0 &&& (2147483647 : Int32)) % (17 : Int32)) ((P2 &&& (7 : Int32)) - (2 : Int32)) h0 n0 Z0 ) hZ (hw _ (List.mem_of_getElem? (i := 19) rfl)) (hw _ (List.mem_of_getElem? (i := 3) rfl)) (by decide) (by decide)) (g := (mkF m 53 #[.val (.int P0), .val (.int P1), .val (.int P2), .val (.int ((P0 &&& (2147483647 : Int32)) % (17 : Int32))), .val (.ref x101_R0), .val (.int ((P2 &&& (7 : Int32)) - (2 : Int32))), .val (.int (1 : Int32)), .unset] [(.int ((P2 &&& (7 : Int32)) - (2 : Int32))), (.int ((P0 &&& (2147483647 : Int32)) % (17 : Int32))), (.int (if ((P2 &&& (7 : Int32)) - (2 : Int32)) < (own_lo ((P0 &&& (2147483647 : Int32)) % (17 : Int32))) then (0 : Int32) else (if (own_hi ((P0 &&& (2147483647 : Int32)) % (17 : Int32))) < ((P2 &&& (7 : Int32)) - (2 : Int32)) then (0 : Int32) else (1 : Int32))))])) rfl (by rw [hml]; rfl) (argsL := [(.int ((P0 &&& (2147483647 : Int32)) % (17 : Int32))), (.int ((P2 &&& (7 : Int32)) - (2 : Int32)))]) (rest := [(.int (if ((P2 &&& (7 : Int32)) - (2 : Int32)) < (own_lo ((P0 &&& (2147483647 : Int32)) % (17 : Int32))) then (0 : Int32) else (if (own_hi ((P0 &&& (2147483647 : Int32)) % (17 : Int32))) < ((P2 &&& (7 : Int32)) - (2 : Int32)) then (0 : Int32) else (1 : Int32))))]) (lenOf pd_0_2 rfl) rfl (by show 2 * 0 + _ ≤ _; exact Nat.le_of_eq rfl) (hb hby at_53) (fun _ _ => ⟨rfl, K104, (by decide : 0 + 0 ≤ _), (by decide : 0 + 0 ≤ _)⟩)
  dsimp only [Pt.U, Pt.locs, Pt.cells, Pt.slots] at X105 l105 y105 z105 st105 hQ105
  subst l105 y105 z105
  obtain ⟨rfl, N105q, K105⟩ := hQ105
  have N105 := Fr.app N104 N105q
  have pre106 : ∀ t, Steps p.tables e below (T105.setTop (mkF m 81 #[.val (.int P0), .val (.int P1), .val (.int P2), .val (.int ((P0 &&& (2147483647 : Int32)) % (17 : Int32))), .val (.ref x101_R0), .val (.int ((P2 &&& (7 : Int32)) - (2 : Int32))), .val (.int (1 : Int32)), .val (.int (1 : Int32))] [(.int (1 : Int32))])) t → Steps p.tables e below (s₁.setTop (entryFrame m #[(.int P0), (.int P1), (.int P2)] maxLocals)) t := fun t kt => pre0 t (by
      show Steps p.tables e below (s₁.setTop (mkF m 0 #[.val (.int P0), .val (.int P1), .val (.int P2), .unset, .unset, .unset, .unset, .unset] [])) _
      refine XS.iloadN X0.here hx rfl (hb hby at_0) rfl ?_
      show Steps p.tables e below (s₁.setTop (mkF m 1 #[.val (.int P0), .val (.int P1), .val (.int P2), .unset, .unset, .unset, .unset, .unset] [(.int P0)])) _
      refine X0.ldcInt hx hown (mvT hZ (hw _ (List.mem_of_getElem? (i := 0) rfl))) (g := (mkF m 1 #[.val (.int P0), .val (.int P1), .val (.int P2), .unset, .unset, .unset, .unset, .unset] [(.int P0)])) rfl (hb hby at_1) _ ?_
      show Steps p.tables e below (s₁.setTop (mkF m 3 #[.val (.int P0), .val (.int P1), .val (.int P2), .unset, .unset, .unset, .unset, .unset] [(.int (2147483647 : Int32)), (.int P0)])) _
      refine XS.iand X0.here hx rfl (hb hby at_3) rfl ?_
      show Steps p.tables e below (s₁.setTop (mkF m 4 #[.val (.int P0), .val (.int P1), .val (.int P2), .unset, .unset, .unset, .unset, .unset] [(.int (P0 &&& (2147483647 : Int32)))])) _
      refine XS.bipush X0.here hx rfl (hb hby at_4) ?_
      show Steps p.tables e below (s₁.setTop (mkF m 6 #[.val (.int P0), .val (.int P1), .val (.int P2), .unset, .unset, .unset, .unset, .unset] [(.int (17 : Int32)), (.int (P0 &&& (2147483647 : Int32)))])) _
      refine iremM (g := (mkF m 6 #[.val (.int P0), .val (.int P1), .val (.int P2), .unset, .unset, .unset, .unset, .unset] [(.int (17 : Int32)), (.int (P0 &&& (2147483647 : Int32)))])) X0 hx rfl (hb hby at_6) rfl (by decide) ?_
      show Steps p.tables e below (s₁.setTop (mkF m 7 #[.val (.int P0), .val (.int P1), .val (.int P2), .unset, .unset, .unset, .unset, .unset] [(.int ((P0 &&& (2147483647 : Int32)) % (17 : Int32)))])) _
      refine XS.istoreN X0.here hx rfl (hb hby at_7) rfl (l' := #[.val (.int P0), .val (.int P1), .val (.int P2), .val (.int ((P0 &&& (2147483647 : Int32)) % (17 : Int32))), .unset, .unset, .unset, .unset]) rfl ?_
      show Steps p.tables e below (s₁.setTop (mkF m 8 #[.val (.int P0), .val (.int P1), .val (.int P2), .val (.int ((P0 &&& (2147483647 : Int32)) % (17 : Int32))), .unset, .unset, .unset, .unset] [])) _
      refine XS.iloadN X0.here hx rfl (hb hby at_8) rfl ?_
      show Steps p.tables e below (s₁.setTop (mkF m 9 #[.val (.int P0), .val (.int P1), .val (.int P2), .val (.int ((P0 &&& (2147483647 : Int32)) % (17 : Int32))), .unset, .unset, .unset, .unset] [(.int ((P0 &&& (2147483647 : Int32)) % (17 : Int32)))])) _
      refine st101 _ ?_
      show Steps p.tables e below (T101.setTop (mkF m 12 #[.val (.int P0), .val (.int P1), .val (.int P2), .val (.int ((P0 &&& (2147483647 : Int32)) % (17 : Int32))), .unset, .unset, .unset, .unset] [(.ref x101_R0)])) _
      refine XS.astore X101.here hx rfl (hb hby at_12) rfl rfl (l' := #[.val (.int P0), .val (.int P1), .val (.int P2), .val (.int ((P0 &&& (2147483647 : Int32)) % (17 : Int32))), .val (.ref x101_R0), .unset, .unset, .unset]) rfl ?_
      show Steps p.tables e below (T101.setTop (mkF m 14 #[.val (.int P0), .val (.int P1), .val (.int P2), .val (.int ((P0 &&& (2147483647 : Int32)) % (17 : Int32))), .val (.ref x101_R0), .unset, .unset, .unset] [])) _
      refine XS.iloadN X101.here hx rfl (hb hby at_14) rfl ?_
      show Steps p.tables e below (T101.setTop (mkF m 15 #[.val (.int P0), .val (.int P1), .val (.int P2), .val (.int ((P0 &&& (2147483647 : Int32)) % (17 : Int32))), .val (.ref x101_R0), .unset, .unset, .unset] [(.int P2)])) _
      refine XS.bipush X101.here hx rfl (hb hby at_15) ?_
      show Steps p.tables e below (T101.setTop (mkF m 17 #[.val (.int P0), .val (.int P1), .val (.int P2), .val (.int ((P0 &&& (2147483647 : Int32)) % (17 : Int32))), .val (.ref x101_R0), .unset, .unset, .unset] [(.int (7 : Int32)), (.int P2)])) _
      refine XS.iand X101.here hx rfl (hb hby at_17) rfl ?_
      show Steps p.tables e below (T101.setTop (mkF m 18 #[.val (.int P0), .val (.int P1), .val (.int P2), .val (.int ((P0 &&& (2147483647 : Int32)) % (17 : Int32))), .val (.ref x101_R0), .unset, .unset, .unset] [(.int (P2 &&& (7 : Int32)))])) _
      refine XS.iconst X101.here hx rfl (hb hby at_18) ?_
      show Steps p.tables e below (T101.setTop (mkF m 19 #[.val (.int P0), .val (.int P1), .val (.int P2), .val (.int ((P0 &&& (2147483647 : Int32)) % (17 : Int32))), .val (.ref x101_R0), .unset, .unset, .unset] [(.int (2 : Int32)), (.int (P2 &&& (7 : Int32)))])) _
      refine XS.isub X101.here hx rfl (hb hby at_19) rfl ?_
      show Steps p.tables e below (T101.setTop (mkF m 20 #[.val (.int P0), .val (.int P1), .val (.int P2), .val (.int ((P0 &&& (2147483647 : Int32)) % (17 : Int32))), .val (.ref x101_R0), .unset, .unset, .unset] [(.int ((P2 &&& (7 : Int32)) - (2 : Int32)))])) _
      refine XS.istore X101.here hx rfl (hb hby at_20) rfl (l' := #[.val (.int P0), .val (.int P1), .val (.int P2), .val (.int ((P0 &&& (2147483647 : Int32)) % (17 : Int32))), .val (.ref x101_R0), .val (.int ((P2 &&& (7 : Int32)) - (2 : Int32))), .unset, .unset]) rfl ?_
      show Steps p.tables e below (T101.setTop (mkF m 22 #[.val (.int P0), .val (.int P1), .val (.int P2), .val (.int ((P0 &&& (2147483647 : Int32)) % (17 : Int32))), .val (.ref x101_R0), .val (.int ((P2 &&& (7 : Int32)) - (2 : Int32))), .unset, .unset] [])) _
      refine XS.aload X101.here hx rfl (hb hby at_22) rfl rfl ?_
      show Steps p.tables e below (T101.setTop (mkF m 24 #[.val (.int P0), .val (.int P1), .val (.int P2), .val (.int ((P0 &&& (2147483647 : Int32)) % (17 : Int32))), .val (.ref x101_R0), .val (.int ((P2 &&& (7 : Int32)) - (2 : Int32))), .unset, .unset] [(.ref x101_R0)])) _
      refine XS.iloadN X101.here hx rfl (hb hby at_24) rfl ?_
      show Steps p.tables e below (T101.setTop (mkF m 25 #[.val (.int P0), .val (.int P1), .val (.int P2), .val (.int ((P0 &&& (2147483647 : Int32)) % (17 : Int32))), .val (.ref x101_R0), .val (.int ((P2 &&& (7 : Int32)) - (2 : Int32))), .unset, .unset] [(.int P1), (.ref x101_R0)])) _
      refine st102.trans ?_
      show Steps p.tables e below (T102.setTop (mkF m 28 #[.val (.int P0), .val (.int P1), .val (.int P2), .val (.int ((P0 &&& (2147483647 : Int32)) % (17 : Int32))), .val (.ref x101_R0), .val (.int ((P2 &&& (7 : Int32)) - (2 : Int32))), .unset, .unset] [(.int (if P1 < (own_lo ((P0 &&& (2147483647 : Int32)) % (17 : Int32))) then (0 : Int32) else (if (own_hi ((P0 &&& (2147483647 : Int32)) % (17 : Int32))) < P1 then (0 : Int32) else (1 : Int32))))])) _
      refine XS.iloadN X102.here hx rfl (hb hby at_28) rfl ?_
      show Steps p.tables e below (T102.setTop (mkF m 29 #[.val (.int P0), .val (.int P1), .val (.int P2), .val (.int ((P0 &&& (2147483647 : Int32)) % (17 : Int32))), .val (.ref x101_R0), .val (.int ((P2 &&& (7 : Int32)) - (2 : Int32))), .unset, .unset] [(.int ((P0 &&& (2147483647 : Int32)) % (17 : Int32))), (.int (if P1 < (own_lo ((P0 &&& (2147483647 : Int32)) % (17 : Int32))) then (0 : Int32) else (if (own_hi ((P0 &&& (2147483647 : Int32)) % (17 : Int32))) < P1 then (0 : Int32) else (1 : Int32))))])) _
      refine XS.iloadN X102.here hx rfl (hb hby at_29) rfl ?_
      show Steps p.tables e below (T102.setTop (mkF m 30 #[.val (.int P0), .val (.int P1), .val (.int P2), .val (.int ((P0 &&& (2147483647 : Int32)) % (17 : Int32))), .val (.ref x101_R0), .val (.int ((P2 &&& (7 : Int32)) - (2 : Int32))), .unset, .unset] [(.int P1), (.int ((P0 &&& (2147483647 : Int32)) % (17 : Int32))), (.int (if P1 < (own_lo ((P0 &&& (2147483647 : Int32)) % (17 : Int32))) then (0 : Int32) else (if (own_hi ((P0 &&& (2147483647 : Int32)) % (17 : Int32))) < P1 then (0 : Int32) else (1 : Int32))))])) _
      refine st103 _ ?_
      show Steps p.tables e below (T103.setTop (mkF m 33 #[.val (.int P0), .val (.int P1), .val (.int P2), .val (.int ((P0 &&& (2147483647 : Int32)) % (17 : Int32))), .val (.ref x101_R0), .val (.int ((P2 &&& (7 : Int32)) - (2 : Int32))), .unset, .unset] [(.int (tf3_0 ((P0 &&& (2147483647 : Int32)) % (17 : Int32)) P1)), (.int (if P1 < (own_lo ((P0 &&& (2147483647 : Int32)) % (17 : Int32))) then (0 : Int32) else (if (own_hi ((P0 &&& (2147483647 : Int32)) % (17 : Int32))) < P1 then (0 : Int32) else (1 : Int32))))])) _
      refine XS.icmpNo X103.here hx rfl (hb hby at_33) rfl (teq (show (if P1 < (own_lo ((P0 &&& (2147483647 : Int32)) % (17 : Int32))) then (0 : Int32) else (if (own_hi ((P0 &&& (2147483647 : Int32)) % (17 : Int32))) < P1 then (0 : Int32) else (1 : Int32))) = (tf3_0 ((P0 &&& (2147483647 : Int32)) % (17 : Int32)) P1) from (own_same _ _))).2 ?_
      show Steps p.tables e below (T103.setTop (mkF m 36 #[.val (.int P0), .val (.int P1), .val (.int P2), .val (.int ((P0 &&& (2147483647 : Int32)) % (17 : Int32))), .val (.ref x101_R0), .val (.int ((P2 &&& (7 : Int32)) - (2 : Int32))), .unset, .unset] [])) _
      refine XS.iconst X103.here hx rfl (hb hby at_36) ?_
      show Steps p.tables e below (T103.setTop (mkF m 37 #[.val (.int P0), .val (.int P1), .val (.int P2), .val (.int ((P0 &&& (2147483647 : Int32)) % (17 : Int32))), .val (.ref x101_R0), .val (.int ((P2 &&& (7 : Int32)) - (2 : Int32))), .unset, .unset] [(.int (1 : Int32))])) _
      refine XS.goto X103.here hx rfl (pc0 := 37) (pc' := 41) rfl (hb hby at_37) (by decide) (by decide) ?_
      show Steps p.tables e below (T103.setTop (mkF m 41 #[.val (.int P0), .val (.int P1), .val (.int P2), .val (.int ((P0 &&& (2147483647 : Int32)) % (17 : Int32))), .val (.ref x101_R0), .val (.int ((P2 &&& (7 : Int32)) - (2 : Int32))), .unset, .unset] [(.int (1 : Int32))])) _
      refine XS.istore X103.here hx rfl (hb hby at_41) rfl (l' := #[.val (.int P0), .val (.int P1), .val (.int P2), .val (.int ((P0 &&& (2147483647 : Int32)) % (17 : Int32))), .val (.ref x101_R0), .val (.int ((P2 &&& (7 : Int32)) - (2 : Int32))), .val (.int (1 : Int32)), .unset]) rfl ?_
      show Steps p.tables e below (T103.setTop (mkF m 43 #[.val (.int P0), .val (.int P1), .val (.int P2), .val (.int ((P0 &&& (2147483647 : Int32)) % (17 : Int32))), .val (.ref x101_R0), .val (.int ((P2 &&& (7 : Int32)) - (2 : Int32))), .val (.int (1 : Int32)), .unset] [])) _
      refine XS.aload X103.here hx rfl (hb hby at_43) rfl rfl ?_
      show Steps p.tables e below (T103.setTop (mkF m 45 #[.val (.int P0), .val (.int P1), .val (.int P2), .val (.int ((P0 &&& (2147483647 : Int32)) % (17 : Int32))), .val (.ref x101_R0), .val (.int ((P2 &&& (7 : Int32)) - (2 : Int32))), .val (.int (1 : Int32)), .unset] [(.ref x101_R0)])) _
      refine XS.iload X103.here hx rfl (hb hby at_45) rfl ?_
      show Steps p.tables e below (T103.setTop (mkF m 47 #[.val (.int P0), .val (.int P1), .val (.int P2), .val (.int ((P0 &&& (2147483647 : Int32)) % (17 : Int32))), .val (.ref x101_R0), .val (.int ((P2 &&& (7 : Int32)) - (2 : Int32))), .val (.int (1 : Int32)), .unset] [(.int ((P2 &&& (7 : Int32)) - (2 : Int32))), (.ref x101_R0)])) _
      refine st104.trans ?_
      show Steps p.tables e below (T104.setTop (mkF m 50 #[.val (.int P0), .val (.int P1), .val (.int P2), .val (.int ((P0 &&& (2147483647 : Int32)) % (17 : Int32))), .val (.ref x101_R0), .val (.int ((P2 &&& (7 : Int32)) - (2 : Int32))), .val (.int (1 : Int32)), .unset] [(.int (if ((P2 &&& (7 : Int32)) - (2 : Int32)) < (own_lo ((P0 &&& (2147483647 : Int32)) % (17 : Int32))) then (0 : Int32) else (if (own_hi ((P0 &&& (2147483647 : Int32)) % (17 : Int32))) < ((P2 &&& (7 : Int32)) - (2 : Int32)) then (0 : Int32) else (1 : Int32))))])) _
      refine XS.iloadN X104.here hx rfl (hb hby at_50) rfl ?_
      show Steps p.tables e below (T104.setTop (mkF m 51 #[.val (.int P0), .val (.int P1), .val (.int P2), .val (.int ((P0 &&& (2147483647 : Int32)) % (17 : Int32))), .val (.ref x101_R0), .val (.int ((P2 &&& (7 : Int32)) - (2 : Int32))), .val (.int (1 : Int32)), .unset] [(.int ((P0 &&& (2147483647 : Int32)) % (17 : Int32))), (.int (if ((P2 &&& (7 : Int32)) - (2 : Int32)) < (own_lo ((P0 &&& (2147483647 : Int32)) % (17 : Int32))) then (0 : Int32) else (if (own_hi ((P0 &&& (2147483647 : Int32)) % (17 : Int32))) < ((P2 &&& (7 : Int32)) - (2 : Int32)) then (0 : Int32) else (1 : Int32))))])) _
      refine XS.iload X104.here hx rfl (hb hby at_51) rfl ?_
      show Steps p.tables e below (T104.setTop (mkF m 53 #[.val (.int P0), .val (.int P1), .val (.int P2), .val (.int ((P0 &&& (2147483647 : Int32)) % (17 : Int32))), .val (.ref x101_R0), .val (.int ((P2 &&& (7 : Int32)) - (2 : Int32))), .val (.int (1 : Int32)), .unset] [(.int ((P2 &&& (7 : Int32)) - (2 : Int32))), (.int ((P0 &&& (2147483647 : Int32)) % (17 : Int32))), (.int (if ((P2 &&& (7 : Int32)) - (2 : Int32)) < (own_lo ((P0 &&& (2147483647 : Int32)) % (17 : Int32))) then (0 : Int32) else (if (own_hi ((P0 &&& (2147483647 : Int32)) % (17 : Int32))) < ((P2 &&& (7 : Int32)) - (2 : Int32)) then (0 : Int32) else (1 : Int32))))])) _
      refine st105 _ ?_
      show Steps p.tables e below (T105.setTop (mkF m 56 #[.val (.int P0), .val (.int P1), .val (.int P2), .val (.int ((P0 &&& (2147483647 : Int32)) % (17 : Int32))), .val (.ref x101_R0), .val (.int ((P2 &&& (7 : Int32)) - (2 : Int32))), .val (.int (1 : Int32)), .unset] [(.int (tf3_0 ((P0 &&& (2147483647 : Int32)) % (17 : Int32)) ((P2 &&& (7 : Int32)) - (2 : Int32)))), (.int (if ((P2 &&& (7 : Int32)) - (2 : Int32)) < (own_lo ((P0 &&& (2147483647 : Int32)) % (17 : Int32))) then (0 : Int32) else (if (own_hi ((P0 &&& (2147483647 : Int32)) % (17 : Int32))) < ((P2 &&& (7 : Int32)) - (2 : Int32)) then (0 : Int32) else (1 : Int32))))])) _
      refine XS.icmpNo X105.here hx rfl (hb hby at_56) rfl (teq (show (if ((P2 &&& (7 : Int32)) - (2 : Int32)) < (own_lo ((P0 &&& (2147483647 : Int32)) % (17 : Int32))) then (0 : Int32) else (if (own_hi ((P0 &&& (2147483647 : Int32)) % (17 : Int32))) < ((P2 &&& (7 : Int32)) - (2 : Int32)) then (0 : Int32) else (1 : Int32))) = (tf3_0 ((P0 &&& (2147483647 : Int32)) % (17 : Int32)) ((P2 &&& (7 : Int32)) - (2 : Int32))) from (own_same _ _))).2 ?_
      show Steps p.tables e below (T105.setTop (mkF m 59 #[.val (.int P0), .val (.int P1), .val (.int P2), .val (.int ((P0 &&& (2147483647 : Int32)) % (17 : Int32))), .val (.ref x101_R0), .val (.int ((P2 &&& (7 : Int32)) - (2 : Int32))), .val (.int (1 : Int32)), .unset] [])) _
      refine XS.iconst X105.here hx rfl (hb hby at_59) ?_
      show Steps p.tables e below (T105.setTop (mkF m 60 #[.val (.int P0), .val (.int P1), .val (.int P2), .val (.int ((P0 &&& (2147483647 : Int32)) % (17 : Int32))), .val (.ref x101_R0), .val (.int ((P2 &&& (7 : Int32)) - (2 : Int32))), .val (.int (1 : Int32)), .unset] [(.int (1 : Int32))])) _
      refine XS.goto X105.here hx rfl (pc0 := 60) (pc' := 64) rfl (hb hby at_60) (by decide) (by decide) ?_
      show Steps p.tables e below (T105.setTop (mkF m 64 #[.val (.int P0), .val (.int P1), .val (.int P2), .val (.int ((P0 &&& (2147483647 : Int32)) % (17 : Int32))), .val (.ref x101_R0), .val (.int ((P2 &&& (7 : Int32)) - (2 : Int32))), .val (.int (1 : Int32)), .unset] [(.int (1 : Int32))])) _
      refine XS.istore X105.here hx rfl (hb hby at_64) rfl (l' := #[.val (.int P0), .val (.int P1), .val (.int P2), .val (.int ((P0 &&& (2147483647 : Int32)) % (17 : Int32))), .val (.ref x101_R0), .val (.int ((P2 &&& (7 : Int32)) - (2 : Int32))), .val (.int (1 : Int32)), .val (.int (1 : Int32))]) rfl ?_
      show Steps p.tables e below (T105.setTop (mkF m 66 #[.val (.int P0), .val (.int P1), .val (.int P2), .val (.int ((P0 &&& (2147483647 : Int32)) % (17 : Int32))), .val (.ref x101_R0), .val (.int ((P2 &&& (7 : Int32)) - (2 : Int32))), .val (.int (1 : Int32)), .val (.int (1 : Int32))] [])) _
      refine XS.iload X105.here hx rfl (hb hby at_66) rfl ?_
      show Steps p.tables e below (T105.setTop (mkF m 68 #[.val (.int P0), .val (.int P1), .val (.int P2), .val (.int ((P0 &&& (2147483647 : Int32)) % (17 : Int32))), .val (.ref x101_R0), .val (.int ((P2 &&& (7 : Int32)) - (2 : Int32))), .val (.int (1 : Int32)), .val (.int (1 : Int32))] [(.int (1 : Int32))])) _
      refine XS.ifNo X105.here hx rfl (hb hby at_68) rfl ((if0 _ _).trans (feq (show ¬ ((1 : Int32) = (0 : Int32)) from (by decide))).1) ?_
      show Steps p.tables e below (T105.setTop (mkF m 71 #[.val (.int P0), .val (.int P1), .val (.int P2), .val (.int ((P0 &&& (2147483647 : Int32)) % (17 : Int32))), .val (.ref x101_R0), .val (.int ((P2 &&& (7 : Int32)) - (2 : Int32))), .val (.int (1 : Int32)), .val (.int (1 : Int32))] [])) _
      refine XS.iload X105.here hx rfl (hb hby at_71) rfl ?_
      show Steps p.tables e below (T105.setTop (mkF m 73 #[.val (.int P0), .val (.int P1), .val (.int P2), .val (.int ((P0 &&& (2147483647 : Int32)) % (17 : Int32))), .val (.ref x101_R0), .val (.int ((P2 &&& (7 : Int32)) - (2 : Int32))), .val (.int (1 : Int32)), .val (.int (1 : Int32))] [(.int (1 : Int32))])) _
      refine XS.ifNo X105.here hx rfl (hb hby at_73) rfl ((if0 _ _).trans (feq (show ¬ ((1 : Int32) = (0 : Int32)) from (by decide))).1) ?_
      show Steps p.tables e below (T105.setTop (mkF m 76 #[.val (.int P0), .val (.int P1), .val (.int P2), .val (.int ((P0 &&& (2147483647 : Int32)) % (17 : Int32))), .val (.ref x101_R0), .val (.int ((P2 &&& (7 : Int32)) - (2 : Int32))), .val (.int (1 : Int32)), .val (.int (1 : Int32))] [])) _
      refine XS.iconst X105.here hx rfl (hb hby at_76) ?_
      show Steps p.tables e below (T105.setTop (mkF m 77 #[.val (.int P0), .val (.int P1), .val (.int P2), .val (.int ((P0 &&& (2147483647 : Int32)) % (17 : Int32))), .val (.ref x101_R0), .val (.int ((P2 &&& (7 : Int32)) - (2 : Int32))), .val (.int (1 : Int32)), .val (.int (1 : Int32))] [(.int (1 : Int32))])) _
      refine XS.goto X105.here hx rfl (pc0 := 77) (pc' := 81) rfl (hb hby at_77) (by decide) (by decide) ?_
      exact kt)
  obtain ⟨fs, hr, hrun, hended, hW, hsame⟩ := X105.leave (v := some (.int (1 : Int32))) (fun h => by rw [Bd.returns] at h; cases h)
  refine ⟨_, _, pre106 _ ?_, hrun, hended, _, _, rfl, ?_, ⟨_, rfl⟩, hW, hsame.mono (by decide) (by decide)⟩
  · show Steps p.tables e below (T105.setTop (mkF m 81 #[.val (.int P0), .val (.int P1), .val (.int P2), .val (.int ((P0 &&& (2147483647 : Int32)) % (17 : Int32))), .val (.ref x101_R0), .val (.int ((P2 &&& (7 : Int32)) - (2 : Int32))), .val (.int (1 : Int32)), .val (.int (1 : Int32))] [(.int (1 : Int32))])) _
    exact retN X105 hx (t := .boolean) Bd.returns (by simp) (hb hby at_81) hr
  · show Q0 Z P0 P1 P2 h0 n0 _ T105.heap _
    rw [K105]
    exact ⟨rfl, N105⟩
set_option maxRecDepth 65536 in
set_option maxHeartbeats 40000000 in
theorem comes_1 {Post : Tables → Env → Array Value → State → Outcome → State → Prop} (hpost : ∀ tb e args s v u, (limb_1_1.after args s (.returned v) u = true ∧ limb_1_2.after args s (.returned v) u = true ∧ True) → FrameEnd s (.returned v) u (Jvm.fieldLocs frame_1_writes args s ++ Jvm.arrayLocs frame_1_arrays args s ++ Jvm.staticLocs frame_1_statics s) 0 0 → Post tb e args s (.returned v) u) :
    ArmFor flags0 classFile x code maxLocals ret World_1 tables_1 room_1 Calls_1 rest_1 Pre_1 Post := by
  intro l hfl _ _ p e ha hc hk s m args below hf hA hF happ hP
  obtain ⟨hcalls, hrest, hpre⟩ := hP
  obtain ⟨-, -, -, hnamed, -, -, -, hat⟩ := (Spec.applies_iff hf).mp happ
  obtain ⟨hg, hn⟩ := and_e (Cond.before_iff.mp (show (Jvm.Cond.and given_1 narrow_1).before args s = true from hpre))
  obtain ⟨gv1, gv2⟩ := and_e hg
  obtain ⟨gv3, gv4⟩ := and_e gv2
  obtain ⟨gv5, gv6⟩ := and_e gv4
  obtain ⟨w0, w1, w2, rfl⟩ : ∃ w0 w1 w2 : Value, args = #[w0, w1, w2] := by
    have hs : args.size = 3 := by simpa [Cond.value, given_1] using gv1
    obtain ⟨L⟩ := args
    match L, hs with
    | [w0, w1, w2], _ => exact ⟨w0, w1, w2, rfl⟩
  have hw := fun d (hd : d ∈ tables_1) => atoms_spec (ws := Jvm.Cond.code x code maxLocals ret :: tables_1) hat d (List.mem_cons_of_mem _ hd)
  have hfit : Fit s := fun {y c} hc i hi => by
    obtain ⟨ha, rfl⟩ := Array.getElem?_eq_some_iff.mp hc
    have q := List.all_eq_true.mp ((Array.all_eq_true_iff_forall_mem.mp hF) _ (Array.getElem_mem ha)) i (List.mem_range.mpr hi)
    simpa [Array.getElem?_eq_getElem hi] using q
  obtain ⟨i0, ei0⟩ := is_v gv3
  obtain rfl : w0 = (.int i0) := Option.some.inj ei0
  obtain ⟨i1, ei1⟩ := is_v gv5
  obtain rfl : w1 = (.int i1) := Option.some.inj ei1
  obtain ⟨i2, ei2⟩ := is_v gv6
  obtain rfl : w2 = (.int i2) := Option.some.inj ei2
  obtain ⟨na0, hn⟩ := and_e hn
  obtain ⟨na1, hn⟩ := and_e hn
  obtain ⟨na2, hn⟩ := and_e hn
  obtain ⟨na3, hn⟩ := and_e hn
  obtain ⟨na4, hn⟩ := and_e hn
  obtain ⟨na5, hn⟩ := and_e hn
  obtain ⟨na6, hn⟩ := and_e hn
  obtain ⟨na7, hn⟩ := and_e hn
  obtain ⟨na8, hn⟩ := and_e hn
  obtain ⟨na9, hn⟩ := and_e hn
  obtain ⟨na10, hn⟩ := and_e hn
  obtain ⟨na11, hn⟩ := and_e hn
  obtain ⟨na12, hn⟩ := and_e hn
  obtain ⟨na13, hn⟩ := and_e hn
  obtain ⟨na14, hn⟩ := and_e hn
  obtain ⟨na15, hn⟩ := and_e hn
  obtain ⟨na16, hn⟩ := and_e hn
  obtain ⟨na17, hn⟩ := and_e hn
  obtain ⟨na18, hn⟩ := and_e hn
  obtain ⟨na19, hn⟩ := and_e hn
  obtain ⟨na20, hn⟩ := and_e hn
  obtain ⟨na21, hn⟩ := and_e hn
  obtain ⟨na22, hn⟩ := and_e hn
  obtain ⟨na23, hn⟩ := and_e hn
  obtain ⟨na24, hn⟩ := and_e hn
  obtain ⟨na25, hn⟩ := and_e hn
  obtain ⟨na26, hn⟩ := and_e hn
  obtain ⟨na27, hn⟩ := and_e hn
  obtain ⟨na28, hn⟩ := and_e hn
  obtain ⟨na29, hn⟩ := and_e hn
  obtain ⟨na30, hn⟩ := and_e hn
  obtain ⟨na31, hn⟩ := and_e hn
  obtain ⟨na32, hn⟩ := and_e hn
  obtain ⟨na33, hn⟩ := and_e hn
  obtain ⟨na34, hn⟩ := and_e hn
  obtain ⟨na35, hn⟩ := and_e hn
  obtain ⟨na36, hn⟩ := and_e hn
  obtain ⟨na37, hn⟩ := and_e hn
  obtain ⟨na38, hn⟩ := and_e hn
  obtain ⟨na39, hn⟩ := and_e hn
  obtain ⟨na40, hn⟩ := and_e hn
  obtain ⟨na41, hn⟩ := and_e hn
  obtain ⟨na42, hn⟩ := and_e hn
  obtain ⟨na43, hn⟩ := and_e hn
  obtain ⟨na44, hn⟩ := and_e hn
  obtain ⟨na45, hn⟩ := and_e hn
  obtain ⟨na46, hn⟩ := and_e hn
  obtain ⟨na47, hn⟩ := and_e hn
  obtain ⟨na48, hn⟩ := and_e hn
  obtain ⟨na49, na50⟩ := and_e hn
  obtain ⟨n, o, h1, h2, h3, _, L, rfl, ⟨rfl, N⟩, hq⟩ := rm0 l s _ hw tables_1 i0 i1 i2  s.heap s.heap.size (Nat.le_refl _) (own_en na0 na1 na2 (hw _ (List.mem_of_getElem? (i := 6) rfl)) (hw _ (List.mem_of_getElem? (i := 7) rfl))) (own_en na3 na4 na5 (hw _ (List.mem_of_getElem? (i := 6) rfl)) (hw _ (List.mem_of_getElem? (i := 21) rfl))) (own_en na30 na31 na32 (hw _ (List.mem_of_getElem? (i := 6) rfl)) (hw _ (List.mem_of_getElem? (i := 39) rfl))) (own_en na18 na19 na20 (hw _ (List.mem_of_getElem? (i := 6) rfl)) (hw _ (List.mem_of_getElem? (i := 31) rfl))) (own_en na33 na34 na35 (hw _ (List.mem_of_getElem? (i := 6) rfl)) (hw _ (List.mem_of_getElem? (i := 41) rfl))) (own_en na36 na37 na38 (hw _ (List.mem_of_getElem? (i := 6) rfl)) (hw _ (List.mem_of_getElem? (i := 43) rfl))) (own_en na42 na43 na44 (hw _ (List.mem_of_getElem? (i := 6) rfl)) (hw _ (List.mem_of_getElem? (i := 47) rfl))) (own_en na27 na28 na29 (hw _ (List.mem_of_getElem? (i := 6) rfl)) (hw _ (List.mem_of_getElem? (i := 37) rfl))) (own_en na9 na10 na11 (hw _ (List.mem_of_getElem? (i := 6) rfl)) (hw _ (List.mem_of_getElem? (i := 25) rfl))) (own_en na45 na46 na47 (hw _ (List.mem_of_getElem? (i := 6) rfl)) (hw _ (List.mem_of_getElem? (i := 49) rfl))) (own_en na21 na22 na23 (hw _ (List.mem_of_getElem? (i := 6) rfl)) (hw _ (List.mem_of_getElem? (i := 33) rfl))) (own_en na6 na7 na8 (hw _ (List.mem_of_getElem? (i := 6) rfl)) (hw _ (List.mem_of_getElem? (i := 23) rfl))) (own_en na12 na13 na14 (hw _ (List.mem_of_getElem? (i := 6) rfl)) (hw _ (List.mem_of_getElem? (i := 27) rfl))) (own_en na15 na16 na17 (hw _ (List.mem_of_getElem? (i := 6) rfl)) (hw _ (List.mem_of_getElem? (i := 29) rfl))) (own_en na39 na40 na41 (hw _ (List.mem_of_getElem? (i := 6) rfl)) (hw _ (List.mem_of_getElem? (i := 45) rfl))) (own_en na48 na49 na50 (hw _ (List.mem_of_getElem? (i := 6) rfl)) (hw _ (List.mem_of_getElem? (i := 51) rfl))) (own_en na24 na25 na26 (hw _ (List.mem_of_getElem? (i := 6) rfl)) (hw _ (List.mem_of_getElem? (i := 35) rfl))) p e ha hc hk s m _ below hf ((Spec.applies_iff_loose hf).mp happ).1 ⟨rfl, State.Warmed39.refl s, rfl⟩ trivial
  refine ⟨n, _, h1, h2, h3, hpost _ _ _ _ _ _ ⟨Cond.after_iff.mpr rfl, Cond.after_iff.mpr (eq_i res_at (Term.int_eval (1)) rfl), trivial⟩ ⟨hq.1, hq.2.1, (hq.2.2.sift fun y hy => Or.inr (N y hy)).mono (by decide) (by decide)⟩⟩
theorem main_1_1 : Claimed_1_1 := comes_1 fun _ _ _ _ _ _ h hF => ⟨h.1, hF⟩
theorem main_1_2 : Claimed_1_2 := comes_1 fun _ _ _ _ _ _ h hF => ⟨h.2.1, hF⟩
end Jvm.Pilot.@@N@@
namespace Jvm.Pilot.@@N@@
open Jvm Jvm.ClassFile Sem Op Lib Jvm.Free Jvm.Stand Jvm.Pilot.@@N@@.Jvm.D
/-! MADE BY PROGRAM (witnessworld.py) out of the Statement's table words and the real class files: 12 classes; the members and pool entries that the words name. The judged class is class 1, her method 3. -/
namespace start1
open Jvm.ClassFile
def u (s : String) : CpInfo := .utf8 (stringToUtf16 s)
/-- a pool by its gaps: so many unusable entries, then the entry; so many at the end -/
def gap : Nat → List CpInfo → List CpInfo
  | 0, r => r
  | n + 1, r => .unusable :: gap n r
def poolList (es : List (Nat × CpInfo)) (last : Nat) : List CpInfo := es.foldr (fun e r => gap e.1 (e.2 :: r)) (gap last [])
def pool (es : List (Nat × CpInfo)) (last : Nat) : Array CpInfo := ⟨poolList es last⟩
def fileOf (pool : Array CpInfo) (this : Nat) (attrs : Array Attribute := #[]) (ms : Array MethodInfo := #[]) (fl : Nat := 33) (sup : Nat := 0) (ifs : Array Nat := #[]) (fds : Array FieldInfo := #[]) : ClassFile where
  minorVersion := 0
  majorVersion := 65
  constantPool := pool
  accessFlags := fl
  thisClass := this
  superClass := sup
  interfaces := ifs
  fields := fds
  methods := ms
  attributes := attrs
def plain (name : String) (sup : Option ClassId) : Class where
  name := name
  kind := .ordinary
  loader := none
  accessFlags := 33
  super := sup
  interfaces := #[]
  cf := none
  fields := #[]
  methods := #[]
  instanceTypes := #[]
  staticTypes := #[]
  resolved := #[]
  callSites := []
  init := .initialized
  statics := none
  mirror := none

def pool0 : Array CpInfo := pool [(5, u "<init>"), (0, u "()V"), (1, .class_ 10), (1, u "java/lang/Object")] 113

def k0m0 : Method := { name := "<init>", desc := "()V", sig := { parameters := [], returnType := none }, accessFlags := 1, code := none }
/-- java/lang/Object -/
def k0 : Class := { plain "java/lang/Object" none with
  accessFlags := 33
  interfaces := #[]
  cf := some (fileOf pool0 8 #[] #[{ accessFlags := 1, nameIndex := 5, descriptorIndex := 6, attributes := #[] }] 33 0 #[] #[])
  fields := #[]
  methods := #[k0m0]
  instanceTypes := #[]
  staticTypes := #[]
  resolved := Array.replicate 124 none
  statics := none }

def pool1 : Array CpInfo := pool [(2, .class_ 4), (1, u "java/lang/Object"), (0, u "<init>"), (0, u "()V"), (0, .fieldref 8 9), (0, .class_ 10), (0, .nameAndType 11 12), (0, u "com/example/postil/postil/query/Builtin"), (0, u "STR"), (0, u "Lcom/example/postil/postil/query/Builtin;"), (0, .fieldref 8 14), (0, .nameAndType 15 12), (0, u "LANG"), (0, .fieldref 8 17), (0, .nameAndType 18 12), (0, u "LANG_MATCHES"), (0, .fieldref 8 20), (0, .nameAndType 21 12), (0, u "DATATYPE"), (0, .fieldref 8 23), (0, .nameAndType 24 12), (0, u "SAME_TERM"), (0, .fieldref 8 26), (0, .nameAndType 27 12), (0, u "IS_IRI"), (0, .fieldref 8 29), (0, .nameAndType 30 12), (0, u "IS_URI"), (0, .fieldref 8 32), (0, .nameAndType 33 12), (0, u "IS_BLANK"), (0, .fieldref 8 35), (0, .nameAndType 36 12), (0, u "IS_LITERAL"), (0, .fieldref 8 38), (0, .nameAndType 39 12), (0, u "REGEX"), (0, .fieldref 8 41), (0, .nameAndType 42 12), (0, u "TO_STRING"), (0, .fieldref 8 44), (0, .nameAndType 45 12), (0, u "TO_BOOLEAN"), (0, .fieldref 8 47), (0, .nameAndType 48 12), (0, u "TO_INTEGER"), (0, .fieldref 8 50), (0, .nameAndType 51 12), (0, u "TO_DECIMAL"), (0, .fieldref 8 53), (0, .nameAndType 54 12), (0, u "TO_FLOAT"), (0, .fieldref 8 56), (0, .nameAndType 57 12), (0, u "TO_DOUBLE"), (0, .fieldref 8 59), (0, .nameAndType 60 12), (0, u "TO_DATE_TIME"), (0, .integer 2147483647), (0, .methodref 63 64), (0, .class_ 65), (0, .nameAndType 66 67), (0, u "com/example/postil/postil/query/BuiltinTakesPinLaw"), (0, u "pick"), (0, u "(I)Lcom/example/postil/postil/query/Builtin;"), (0, .methodref 8 69), (0, .nameAndType 70 71), (0, u "takes"), (0, u "(I)Z"), (0, .methodref 63 73), (0, .nameAndType 74 75), (0, u "expected"), (0, u "(II)Z"), (3, u "law"), (0, u "(III)Z")] 2

def k1m0 : Method := { name := "<init>", desc := "()V", sig := { parameters := [], returnType := none }, accessFlags := 2, code := none }
def k1c1 : Code := { maxStack := 2, maxLocals := 1, code := method_2_code, exceptionTable := #[], attributes := #[] }
def k1m1 : Method := { name := "pick", desc := "(I)Lcom/example/postil/postil/query/Builtin;", sig := { parameters := [.int], returnType := some (.object "com/example/postil/postil/query/Builtin") }, accessFlags := 10, code := some k1c1 }
def k1c2 : Code := { maxStack := 2, maxLocals := 2, code := method_3_code, exceptionTable := #[], attributes := #[] }
def k1m2 : Method := { name := "expected", desc := "(II)Z", sig := { parameters := [.int, .int], returnType := some .boolean }, accessFlags := 10, code := some k1c2 }
def k1c3 : Code := { maxStack := 3, maxLocals := 8, code := code, exceptionTable := #[], attributes := #[] }
def k1m3 : Method := { name := "law", desc := "(III)Z", sig := { parameters := [.int, .int, .int], returnType := some .boolean }, accessFlags := 9, code := some k1c3 }
/-- com/example/postil/postil/query/BuiltinTakesPinLaw -/
def k1 : Class := { plain "com/example/postil/postil/query/BuiltinTakesPinLaw" (some 0) with
  accessFlags := 49
  interfaces := #[]
  cf := some (fileOf pool1 63 #[] #[{ accessFlags := 2, nameIndex := 5, descriptorIndex := 6, attributes := #[] }, { accessFlags := 10, nameIndex := 66, descriptorIndex := 67, attributes := #[] }, { accessFlags := 10, nameIndex := 74, descriptorIndex := 75, attributes := #[] }, { accessFlags := 9, nameIndex := 79, descriptorIndex := 80, attributes := #[] }] 49 2 #[] #[])
  fields := #[]
  methods := #[k1m0, k1m1, k1m2, k1m3]
  instanceTypes := #[]
  staticTypes := #[]
  resolved := Array.replicate 83 none
  statics := none }

def pool2 : Array CpInfo := pool [(1, .class_ 2), (0, u "java/lang/constant/Constable"), (0, .class_ 4), (0, u "java/lang/Object")] 6

/-- java/lang/constant/Constable -/
def k2 : Class := { plain "java/lang/constant/Constable" (some 0) with
  accessFlags := 1537
  interfaces := #[]
  cf := some (fileOf pool2 1 #[] #[] 1537 3 #[] #[])
  fields := #[]
  methods := #[]
  instanceTypes := #[]
  staticTypes := #[]
  resolved := Array.replicate 11 none
  statics := none }

def pool3 : Array CpInfo := pool [(1, .class_ 2), (0, u "java/lang/Comparable"), (0, .class_ 4), (0, u "java/lang/Object")] 7

/-- java/lang/Comparable -/
def k3 : Class := { plain "java/lang/Comparable" (some 0) with
  accessFlags := 1537
  interfaces := #[]
  cf := some (fileOf pool3 1 #[] #[] 1537 3 #[] #[])
  fields := #[]
  methods := #[]
  instanceTypes := #[]
  staticTypes := #[]
  resolved := Array.replicate 12 none
  statics := none }

def pool4 : Array CpInfo := pool [(1, .class_ 2), (0, u "java/io/Serializable"), (0, .class_ 4), (0, u "java/lang/Object")] 2

/-- java/io/Serializable -/
def k4 : Class := { plain "java/io/Serializable" (some 0) with
  accessFlags := 1537
  interfaces := #[]
  cf := some (fileOf pool4 1 #[] #[] 1537 3 #[] #[])
  fields := #[]
  methods := #[]
  instanceTypes := #[]
  staticTypes := #[]
  resolved := Array.replicate 7 none
  statics := none }

def pool5 : Array CpInfo := pool [(2, .class_ 4), (1, u "java/lang/Enum"), (0, u "name"), (0, u "Ljava/lang/String;"), (2, u "ordinal"), (0, u "I"), (1, .class_ 14), (1, u "java/lang/Object"), (4, u "hash"), (86, .class_ 108), (1, u "java/lang/Enum$EnumDesc"), (2, .class_ 112), (0, u "java/lang/constant/Constable"), (0, .class_ 114), (0, u "java/lang/Comparable"), (0, .class_ 116), (0, u "java/io/Serializable")] 87

/-- java/lang/Enum -/
def k5 : Class := { plain "java/lang/Enum" (some 0) with
  accessFlags := 1057
  interfaces := #[2, 3, 4]
  cf := some (fileOf pool5 2 #[.nestMembers #[106]] #[] 1057 12 #[111, 113, 115] #[{ accessFlags := 18, nameIndex := 5, descriptorIndex := 6, attributes := #[] }, { accessFlags := 18, nameIndex := 9, descriptorIndex := 10, attributes := #[] }, { accessFlags := 2, nameIndex := 19, descriptorIndex := 10, attributes := #[] }])
  fields := #[{ name := "name", type := (.object "java/lang/String"), accessFlags := 18, slot := 0, constantValue := 0 }, { name := "ordinal", type := .int, accessFlags := 18, slot := 1, constantValue := 0 }, { name := "hash", type := .int, accessFlags := 2, slot := 2, constantValue := 0 }]
  methods := #[]
  instanceTypes := #[(.object "java/lang/String"), .int, .int]
  staticTypes := #[]
  resolved := Array.replicate 204 none
  statics := none }

def pool6 : Array CpInfo := pool [(1, .class_ 2), (0, u "com/example/postil/postil/query/Builtin"), (2, u "STR"), (0, u "Lcom/example/postil/postil/query/Builtin;"), (2, u "LANG"), (2, u "LANG_MATCHES"), (2, u "DATATYPE"), (2, u "SAME_TERM"), (2, u "IS_IRI"), (2, u "IS_URI"), (2, u "IS_BLANK"), (2, u "IS_LITERAL"), (2, u "REGEX"), (2, u "TO_STRING"), (2, u "TO_BOOLEAN"), (2, u "TO_INTEGER"), (2, u "TO_DECIMAL"), (2, u "TO_FLOAT"), (2, u "TO_DOUBLE"), (2, u "TO_DATE_TIME"), (2, u "$VALUES"), (0, u "[Lcom/example/postil/postil/query/Builtin;"), (6, .class_ 67), (1, u "java/lang/Enum"), (8, u "keyword"), (0, u "Ljava/lang/String;"), (2, u "iri"), (0, u "Lcom/example/postil/postil/rdf/Iri;"), (0, .fieldref 1 83), (0, .nameAndType 84 85), (0, u "leastArity"), (0, u "I"), (0, .fieldref 1 87), (0, .nameAndType 88 85), (0, u "mostArity"), (2, u "body"), (0, u "Ljava/util/function/Function;"), (240, u "takes"), (0, u "(I)Z")] 111

def k6c0 : Code := { maxStack := 2, maxLocals := 2, code := prog_94_method_8_code, exceptionTable := #[], attributes := #[] }
def k6m0 : Method := { name := "takes", desc := "(I)Z", sig := { parameters := [.int], returnType := some .boolean }, accessFlags := 0, code := some k6c0 }
/-- com/example/postil/postil/query/Builtin -/
def k6 : Class := { plain "com/example/postil/postil/query/Builtin" (some 5) with
  accessFlags := 16432
  interfaces := #[]
  cf := some (fileOf pool6 1 #[] #[{ accessFlags := 0, nameIndex := 333, descriptorIndex := 334, attributes := #[] }] 16432 65 #[] #[{ accessFlags := 16409, nameIndex := 5, descriptorIndex := 6, attributes := #[] }, { accessFlags := 16409, nameIndex := 9, descriptorIndex := 6, attributes := #[] }, { accessFlags := 16409, nameIndex := 12, descriptorIndex := 6, attributes := #[] }, { accessFlags := 16409, nameIndex := 15, descriptorIndex := 6, attributes := #[] }, { accessFlags := 16409, nameIndex := 18, descriptorIndex := 6, attributes := #[] }, { accessFlags := 16409, nameIndex := 21, descriptorIndex := 6, attributes := #[] }, { accessFlags := 16409, nameIndex := 24, descriptorIndex := 6, attributes := #[] }, { accessFlags := 16409, nameIndex := 27, descriptorIndex := 6, attributes := #[] }, { accessFlags := 16409, nameIndex := 30, descriptorIndex := 6, attributes := #[] }, { accessFlags := 16409, nameIndex := 33, descriptorIndex := 6, attributes := #[] }, { accessFlags := 16409, nameIndex := 36, descriptorIndex := 6, attributes := #[] }, { accessFlags := 16409, nameIndex := 39, descriptorIndex := 6, attributes := #[] }, { accessFlags := 16409, nameIndex := 42, descriptorIndex := 6, attributes := #[] }, { accessFlags := 16409, nameIndex := 45, descriptorIndex := 6, attributes := #[] }, { accessFlags := 16409, nameIndex := 48, descriptorIndex := 6, attributes := #[] }, { accessFlags := 16409, nameIndex := 51, descriptorIndex := 6, attributes := #[] }, { accessFlags := 16409, nameIndex := 54, descriptorIndex := 6, attributes := #[] }, { accessFlags := 18, nameIndex := 76, descriptorIndex := 77, attributes := #[] }, { accessFlags := 18, nameIndex := 80, descriptorIndex := 81, attributes := #[] }, { accessFlags := 18, nameIndex := 84, descriptorIndex := 85, attributes := #[] }, { accessFlags := 18, nameIndex := 88, descriptorIndex := 85, attributes := #[] }, { accessFlags := 18, nameIndex := 91, descriptorIndex := 92, attributes := #[] }, { accessFlags := 4122, nameIndex := 57, descriptorIndex := 58, attributes := #[] }])
  fields := #[{ name := "STR", type := (.object "com/example/postil/postil/query/Builtin"), accessFlags := 16409, slot := 0, constantValue := 0 }, { name := "LANG", type := (.object "com/example/postil/postil/query/Builtin"), accessFlags := 16409, slot := 1, constantValue := 0 }, { name := "LANG_MATCHES", type := (.object "com/example/postil/postil/query/Builtin"), accessFlags := 16409, slot := 2, constantValue := 0 }, { name := "DATATYPE", type := (.object "com/example/postil/postil/query/Builtin"), accessFlags := 16409, slot := 3, constantValue := 0 }, { name := "SAME_TERM", type := (.object "com/example/postil/postil/query/Builtin"), accessFlags := 16409, slot := 4, constantValue := 0 }, { name := "IS_IRI", type := (.object "com/example/postil/postil/query/Builtin"), accessFlags := 16409, slot := 5, constantValue := 0 }, { name := "IS_URI", type := (.object "com/example/postil/postil/query/Builtin"), accessFlags := 16409, slot := 6, constantValue := 0 }, { name := "IS_BLANK", type := (.object "com/example/postil/postil/query/Builtin"), accessFlags := 16409, slot := 7, constantValue := 0 }, { name := "IS_LITERAL", type := (.object "com/example/postil/postil/query/Builtin"), accessFlags := 16409, slot := 8, constantValue := 0 }, { name := "REGEX", type := (.object "com/example/postil/postil/query/Builtin"), accessFlags := 16409, slot := 9, constantValue := 0 }, { name := "TO_STRING", type := (.object "com/example/postil/postil/query/Builtin"), accessFlags := 16409, slot := 10, constantValue := 0 }, { name := "TO_BOOLEAN", type := (.object "com/example/postil/postil/query/Builtin"), accessFlags := 16409, slot := 11, constantValue := 0 }, { name := "TO_INTEGER", type := (.object "com/example/postil/postil/query/Builtin"), accessFlags := 16409, slot := 12, constantValue := 0 }, { name := "TO_DECIMAL", type := (.object "com/example/postil/postil/query/Builtin"), accessFlags := 16409, slot := 13, constantValue := 0 }, { name := "TO_FLOAT", type := (.object "com/example/postil/postil/query/Builtin"), accessFlags := 16409, slot := 14, constantValue := 0 }, { name := "TO_DOUBLE", type := (.object "com/example/postil/postil/query/Builtin"), accessFlags := 16409, slot := 15, constantValue := 0 }, { name := "TO_DATE_TIME", type := (.object "com/example/postil/postil/query/Builtin"), accessFlags := 16409, slot := 16, constantValue := 0 }, { name := "keyword", type := (.object "java/lang/String"), accessFlags := 18, slot := 3, constantValue := 0 }, { name := "iri", type := (.object "com/example/postil/postil/rdf/Iri"), accessFlags := 18, slot := 4, constantValue := 0 }, { name := "leastArity", type := .int, accessFlags := 18, slot := 5, constantValue := 0 }, { name := "mostArity", type := .int, accessFlags := 18, slot := 6, constantValue := 0 }, { name := "body", type := (.object "java/util/function/Function"), accessFlags := 18, slot := 7, constantValue := 0 }, { name := "$VALUES", type := (.array (.object "com/example/postil/postil/query/Builtin")), accessFlags := 4122, slot := 17, constantValue := 0 }]
  methods := #[k6m0]
  instanceTypes := #[(.object "java/lang/String"), .int, .int, (.object "java/lang/String"), (.object "com/example/postil/postil/rdf/Iri"), .int, .int, (.object "java/util/function/Function")]
  staticTypes := #[(.object "com/example/postil/postil/query/Builtin"), (.object "com/example/postil/postil/query/Builtin"), (.object "com/example/postil/postil/query/Builtin"), (.object "com/example/postil/postil/query/Builtin"), (.object "com/example/postil/postil/query/Builtin"), (.object "com/example/postil/postil/query/Builtin"), (.object "com/example/postil/postil/query/Builtin"), (.object "com/example/postil/postil/query/Builtin"), (.object "com/example/postil/postil/query/Builtin"), (.object "com/example/postil/postil/query/Builtin"), (.object "com/example/postil/postil/query/Builtin"), (.object "com/example/postil/postil/query/Builtin"), (.object "com/example/postil/postil/query/Builtin"), (.object "com/example/postil/postil/query/Builtin"), (.object "com/example/postil/postil/query/Builtin"), (.object "com/example/postil/postil/query/Builtin"), (.object "com/example/postil/postil/query/Builtin"), (.array (.object "com/example/postil/postil/query/Builtin"))]
  resolved := Array.replicate 446 none
  statics := some 0 }

def pool7 : Array CpInfo := pool [(1, u "java/lang/Cloneable"), (0, .class_ 1), (0, u "java/lang/Object"), (0, .class_ 3)] 3

/-- java/lang/Cloneable -/
def k7 : Class := { plain "java/lang/Cloneable" (some 0) with
  accessFlags := 1537
  interfaces := #[]
  cf := some (fileOf pool7 2 #[] #[] 1537 4 #[] #[])
  fields := #[]
  methods := #[]
  instanceTypes := #[]
  staticTypes := #[]
  resolved := Array.replicate 8 none
  statics := none }

/-- the primitive byte -/
def k8 : Class := { plain "byte" none with kind := .primitive 'B', accessFlags := 0x411 }
/-- [B -/
def k9 : Class := { plain "[B" (some 0) with kind := .array 8 .byte, interfaces := #[7, 4], accessFlags := 1041 }

/-- the primitive int -/
def k10 : Class := { plain "int" none with kind := .primitive 'I', accessFlags := 0x411 }
/-- [I -/
def k11 : Class := { plain "[I" (some 0) with kind := .array 10 .int, interfaces := #[7, 4], accessFlags := 1041 }

def heap : Heap := #[{ cls := 6, slots := #[.ref 1, .ref 2, .ref 3, .ref 4, .ref 5, .ref 6, .ref 7, .ref 8, .ref 9, .ref 10, .ref 11, .ref 12, .ref 13, .ref 14, .ref 15, .ref 16, .ref 17, .null], vm := .statics 6 },
  { cls := 6, slots := #[.null, .int 0, .int 0, .null, .null, .int 1, .int 1, .null], vm := .none },
  { cls := 6, slots := #[.null, .int 1, .int 0, .null, .null, .int 1, .int 1, .null], vm := .none },
  { cls := 6, slots := #[.null, .int 2, .int 0, .null, .null, .int 2, .int 2, .null], vm := .none },
  { cls := 6, slots := #[.null, .int 3, .int 0, .null, .null, .int 1, .int 1, .null], vm := .none },
  { cls := 6, slots := #[.null, .int 4, .int 0, .null, .null, .int 2, .int 2, .null], vm := .none },
  { cls := 6, slots := #[.null, .int 5, .int 0, .null, .null, .int 1, .int 1, .null], vm := .none },
  { cls := 6, slots := #[.null, .int 6, .int 0, .null, .null, .int 1, .int 1, .null], vm := .none },
  { cls := 6, slots := #[.null, .int 7, .int 0, .null, .null, .int 1, .int 1, .null], vm := .none },
  { cls := 6, slots := #[.null, .int 8, .int 0, .null, .null, .int 1, .int 1, .null], vm := .none },
  { cls := 6, slots := #[.null, .int 9, .int 0, .null, .null, .int 2, .int 3, .null], vm := .none },
  { cls := 6, slots := #[.null, .int 10, .int 0, .null, .null, .int 1, .int 1, .null], vm := .none },
  { cls := 6, slots := #[.null, .int 11, .int 0, .null, .null, .int 1, .int 1, .null], vm := .none },
  { cls := 6, slots := #[.null, .int 12, .int 0, .null, .null, .int 1, .int 1, .null], vm := .none },
  { cls := 6, slots := #[.null, .int 13, .int 0, .null, .null, .int 1, .int 1, .null], vm := .none },
  { cls := 6, slots := #[.null, .int 14, .int 0, .null, .null, .int 1, .int 1, .null], vm := .none },
  { cls := 6, slots := #[.null, .int 15, .int 0, .null, .null, .int 1, .int 1, .null], vm := .none },
  { cls := 6, slots := #[.null, .int 16, .int 0, .null, .null, .int 1, .int 1, .null], vm := .none }]
def classes : Array Class := #[k0, k1, k2, k3, k4, k5, k6, k7, k8, k9, k10, k11]
def interned : List (Array UInt16 × Addr) := []
def slotsUsed : Nat := 154
def theMethod : MethodId := ⟨1, 3⟩
def args0 : Array Value := #[.int 1, .int 2, .int 3]
def aboutOver (below : List Frame) : State where
  vm := { classes := classes, interned := interned.toArray }
  heap := heap
  slotsUsed := slotsUsed
  threads := #[{ frames := .invoking theMethod args0 :: below }]
def below0 : List Frame := [.native { method := ⟨0, 0⟩, args := #[] }]
def about1 : State := aboutOver below0
def p0 : Program := .bare "" "" ""
def e0 : Env := launch0.env 0 0 0
theorem w_frames : about1.frames = Frame.invoking theMethod args0 :: below0 := rfl
set_option maxRecDepth 65536 in
theorem w_args : argsFit about1.vm theMethod args0 = true := by decide +kernel
set_option maxRecDepth 65536 in
theorem w_heap : heapFits about1 = true := by decide +kernel
set_option maxRecDepth 65536 in
theorem w_runnable : about1.curStatus? = some .runnable := by decide +kernel
set_option maxRecDepth 65536 in
theorem w_alone : about1.alone = true := by decide +kernel
set_option maxRecDepth 65536 in
theorem w_named : about1.methodNamed? x = some theMethod := by decide +kernel
set_option maxRecDepth 65536 in
theorem w_hears : about1.hears theMethod below0 = true := by decide +kernel
set_option maxRecDepth 65536 in
theorem w_ripe : about1.ripe theMethod args0 below0 = true := by decide +kernel
theorem w_running : about1.status = .running := rfl
set_option maxRecDepth 65536 in
theorem w_room : about1.hasRoom e0.platform room_1 = true :=
  launch0.hasRoom_least _ room_1 (by decide +kernel) (by decide +kernel) (by decide +kernel) (by decide +kernel) (by decide +kernel) (by decide +kernel)
theorem allAtoms_all (ts : List Jvm.Cond) (a : Array Jvm.Value) (st : Jvm.State) : (allAtoms ts).before a st = ts.all (fun c => c.before a st) := by
  induction ts with
  | nil => rfl
  | cons c t ih =>
    show (Jvm.Cond.and c (allAtoms t)).before a st = _
    rw [Jvm.Cond.before_and, ih, List.all_cons]
def words1 : List Jvm.Cond := Jvm.Cond.code x code maxLocals ret :: tables_1
/-- a 'code' word, met by the world's own term for the bytes: nothing is compared byte by byte -/
theorem code_word {y : MethodName} {bytes : ByteArray} {mx : Nat} {rt : Option FieldType} {a : Array Value} {s : State} {m : MethodId} {meth : Method} {c : Code} (h1 : s.methodNamed? y = some m) (h2 : s.vm.method? m = some meth) (h3 : meth.code = some c) (h4 : c.code = bytes)
    (h5 : (c.maxLocals == mx && c.exceptionTable.isEmpty && decide (c.maxStack ≤ mostOperands) && decide (meth.sig.returnType = rt) && !meth.locks && decide (parseMethodDescriptor y.desc = some meth.sig)) = true) : (Jvm.Cond.code y bytes mx rt).before a s = true := by
  simp only [Bool.and_eq_true, beq_iff_eq, Bool.not_eq_true', decide_eq_true_eq] at h5
  obtain ⟨⟨⟨⟨⟨g1, g2⟩, g3⟩, g4⟩, g5⟩, g6⟩ := h5
  simp [Cond.before, Cond.holds, Cond.value, h1, h2, h3, h4, g1, g2, g3, g4, g5, g6]
def isCode : Jvm.Cond → Bool
  | .code _ _ _ _ => true
  | _ => false
theorem all_split {L : List Jvm.Cond} {P : Jvm.Cond → Bool} (h1 : L.all (fun c => isCode c || P c) = true) (h2 : ∀ c ∈ L.filter isCode, P c = true) : L.all P = true := by
  refine List.all_eq_true.mpr fun c hc => ?_
  have h := List.all_eq_true.mp h1 c hc
  rcases Bool.eq_false_or_eq_true (isCode c) with hi | hi
  · exact h2 c (List.mem_filter.mpr ⟨hc, hi⟩)
  · simpa [hi] using h
set_option maxRecDepth 65536 in
theorem w_c0 : (Jvm.Cond.code x code maxLocals ret).before args0 about1 = true := code_word (m := ⟨1, 3⟩) (meth := k1m3) (c := k1c3) (by decide +kernel) rfl rfl rfl (by decide +kernel)
set_option maxRecDepth 65536 in
theorem w_c1 : (Jvm.Cond.code ({ cls := "com/example/postil/postil/query/BuiltinTakesPinLaw", name := "pick", desc := "(I)Lcom/example/postil/postil/query/Builtin;" } : Jvm.MethodName) method_2_code (1 : Nat) (Option.some (Jvm.ClassFile.FieldType.object "com/example/postil/postil/query/Builtin"))).before args0 about1 = true := code_word (m := ⟨1, 1⟩) (meth := k1m1) (c := k1c1) (by decide +kernel) rfl rfl rfl (by decide +kernel)
set_option maxRecDepth 65536 in
theorem w_c2 : (Jvm.Cond.code ({ cls := "com/example/postil/postil/query/Builtin", name := "takes", desc := "(I)Z" } : Jvm.MethodName) prog_94_method_8_code (2 : Nat) (Option.some Jvm.ClassFile.FieldType.boolean)).before args0 about1 = true := code_word (m := ⟨6, 0⟩) (meth := k6m0) (c := k6c0) (by decide +kernel) rfl rfl rfl (by decide +kernel)
set_option maxRecDepth 65536 in
theorem w_c3 : (Jvm.Cond.code ({ cls := "com/example/postil/postil/query/BuiltinTakesPinLaw", name := "expected", desc := "(II)Z" } : Jvm.MethodName) method_3_code (2 : Nat) (Option.some Jvm.ClassFile.FieldType.boolean)).before args0 about1 = true := code_word (m := ⟨1, 2⟩) (meth := k1m2) (c := k1c2) (by decide +kernel) rfl rfl rfl (by decide +kernel)
def codes1 : List Jvm.Cond := [Jvm.Cond.code x code maxLocals ret, Jvm.Cond.code ({ cls := "com/example/postil/postil/query/BuiltinTakesPinLaw", name := "pick", desc := "(I)Lcom/example/postil/postil/query/Builtin;" } : Jvm.MethodName) method_2_code (1 : Nat) (Option.some (Jvm.ClassFile.FieldType.object "com/example/postil/postil/query/Builtin")), Jvm.Cond.code ({ cls := "com/example/postil/postil/query/Builtin", name := "takes", desc := "(I)Z" } : Jvm.MethodName) prog_94_method_8_code (2 : Nat) (Option.some Jvm.ClassFile.FieldType.boolean), Jvm.Cond.code ({ cls := "com/example/postil/postil/query/BuiltinTakesPinLaw", name := "expected", desc := "(II)Z" } : Jvm.MethodName) method_3_code (2 : Nat) (Option.some Jvm.ClassFile.FieldType.boolean)]
set_option maxRecDepth 65536 in
theorem codes_eq : words1.filter isCode = codes1 := rfl
theorem w_codes : ∀ c ∈ words1.filter isCode, c.before args0 about1 = true := by
  rw [codes_eq]
  intro c hc
  simp only [codes1, List.mem_cons, List.not_mem_nil, or_false] at hc
  rcases hc with rfl | rfl | rfl | rfl
  · exact w_c0
  · exact w_c1
  · exact w_c2
  · exact w_c3
set_option maxRecDepth 65536 in
theorem w_t1 : (words1.take 24).all (fun c => isCode c || c.before args0 about1) = true := by decide +kernel
set_option maxRecDepth 65536 in
theorem w_t2 : ((words1.drop 24).take 24).all (fun c => isCode c || c.before args0 about1) = true := by decide +kernel
set_option maxRecDepth 65536 in
theorem w_t3 : ((words1.drop 24).drop 24).all (fun c => isCode c || c.before args0 about1) = true := by decide +kernel
theorem w_tables : (allAtoms (Jvm.Cond.code x code maxLocals ret :: tables_1)).before args0 about1 = true := by
  rw [allAtoms_all]
  show words1.all (fun c => c.before args0 about1) = true
  refine all_split ?_ w_codes
  rw [← List.take_append_drop 24 words1, List.all_append, w_t1, ← List.take_append_drop 24 (words1.drop 24), List.all_append, w_t2, w_t3]
  rfl
set_option maxRecDepth 65536 in
theorem w_case : (Jvm.Cond.and given_1 narrow_1).before args0 about1 = true := by decide +kernel
theorem w_applies : (headSpec (Jvm.Cond.code x code maxLocals ret :: tables_1) room_1).applies x e0.platform about1 = true :=
  (Spec.applies_iff w_frames).mpr ⟨w_running, w_runnable, w_alone, w_named, w_hears, w_ripe, w_room, w_tables⟩
theorem atStart : AtStart classFile x code maxLocals ret World_1 tables_1 room_1 Calls_1 rest_1 Pre_1 launch0 p0 e0 about1 theMethod args0 below0 :=
  ⟨lists_1, trivial, launch0.admits_env _ _ _, launch0.least_env, fairChoices_fair.cas, fairChoices_fair.clock, w_frames, w_args, w_heap, w_applies, trivial, trivial, w_case⟩
end start1
theorem witness_1 : WitnessClaimed_1 := ⟨start1.p0, start1.e0, start1.about1, start1.theMethod, start1.args0, start1.below0, start1.atStart⟩
end Jvm.Pilot.@@N@@
