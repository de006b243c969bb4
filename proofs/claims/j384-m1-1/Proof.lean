import JvmDerived
import JvmDerived.Pilot.@@N@@Statement
import JvmDerived.Pilot.@@N@@Code
set_option linter.unusedVariables false
set_option linter.unusedSimpArgs false
namespace Jvm.RoadKit
open Sem ClassFile Op Lib Jvm.Stand Jvm.Free Jvm.LawKit
section New
variable {p : Program} {l : Launch} {e : Env} {R : Room} {s : State} {m : MethodId} {args : Array Value} {below : List Frame} {meth : Method} {c : Code} {T : State} {locs : List Loc} {cells slots : Nat}
theorem retI (X : Stand p l e R s m args below meth c T locs cells slots) (hx : p.tables.exec = Jvm.exec) {pc : Nat} {Ls : Array Slot} {z : Int32} {rest : List Value} (hret : meth.sig.returnType = some .int) (hd : decode c.code pc = .ok (.ireturn, 1)) {fs : List Frame}
    (hl : ∀ (f : JFrame) (acts : List Action), f.method = m → f.locked = none → f.entered = [] → (doReturn e (T.setTop f) acts (some (.int z))).1 = T.setFrames fs) : Steps p.tables e below (T.setTop (mkF m pc Ls (.int z :: rest))) (T.setFrames fs) := by
  have hm' : T.vm.method? m = some meth := X.method'
  have hn : narrow .int (.int z) = .int z := rfl
  show Steps p.tables e below (T.setTop { method := m, pc := pc, locals := Ls, stack := _ :: rest, locked := none }) _
  jvm_step X.here [X.here.top, hx, hd, hm', hret, hn]
  first | (intro acts; rw [hl _ acts rfl rfl rfl]) | rw [hl _ _ rfl rfl rfl]
  exact Steps.refl _
end New
end Jvm.RoadKit
namespace Jvm.Pilot.@@N@@
open Jvm Jvm.ClassFile Sem Op Lib Jvm.Free Jvm.Stand Jvm.LawKit Jvm.RoadKit Bundle Jvm.Pilot.@@N@@.Jvm.D
theorem d1_0 : decode prog_23_method_9_code 0 = .ok (.iload_n 0, 1) := by decide +kernel
theorem d1_1 : decode prog_23_method_9_code 1 = .ok (.bipush 97, 2) := by decide +kernel
theorem d1_3 : decode prog_23_method_9_code 3 = .ok (.if_icmp .lt 9, 3) := by decide +kernel
theorem d1_6 : decode prog_23_method_9_code 6 = .ok (.iload_n 0, 1) := by decide +kernel
theorem d1_7 : decode prog_23_method_9_code 7 = .ok (.bipush 122, 2) := by decide +kernel
theorem d1_9 : decode prog_23_method_9_code 9 = .ok (.if_icmp .le 51, 3) := by decide +kernel
theorem d1_12 : decode prog_23_method_9_code 12 = .ok (.iload_n 0, 1) := by decide +kernel
theorem d1_13 : decode prog_23_method_9_code 13 = .ok (.bipush 65, 2) := by decide +kernel
theorem d1_15 : decode prog_23_method_9_code 15 = .ok (.if_icmp .lt 9, 3) := by decide +kernel
theorem d1_18 : decode prog_23_method_9_code 18 = .ok (.iload_n 0, 1) := by decide +kernel
theorem d1_19 : decode prog_23_method_9_code 19 = .ok (.bipush 90, 2) := by decide +kernel
theorem d1_21 : decode prog_23_method_9_code 21 = .ok (.if_icmp .le 39, 3) := by decide +kernel
theorem d1_24 : decode prog_23_method_9_code 24 = .ok (.iload_n 0, 1) := by decide +kernel
theorem d1_25 : decode prog_23_method_9_code 25 = .ok (.bipush 48, 2) := by decide +kernel
theorem d1_27 : decode prog_23_method_9_code 27 = .ok (.if_icmp .lt 9, 3) := by decide +kernel
theorem d1_30 : decode prog_23_method_9_code 30 = .ok (.iload_n 0, 1) := by decide +kernel
theorem d1_31 : decode prog_23_method_9_code 31 = .ok (.bipush 57, 2) := by decide +kernel
theorem d1_33 : decode prog_23_method_9_code 33 = .ok (.if_icmp .le 27, 3) := by decide +kernel
theorem d1_36 : decode prog_23_method_9_code 36 = .ok (.iload_n 0, 1) := by decide +kernel
theorem d1_37 : decode prog_23_method_9_code 37 = .ok (.bipush 95, 2) := by decide +kernel
theorem d1_39 : decode prog_23_method_9_code 39 = .ok (.if_icmp .eq 21, 3) := by decide +kernel
theorem d1_42 : decode prog_23_method_9_code 42 = .ok (.iload_n 0, 1) := by decide +kernel
theorem d1_43 : decode prog_23_method_9_code 43 = .ok (.bipush 46, 2) := by decide +kernel
theorem d1_45 : decode prog_23_method_9_code 45 = .ok (.if_icmp .eq 15, 3) := by decide +kernel
theorem d1_48 : decode prog_23_method_9_code 48 = .ok (.iload_n 0, 1) := by decide +kernel
theorem d1_49 : decode prog_23_method_9_code 49 = .ok (.bipush 58, 2) := by decide +kernel
theorem d1_51 : decode prog_23_method_9_code 51 = .ok (.if_icmp .eq 9, 3) := by decide +kernel
theorem d1_54 : decode prog_23_method_9_code 54 = .ok (.iload_n 0, 1) := by decide +kernel
theorem d1_55 : decode prog_23_method_9_code 55 = .ok (.bipush 45, 2) := by decide +kernel
theorem d1_57 : decode prog_23_method_9_code 57 = .ok (.if_icmp .ne 7, 3) := by decide +kernel
theorem d1_60 : decode prog_23_method_9_code 60 = .ok (.iconst 1, 1) := by decide +kernel
theorem d1_61 : decode prog_23_method_9_code 61 = .ok (.goto 4, 3) := by decide +kernel
theorem d1_64 : decode prog_23_method_9_code 64 = .ok (.iconst 0, 1) := by decide +kernel
theorem d1_65 : decode prog_23_method_9_code 65 = .ok (.ireturn, 1) := by decide +kernel
theorem pn_1 : plainName "com/example/kept_reads/keptreads/history/Operation" = true := by first | (simp [plainName, overriddenIn]; done) | decide +kernel
theorem ef_1 (m : MethodId) (P0 : Int32) : entryFrame m #[(.int P0)] 1 = mkF m 0 #[.val (.int P0)] [] := by first | (simp [entryFrame, mkF, argsToLocals, Value.category]; done) | rfl
def tf1_64 (P0 : Int32) : Int32 := (0 : Int32)
set_option maxRecDepth 65536 in
set_option maxHeartbeats 40000000 in
theorem tl1_64 {p : Program} {l : Launch} {e : Env} {s : State} {m : MethodId} {args : Array Value} {below : List Frame} {meth : Method} {c : Code} {T0 : State} {locs : List Loc} {Z : State} {a0 : Array Value} {h0 : Heap} {n0 : Nat} (P0 : Int32)
    (X0 : Stand p l e ({ frames := 0, cells := 0, slots := 0, locals := 0 } : Room) s m args below meth c T0 locs 0 0) (hx : p.tables.exec = Jvm.exec) (hZ : Z.Warmed39 s.vm) (hw : ∀ d ∈ tables_1, d.before a0 Z = true) (hby : c.code = prog_23_method_9_code) (hml : c.maxLocals = 1) (hown : s.vm.findClass "com/example/kept_reads/keptreads/history/Operation" = some m.cls) (e0 : T0.heap = h0) (N0 : Fr n0 locs) :
    ∃ (T' : State) (pc' : Nat) (L' : Array Slot) (locs' : List Loc), Stand p l e ({ frames := 0, cells := 0, slots := 0, locals := 0 } : Room) s m args below meth c T' locs' 0 0 ∧ Fr n0 locs' ∧ T'.heap = h0 ∧ decode c.code pc' = .ok (.ireturn, 1) ∧ ∀ t, Steps p.tables e below (T'.setTop (mkF m pc' L' [.int (tf1_64 P0)])) t → Steps p.tables e below (T0.setTop (mkF m 64 #[.val (.int P0)] [])) t := by
  have pre0 : ∀ t, Steps p.tables e below (T0.setTop (mkF m 64 #[.val (.int P0)] [])) t → Steps p.tables e below (T0.setTop (mkF m 64 #[.val (.int P0)] [])) t := fun t k => k
  have pre1 : ∀ t, Steps p.tables e below (T0.setTop (mkF m 65 #[.val (.int P0)] [(.int (0 : Int32))])) t → Steps p.tables e below (T0.setTop (mkF m 64 #[.val (.int P0)] [])) t := fun t kt => pre0 t (by
      show Steps p.tables e below (T0.setTop (mkF m 64 #[.val (.int P0)] [])) _
      refine XS.iconst X0.here hx rfl (hb hby d1_64) ?_
      exact kt)
  have hv : tf1_64 P0 = (0 : Int32) := rfl
  rw [hv]
  exact ⟨T0, 65, _, _, X0, N0, e0, (hb hby d1_65), pre1⟩
theorem tb1_64 (P0 : Int32) : tf1_64 P0 = 0 ∨ tf1_64 P0 = 1 := by
  unfold tf1_64
  (repeat' split) <;> first | exact Or.inl rfl | exact Or.inr rfl
def tf1_60 (P0 : Int32) : Int32 := (1 : Int32)
set_option maxRecDepth 65536 in
set_option maxHeartbeats 40000000 in
theorem tl1_60 {p : Program} {l : Launch} {e : Env} {s : State} {m : MethodId} {args : Array Value} {below : List Frame} {meth : Method} {c : Code} {T0 : State} {locs : List Loc} {Z : State} {a0 : Array Value} {h0 : Heap} {n0 : Nat} (P0 : Int32)
    (X0 : Stand p l e ({ frames := 0, cells := 0, slots := 0, locals := 0 } : Room) s m args below meth c T0 locs 0 0) (hx : p.tables.exec = Jvm.exec) (hZ : Z.Warmed39 s.vm) (hw : ∀ d ∈ tables_1, d.before a0 Z = true) (hby : c.code = prog_23_method_9_code) (hml : c.maxLocals = 1) (hown : s.vm.findClass "com/example/kept_reads/keptreads/history/Operation" = some m.cls) (e0 : T0.heap = h0) (N0 : Fr n0 locs) :
    ∃ (T' : State) (pc' : Nat) (L' : Array Slot) (locs' : List Loc), Stand p l e ({ frames := 0, cells := 0, slots := 0, locals := 0 } : Room) s m args below meth c T' locs' 0 0 ∧ Fr n0 locs' ∧ T'.heap = h0 ∧ decode c.code pc' = .ok (.ireturn, 1) ∧ ∀ t, Steps p.tables e below (T'.setTop (mkF m pc' L' [.int (tf1_60 P0)])) t → Steps p.tables e below (T0.setTop (mkF m 60 #[.val (.int P0)] [])) t := by
  have pre0 : ∀ t, Steps p.tables e below (T0.setTop (mkF m 60 #[.val (.int P0)] [])) t → Steps p.tables e below (T0.setTop (mkF m 60 #[.val (.int P0)] [])) t := fun t k => k
  have pre1001 : ∀ t, Steps p.tables e below (T0.setTop (mkF m 65 #[.val (.int P0)] [(.int (1 : Int32))])) t → Steps p.tables e below (T0.setTop (mkF m 60 #[.val (.int P0)] [])) t := fun t kt => pre0 t (by
      show Steps p.tables e below (T0.setTop (mkF m 60 #[.val (.int P0)] [])) _
      refine XS.iconst X0.here hx rfl (hb hby d1_60) ?_
      show Steps p.tables e below (T0.setTop (mkF m 61 #[.val (.int P0)] [(.int (1 : Int32))])) _
      refine XS.goto X0.here hx rfl (pc0 := 61) (pc' := 65) rfl (hb hby d1_61) (by decide) (by decide) ?_
      exact kt)
  have hv : tf1_60 P0 = (1 : Int32) := rfl
  rw [hv]
  exact ⟨T0, 65, _, _, X0, N0, e0, (hb hby d1_65), pre1001⟩
theorem tb1_60 (P0 : Int32) : tf1_60 P0 = 0 ∨ tf1_60 P0 = 1 := by
  unfold tf1_60
  (repeat' split) <;> first | exact Or.inl rfl | exact Or.inr rfl | exact tb1_64 P0
def tf1_36 (P0 : Int32) : Int32 := (if P0 = (95 : Int32) then tf1_60 P0 else (if P0 = (46 : Int32) then tf1_60 P0 else (if P0 = (58 : Int32) then tf1_60 P0 else (if P0 = (45 : Int32) then tf1_60 P0 else tf1_64 P0))))
set_option maxRecDepth 65536 in
set_option maxHeartbeats 40000000 in
theorem tl1_36 {p : Program} {l : Launch} {e : Env} {s : State} {m : MethodId} {args : Array Value} {below : List Frame} {meth : Method} {c : Code} {T0 : State} {locs : List Loc} {Z : State} {a0 : Array Value} {h0 : Heap} {n0 : Nat} (P0 : Int32)
    (X0 : Stand p l e ({ frames := 0, cells := 0, slots := 0, locals := 0 } : Room) s m args below meth c T0 locs 0 0) (hx : p.tables.exec = Jvm.exec) (hZ : Z.Warmed39 s.vm) (hw : ∀ d ∈ tables_1, d.before a0 Z = true) (hby : c.code = prog_23_method_9_code) (hml : c.maxLocals = 1) (hown : s.vm.findClass "com/example/kept_reads/keptreads/history/Operation" = some m.cls) (e0 : T0.heap = h0) (N0 : Fr n0 locs) :
    ∃ (T' : State) (pc' : Nat) (L' : Array Slot) (locs' : List Loc), Stand p l e ({ frames := 0, cells := 0, slots := 0, locals := 0 } : Room) s m args below meth c T' locs' 0 0 ∧ Fr n0 locs' ∧ T'.heap = h0 ∧ decode c.code pc' = .ok (.ireturn, 1) ∧ ∀ t, Steps p.tables e below (T'.setTop (mkF m pc' L' [.int (tf1_36 P0)])) t → Steps p.tables e below (T0.setTop (mkF m 36 #[.val (.int P0)] [])) t := by
  have pre0 : ∀ t, Steps p.tables e below (T0.setTop (mkF m 36 #[.val (.int P0)] [])) t → Steps p.tables e below (T0.setTop (mkF m 36 #[.val (.int P0)] [])) t := fun t k => k
  have pre2001 : ∀ t, Steps p.tables e below (T0.setTop (mkF m 39 #[.val (.int P0)] [(.int (95 : Int32)), (.int P0)])) t → Steps p.tables e below (T0.setTop (mkF m 36 #[.val (.int P0)] [])) t := fun t kt => pre0 t (by
      show Steps p.tables e below (T0.setTop (mkF m 36 #[.val (.int P0)] [])) _
      refine XS.iloadN X0.here hx rfl (hb hby d1_36) rfl ?_
      show Steps p.tables e below (T0.setTop (mkF m 37 #[.val (.int P0)] [(.int P0)])) _
      refine XS.bipush X0.here hx rfl (hb hby d1_37) ?_
      exact kt)
  by_cases hc39 : P0 = (95 : Int32)
  · have pre2002 : ∀ t, Steps p.tables e below (T0.setTop (mkF m 60 #[.val (.int P0)] [])) t → Steps p.tables e below (T0.setTop (mkF m 36 #[.val (.int P0)] [])) t := fun t kt => pre2001 t (by
        show Steps p.tables e below (T0.setTop (mkF m 39 #[.val (.int P0)] [(.int (95 : Int32)), (.int P0)])) _
        refine XS.icmpYes X0.here hx rfl (pc0 := 39) (pc' := 60) rfl (hb hby d1_39) rfl (teq hc39).1 (by decide) (by decide) ?_
        exact kt)
    obtain ⟨T2003, pc2003, L2003, lc2003, X2003, N2003, e2003, dc2003, st2003⟩ := tl1_60 P0 (a0 := a0) (Z := Z) X0 hx hZ hw hby hml hown e0 N0
    have hv : tf1_36 P0 = tf1_60 P0 := by unfold tf1_36; rw [if_pos hc39]
    rw [hv]
    exact ⟨T2003, pc2003, L2003, lc2003, X2003, N2003, e2003, dc2003, fun t kt => pre2002 t (st2003 t kt)⟩
  · have pre2004 : ∀ t, Steps p.tables e below (T0.setTop (mkF m 45 #[.val (.int P0)] [(.int (46 : Int32)), (.int P0)])) t → Steps p.tables e below (T0.setTop (mkF m 36 #[.val (.int P0)] [])) t := fun t kt => pre2001 t (by
        show Steps p.tables e below (T0.setTop (mkF m 39 #[.val (.int P0)] [(.int (95 : Int32)), (.int P0)])) _
        refine XS.icmpNo X0.here hx rfl (hb hby d1_39) rfl (feq hc39).1 ?_
        show Steps p.tables e below (T0.setTop (mkF m 42 #[.val (.int P0)] [])) _
        refine XS.iloadN X0.here hx rfl (hb hby d1_42) rfl ?_
        show Steps p.tables e below (T0.setTop (mkF m 43 #[.val (.int P0)] [(.int P0)])) _
        refine XS.bipush X0.here hx rfl (hb hby d1_43) ?_
        exact kt)
    by_cases hc45 : P0 = (46 : Int32)
    · have pre2005 : ∀ t, Steps p.tables e below (T0.setTop (mkF m 60 #[.val (.int P0)] [])) t → Steps p.tables e below (T0.setTop (mkF m 36 #[.val (.int P0)] [])) t := fun t kt => pre2004 t (by
          show Steps p.tables e below (T0.setTop (mkF m 45 #[.val (.int P0)] [(.int (46 : Int32)), (.int P0)])) _
          refine XS.icmpYes X0.here hx rfl (pc0 := 45) (pc' := 60) rfl (hb hby d1_45) rfl (teq hc45).1 (by decide) (by decide) ?_
          exact kt)
      obtain ⟨T2006, pc2006, L2006, lc2006, X2006, N2006, e2006, dc2006, st2006⟩ := tl1_60 P0 (a0 := a0) (Z := Z) X0 hx hZ hw hby hml hown e0 N0
      have hv : tf1_36 P0 = tf1_60 P0 := by unfold tf1_36; rw [if_neg hc39, if_pos hc45]
      rw [hv]
      exact ⟨T2006, pc2006, L2006, lc2006, X2006, N2006, e2006, dc2006, fun t kt => pre2005 t (st2006 t kt)⟩
    · have pre2007 : ∀ t, Steps p.tables e below (T0.setTop (mkF m 51 #[.val (.int P0)] [(.int (58 : Int32)), (.int P0)])) t → Steps p.tables e below (T0.setTop (mkF m 36 #[.val (.int P0)] [])) t := fun t kt => pre2004 t (by
          show Steps p.tables e below (T0.setTop (mkF m 45 #[.val (.int P0)] [(.int (46 : Int32)), (.int P0)])) _
          refine XS.icmpNo X0.here hx rfl (hb hby d1_45) rfl (feq hc45).1 ?_
          show Steps p.tables e below (T0.setTop (mkF m 48 #[.val (.int P0)] [])) _
          refine XS.iloadN X0.here hx rfl (hb hby d1_48) rfl ?_
          show Steps p.tables e below (T0.setTop (mkF m 49 #[.val (.int P0)] [(.int P0)])) _
          refine XS.bipush X0.here hx rfl (hb hby d1_49) ?_
          exact kt)
      by_cases hc51 : P0 = (58 : Int32)
      · have pre2008 : ∀ t, Steps p.tables e below (T0.setTop (mkF m 60 #[.val (.int P0)] [])) t → Steps p.tables e below (T0.setTop (mkF m 36 #[.val (.int P0)] [])) t := fun t kt => pre2007 t (by
            show Steps p.tables e below (T0.setTop (mkF m 51 #[.val (.int P0)] [(.int (58 : Int32)), (.int P0)])) _
            refine XS.icmpYes X0.here hx rfl (pc0 := 51) (pc' := 60) rfl (hb hby d1_51) rfl (teq hc51).1 (by decide) (by decide) ?_
            exact kt)
        obtain ⟨T2009, pc2009, L2009, lc2009, X2009, N2009, e2009, dc2009, st2009⟩ := tl1_60 P0 (a0 := a0) (Z := Z) X0 hx hZ hw hby hml hown e0 N0
        have hv : tf1_36 P0 = tf1_60 P0 := by unfold tf1_36; rw [if_neg hc39, if_neg hc45, if_pos hc51]
        rw [hv]
        exact ⟨T2009, pc2009, L2009, lc2009, X2009, N2009, e2009, dc2009, fun t kt => pre2008 t (st2009 t kt)⟩
      · have pre2010 : ∀ t, Steps p.tables e below (T0.setTop (mkF m 57 #[.val (.int P0)] [(.int (45 : Int32)), (.int P0)])) t → Steps p.tables e below (T0.setTop (mkF m 36 #[.val (.int P0)] [])) t := fun t kt => pre2007 t (by
            show Steps p.tables e below (T0.setTop (mkF m 51 #[.val (.int P0)] [(.int (58 : Int32)), (.int P0)])) _
            refine XS.icmpNo X0.here hx rfl (hb hby d1_51) rfl (feq hc51).1 ?_
            show Steps p.tables e below (T0.setTop (mkF m 54 #[.val (.int P0)] [])) _
            refine XS.iloadN X0.here hx rfl (hb hby d1_54) rfl ?_
            show Steps p.tables e below (T0.setTop (mkF m 55 #[.val (.int P0)] [(.int P0)])) _
            refine XS.bipush X0.here hx rfl (hb hby d1_55) ?_
            exact kt)
        by_cases hc57 : P0 = (45 : Int32)
        · have pre2011 : ∀ t, Steps p.tables e below (T0.setTop (mkF m 60 #[.val (.int P0)] [])) t → Steps p.tables e below (T0.setTop (mkF m 36 #[.val (.int P0)] [])) t := fun t kt => pre2010 t (by
              show Steps p.tables e below (T0.setTop (mkF m 57 #[.val (.int P0)] [(.int (45 : Int32)), (.int P0)])) _
              refine XS.icmpNo X0.here hx rfl (hb hby d1_57) rfl (teq hc57).2 ?_
              exact kt)
          obtain ⟨T2012, pc2012, L2012, lc2012, X2012, N2012, e2012, dc2012, st2012⟩ := tl1_60 P0 (a0 := a0) (Z := Z) X0 hx hZ hw hby hml hown e0 N0
          have hv : tf1_36 P0 = tf1_60 P0 := by unfold tf1_36; rw [if_neg hc39, if_neg hc45, if_neg hc51, if_pos hc57]
          rw [hv]
          exact ⟨T2012, pc2012, L2012, lc2012, X2012, N2012, e2012, dc2012, fun t kt => pre2011 t (st2012 t kt)⟩
        · have pre2013 : ∀ t, Steps p.tables e below (T0.setTop (mkF m 64 #[.val (.int P0)] [])) t → Steps p.tables e below (T0.setTop (mkF m 36 #[.val (.int P0)] [])) t := fun t kt => pre2010 t (by
              show Steps p.tables e below (T0.setTop (mkF m 57 #[.val (.int P0)] [(.int (45 : Int32)), (.int P0)])) _
              refine XS.icmpYes X0.here hx rfl (pc0 := 57) (pc' := 64) rfl (hb hby d1_57) rfl (feq hc57).2 (by decide) (by decide) ?_
              exact kt)
          obtain ⟨T2014, pc2014, L2014, lc2014, X2014, N2014, e2014, dc2014, st2014⟩ := tl1_64 P0 (a0 := a0) (Z := Z) X0 hx hZ hw hby hml hown e0 N0
          have hv : tf1_36 P0 = tf1_64 P0 := by unfold tf1_36; rw [if_neg hc39, if_neg hc45, if_neg hc51, if_neg hc57]
          rw [hv]
          exact ⟨T2014, pc2014, L2014, lc2014, X2014, N2014, e2014, dc2014, fun t kt => pre2013 t (st2014 t kt)⟩
theorem tb1_36 (P0 : Int32) : tf1_36 P0 = 0 ∨ tf1_36 P0 = 1 := by
  unfold tf1_36
  (repeat' split) <;> first | exact Or.inl rfl | exact Or.inr rfl | exact tb1_60 P0 | exact tb1_64 P0
def tf1_24 (P0 : Int32) : Int32 := (if P0 < (48 : Int32) then tf1_36 P0 else (if (57 : Int32) < P0 then tf1_36 P0 else tf1_60 P0))
set_option maxRecDepth 65536 in
set_option maxHeartbeats 40000000 in
theorem tl1_24 {p : Program} {l : Launch} {e : Env} {s : State} {m : MethodId} {args : Array Value} {below : List Frame} {meth : Method} {c : Code} {T0 : State} {locs : List Loc} {Z : State} {a0 : Array Value} {h0 : Heap} {n0 : Nat} (P0 : Int32)
    (X0 : Stand p l e ({ frames := 0, cells := 0, slots := 0, locals := 0 } : Room) s m args below meth c T0 locs 0 0) (hx : p.tables.exec = Jvm.exec) (hZ : Z.Warmed39 s.vm) (hw : ∀ d ∈ tables_1, d.before a0 Z = true) (hby : c.code = prog_23_method_9_code) (hml : c.maxLocals = 1) (hown : s.vm.findClass "com/example/kept_reads/keptreads/history/Operation" = some m.cls) (e0 : T0.heap = h0) (N0 : Fr n0 locs) :
    ∃ (T' : State) (pc' : Nat) (L' : Array Slot) (locs' : List Loc), Stand p l e ({ frames := 0, cells := 0, slots := 0, locals := 0 } : Room) s m args below meth c T' locs' 0 0 ∧ Fr n0 locs' ∧ T'.heap = h0 ∧ decode c.code pc' = .ok (.ireturn, 1) ∧ ∀ t, Steps p.tables e below (T'.setTop (mkF m pc' L' [.int (tf1_24 P0)])) t → Steps p.tables e below (T0.setTop (mkF m 24 #[.val (.int P0)] [])) t := by
  have pre0 : ∀ t, Steps p.tables e below (T0.setTop (mkF m 24 #[.val (.int P0)] [])) t → Steps p.tables e below (T0.setTop (mkF m 24 #[.val (.int P0)] [])) t := fun t k => k
  have pre3001 : ∀ t, Steps p.tables e below (T0.setTop (mkF m 27 #[.val (.int P0)] [(.int (48 : Int32)), (.int P0)])) t → Steps p.tables e below (T0.setTop (mkF m 24 #[.val (.int P0)] [])) t := fun t kt => pre0 t (by
      show Steps p.tables e below (T0.setTop (mkF m 24 #[.val (.int P0)] [])) _
      refine XS.iloadN X0.here hx rfl (hb hby d1_24) rfl ?_
      show Steps p.tables e below (T0.setTop (mkF m 25 #[.val (.int P0)] [(.int P0)])) _
      refine XS.bipush X0.here hx rfl (hb hby d1_25) ?_
      exact kt)
  by_cases hc27 : P0 < (48 : Int32)
  · have pre3002 : ∀ t, Steps p.tables e below (T0.setTop (mkF m 36 #[.val (.int P0)] [])) t → Steps p.tables e below (T0.setTop (mkF m 24 #[.val (.int P0)] [])) t := fun t kt => pre3001 t (by
        show Steps p.tables e below (T0.setTop (mkF m 27 #[.val (.int P0)] [(.int (48 : Int32)), (.int P0)])) _
        refine XS.icmpYes X0.here hx rfl (pc0 := 27) (pc' := 36) rfl (hb hby d1_27) rfl (tlt hc27).1 (by decide) (by decide) ?_
        exact kt)
    obtain ⟨T3003, pc3003, L3003, lc3003, X3003, N3003, e3003, dc3003, st3003⟩ := tl1_36 P0 (a0 := a0) (Z := Z) X0 hx hZ hw hby hml hown e0 N0
    have hv : tf1_24 P0 = tf1_36 P0 := by unfold tf1_24; rw [if_pos hc27]
    rw [hv]
    exact ⟨T3003, pc3003, L3003, lc3003, X3003, N3003, e3003, dc3003, fun t kt => pre3002 t (st3003 t kt)⟩
  · have pre3004 : ∀ t, Steps p.tables e below (T0.setTop (mkF m 33 #[.val (.int P0)] [(.int (57 : Int32)), (.int P0)])) t → Steps p.tables e below (T0.setTop (mkF m 24 #[.val (.int P0)] [])) t := fun t kt => pre3001 t (by
        show Steps p.tables e below (T0.setTop (mkF m 27 #[.val (.int P0)] [(.int (48 : Int32)), (.int P0)])) _
        refine XS.icmpNo X0.here hx rfl (hb hby d1_27) rfl (flt hc27).1 ?_
        show Steps p.tables e below (T0.setTop (mkF m 30 #[.val (.int P0)] [])) _
        refine XS.iloadN X0.here hx rfl (hb hby d1_30) rfl ?_
        show Steps p.tables e below (T0.setTop (mkF m 31 #[.val (.int P0)] [(.int P0)])) _
        refine XS.bipush X0.here hx rfl (hb hby d1_31) ?_
        exact kt)
    by_cases hc33 : (57 : Int32) < P0
    · have pre3005 : ∀ t, Steps p.tables e below (T0.setTop (mkF m 36 #[.val (.int P0)] [])) t → Steps p.tables e below (T0.setTop (mkF m 24 #[.val (.int P0)] [])) t := fun t kt => pre3004 t (by
          show Steps p.tables e below (T0.setTop (mkF m 33 #[.val (.int P0)] [(.int (57 : Int32)), (.int P0)])) _
          refine XS.icmpNo X0.here hx rfl (hb hby d1_33) rfl (tlt hc33).2.2.2 ?_
          exact kt)
      obtain ⟨T3006, pc3006, L3006, lc3006, X3006, N3006, e3006, dc3006, st3006⟩ := tl1_36 P0 (a0 := a0) (Z := Z) X0 hx hZ hw hby hml hown e0 N0
      have hv : tf1_24 P0 = tf1_36 P0 := by unfold tf1_24; rw [if_neg hc27, if_pos hc33]
      rw [hv]
      exact ⟨T3006, pc3006, L3006, lc3006, X3006, N3006, e3006, dc3006, fun t kt => pre3005 t (st3006 t kt)⟩
    · have pre3007 : ∀ t, Steps p.tables e below (T0.setTop (mkF m 60 #[.val (.int P0)] [])) t → Steps p.tables e below (T0.setTop (mkF m 24 #[.val (.int P0)] [])) t := fun t kt => pre3004 t (by
          show Steps p.tables e below (T0.setTop (mkF m 33 #[.val (.int P0)] [(.int (57 : Int32)), (.int P0)])) _
          refine XS.icmpYes X0.here hx rfl (pc0 := 33) (pc' := 60) rfl (hb hby d1_33) rfl (flt hc33).2.2.2 (by decide) (by decide) ?_
          exact kt)
      obtain ⟨T3008, pc3008, L3008, lc3008, X3008, N3008, e3008, dc3008, st3008⟩ := tl1_60 P0 (a0 := a0) (Z := Z) X0 hx hZ hw hby hml hown e0 N0
      have hv : tf1_24 P0 = tf1_60 P0 := by unfold tf1_24; rw [if_neg hc27, if_neg hc33]
      rw [hv]
      exact ⟨T3008, pc3008, L3008, lc3008, X3008, N3008, e3008, dc3008, fun t kt => pre3007 t (st3008 t kt)⟩
theorem tb1_24 (P0 : Int32) : tf1_24 P0 = 0 ∨ tf1_24 P0 = 1 := by
  unfold tf1_24
  (repeat' split) <;> first | exact Or.inl rfl | exact Or.inr rfl | exact tb1_36 P0 | exact tb1_60 P0 | exact tb1_64 P0
def tf1_12 (P0 : Int32) : Int32 := (if P0 < (65 : Int32) then tf1_24 P0 else (if (90 : Int32) < P0 then tf1_24 P0 else tf1_60 P0))
set_option maxRecDepth 65536 in
set_option maxHeartbeats 40000000 in
theorem tl1_12 {p : Program} {l : Launch} {e : Env} {s : State} {m : MethodId} {args : Array Value} {below : List Frame} {meth : Method} {c : Code} {T0 : State} {locs : List Loc} {Z : State} {a0 : Array Value} {h0 : Heap} {n0 : Nat} (P0 : Int32)
    (X0 : Stand p l e ({ frames := 0, cells := 0, slots := 0, locals := 0 } : Room) s m args below meth c T0 locs 0 0) (hx : p.tables.exec = Jvm.exec) (hZ : Z.Warmed39 s.vm) (hw : ∀ d ∈ tables_1, d.before a0 Z = true) (hby : c.code = prog_23_method_9_code) (hml : c.maxLocals = 1) (hown : s.vm.findClass "com/example/kept_reads/keptreads/history/Operation" = some m.cls) (e0 : T0.heap = h0) (N0 : Fr n0 locs) :
    ∃ (T' : State) (pc' : Nat) (L' : Array Slot) (locs' : List Loc), Stand p l e ({ frames := 0, cells := 0, slots := 0, locals := 0 } : Room) s m args below meth c T' locs' 0 0 ∧ Fr n0 locs' ∧ T'.heap = h0 ∧ decode c.code pc' = .ok (.ireturn, 1) ∧ ∀ t, Steps p.tables e below (T'.setTop (mkF m pc' L' [.int (tf1_12 P0)])) t → Steps p.tables e below (T0.setTop (mkF m 12 #[.val (.int P0)] [])) t := by
  have pre0 : ∀ t, Steps p.tables e below (T0.setTop (mkF m 12 #[.val (.int P0)] [])) t → Steps p.tables e below (T0.setTop (mkF m 12 #[.val (.int P0)] [])) t := fun t k => k
  have pre4001 : ∀ t, Steps p.tables e below (T0.setTop (mkF m 15 #[.val (.int P0)] [(.int (65 : Int32)), (.int P0)])) t → Steps p.tables e below (T0.setTop (mkF m 12 #[.val (.int P0)] [])) t := fun t kt => pre0 t (by
      show Steps p.tables e below (T0.setTop (mkF m 12 #[.val (.int P0)] [])) _
      refine XS.iloadN X0.here hx rfl (hb hby d1_12) rfl ?_
      show Steps p.tables e below (T0.setTop (mkF m 13 #[.val (.int P0)] [(.int P0)])) _
      refine XS.bipush X0.here hx rfl (hb hby d1_13) ?_
      exact kt)
  by_cases hc15 : P0 < (65 : Int32)
  · have pre4002 : ∀ t, Steps p.tables e below (T0.setTop (mkF m 24 #[.val (.int P0)] [])) t → Steps p.tables e below (T0.setTop (mkF m 12 #[.val (.int P0)] [])) t := fun t kt => pre4001 t (by
        show Steps p.tables e below (T0.setTop (mkF m 15 #[.val (.int P0)] [(.int (65 : Int32)), (.int P0)])) _
        refine XS.icmpYes X0.here hx rfl (pc0 := 15) (pc' := 24) rfl (hb hby d1_15) rfl (tlt hc15).1 (by decide) (by decide) ?_
        exact kt)
    obtain ⟨T4003, pc4003, L4003, lc4003, X4003, N4003, e4003, dc4003, st4003⟩ := tl1_24 P0 (a0 := a0) (Z := Z) X0 hx hZ hw hby hml hown e0 N0
    have hv : tf1_12 P0 = tf1_24 P0 := by unfold tf1_12; rw [if_pos hc15]
    rw [hv]
    exact ⟨T4003, pc4003, L4003, lc4003, X4003, N4003, e4003, dc4003, fun t kt => pre4002 t (st4003 t kt)⟩
  · have pre4004 : ∀ t, Steps p.tables e below (T0.setTop (mkF m 21 #[.val (.int P0)] [(.int (90 : Int32)), (.int P0)])) t → Steps p.tables e below (T0.setTop (mkF m 12 #[.val (.int P0)] [])) t := fun t kt => pre4001 t (by
        show Steps p.tables e below (T0.setTop (mkF m 15 #[.val (.int P0)] [(.int (65 : Int32)), (.int P0)])) _
        refine XS.icmpNo X0.here hx rfl (hb hby d1_15) rfl (flt hc15).1 ?_
        show Steps p.tables e below (T0.setTop (mkF m 18 #[.val (.int P0)] [])) _
        refine XS.iloadN X0.here hx rfl (hb hby d1_18) rfl ?_
        show Steps p.tables e below (T0.setTop (mkF m 19 #[.val (.int P0)] [(.int P0)])) _
        refine XS.bipush X0.here hx rfl (hb hby d1_19) ?_
        exact kt)
    by_cases hc21 : (90 : Int32) < P0
    · have pre4005 : ∀ t, Steps p.tables e below (T0.setTop (mkF m 24 #[.val (.int P0)] [])) t → Steps p.tables e below (T0.setTop (mkF m 12 #[.val (.int P0)] [])) t := fun t kt => pre4004 t (by
          show Steps p.tables e below (T0.setTop (mkF m 21 #[.val (.int P0)] [(.int (90 : Int32)), (.int P0)])) _
          refine XS.icmpNo X0.here hx rfl (hb hby d1_21) rfl (tlt hc21).2.2.2 ?_
          exact kt)
      obtain ⟨T4006, pc4006, L4006, lc4006, X4006, N4006, e4006, dc4006, st4006⟩ := tl1_24 P0 (a0 := a0) (Z := Z) X0 hx hZ hw hby hml hown e0 N0
      have hv : tf1_12 P0 = tf1_24 P0 := by unfold tf1_12; rw [if_neg hc15, if_pos hc21]
      rw [hv]
      exact ⟨T4006, pc4006, L4006, lc4006, X4006, N4006, e4006, dc4006, fun t kt => pre4005 t (st4006 t kt)⟩
    · have pre4007 : ∀ t, Steps p.tables e below (T0.setTop (mkF m 60 #[.val (.int P0)] [])) t → Steps p.tables e below (T0.setTop (mkF m 12 #[.val (.int P0)] [])) t := fun t kt => pre4004 t (by
          show Steps p.tables e below (T0.setTop (mkF m 21 #[.val (.int P0)] [(.int (90 : Int32)), (.int P0)])) _
          refine XS.icmpYes X0.here hx rfl (pc0 := 21) (pc' := 60) rfl (hb hby d1_21) rfl (flt hc21).2.2.2 (by decide) (by decide) ?_
          exact kt)
      obtain ⟨T4008, pc4008, L4008, lc4008, X4008, N4008, e4008, dc4008, st4008⟩ := tl1_60 P0 (a0 := a0) (Z := Z) X0 hx hZ hw hby hml hown e0 N0
      have hv : tf1_12 P0 = tf1_60 P0 := by unfold tf1_12; rw [if_neg hc15, if_neg hc21]
      rw [hv]
      exact ⟨T4008, pc4008, L4008, lc4008, X4008, N4008, e4008, dc4008, fun t kt => pre4007 t (st4008 t kt)⟩
theorem tb1_12 (P0 : Int32) : tf1_12 P0 = 0 ∨ tf1_12 P0 = 1 := by
  unfold tf1_12
  (repeat' split) <;> first | exact Or.inl rfl | exact Or.inr rfl | exact tb1_24 P0 | exact tb1_36 P0 | exact tb1_60 P0 | exact tb1_64 P0
def tf1_0 (P0 : Int32) : Int32 := (if P0 < (97 : Int32) then tf1_12 P0 else (if (122 : Int32) < P0 then tf1_12 P0 else tf1_60 P0))
set_option maxRecDepth 65536 in
set_option maxHeartbeats 40000000 in
theorem tl1_0 {p : Program} {l : Launch} {e : Env} {s : State} {m : MethodId} {args : Array Value} {below : List Frame} {meth : Method} {c : Code} {T0 : State} {locs : List Loc} {Z : State} {a0 : Array Value} {h0 : Heap} {n0 : Nat} (P0 : Int32)
    (X0 : Stand p l e ({ frames := 0, cells := 0, slots := 0, locals := 0 } : Room) s m args below meth c T0 locs 0 0) (hx : p.tables.exec = Jvm.exec) (hZ : Z.Warmed39 s.vm) (hw : ∀ d ∈ tables_1, d.before a0 Z = true) (hby : c.code = prog_23_method_9_code) (hml : c.maxLocals = 1) (hown : s.vm.findClass "com/example/kept_reads/keptreads/history/Operation" = some m.cls) (e0 : T0.heap = h0) (N0 : Fr n0 locs) :
    ∃ (T' : State) (pc' : Nat) (L' : Array Slot) (locs' : List Loc), Stand p l e ({ frames := 0, cells := 0, slots := 0, locals := 0 } : Room) s m args below meth c T' locs' 0 0 ∧ Fr n0 locs' ∧ T'.heap = h0 ∧ decode c.code pc' = .ok (.ireturn, 1) ∧ ∀ t, Steps p.tables e below (T'.setTop (mkF m pc' L' [.int (tf1_0 P0)])) t → Steps p.tables e below (T0.setTop (mkF m 0 #[.val (.int P0)] [])) t := by
  have pre0 : ∀ t, Steps p.tables e below (T0.setTop (mkF m 0 #[.val (.int P0)] [])) t → Steps p.tables e below (T0.setTop (mkF m 0 #[.val (.int P0)] [])) t := fun t k => k
  have pre5001 : ∀ t, Steps p.tables e below (T0.setTop (mkF m 3 #[.val (.int P0)] [(.int (97 : Int32)), (.int P0)])) t → Steps p.tables e below (T0.setTop (mkF m 0 #[.val (.int P0)] [])) t := fun t kt => pre0 t (by
      show Steps p.tables e below (T0.setTop (mkF m 0 #[.val (.int P0)] [])) _
      refine XS.iloadN X0.here hx rfl (hb hby d1_0) rfl ?_
      show Steps p.tables e below (T0.setTop (mkF m 1 #[.val (.int P0)] [(.int P0)])) _
      refine XS.bipush X0.here hx rfl (hb hby d1_1) ?_
      exact kt)
  by_cases hc3 : P0 < (97 : Int32)
  · have pre5002 : ∀ t, Steps p.tables e below (T0.setTop (mkF m 12 #[.val (.int P0)] [])) t → Steps p.tables e below (T0.setTop (mkF m 0 #[.val (.int P0)] [])) t := fun t kt => pre5001 t (by
        show Steps p.tables e below (T0.setTop (mkF m 3 #[.val (.int P0)] [(.int (97 : Int32)), (.int P0)])) _
        refine XS.icmpYes X0.here hx rfl (pc0 := 3) (pc' := 12) rfl (hb hby d1_3) rfl (tlt hc3).1 (by decide) (by decide) ?_
        exact kt)
    obtain ⟨T5003, pc5003, L5003, lc5003, X5003, N5003, e5003, dc5003, st5003⟩ := tl1_12 P0 (a0 := a0) (Z := Z) X0 hx hZ hw hby hml hown e0 N0
    have hv : tf1_0 P0 = tf1_12 P0 := by unfold tf1_0; rw [if_pos hc3]
    rw [hv]
    exact ⟨T5003, pc5003, L5003, lc5003, X5003, N5003, e5003, dc5003, fun t kt => pre5002 t (st5003 t kt)⟩
  · have pre5004 : ∀ t, Steps p.tables e below (T0.setTop (mkF m 9 #[.val (.int P0)] [(.int (122 : Int32)), (.int P0)])) t → Steps p.tables e below (T0.setTop (mkF m 0 #[.val (.int P0)] [])) t := fun t kt => pre5001 t (by
        show Steps p.tables e below (T0.setTop (mkF m 3 #[.val (.int P0)] [(.int (97 : Int32)), (.int P0)])) _
        refine XS.icmpNo X0.here hx rfl (hb hby d1_3) rfl (flt hc3).1 ?_
        show Steps p.tables e below (T0.setTop (mkF m 6 #[.val (.int P0)] [])) _
        refine XS.iloadN X0.here hx rfl (hb hby d1_6) rfl ?_
        show Steps p.tables e below (T0.setTop (mkF m 7 #[.val (.int P0)] [(.int P0)])) _
        refine XS.bipush X0.here hx rfl (hb hby d1_7) ?_
        exact kt)
    by_cases hc9 : (122 : Int32) < P0
    · have pre5005 : ∀ t, Steps p.tables e below (T0.setTop (mkF m 12 #[.val (.int P0)] [])) t → Steps p.tables e below (T0.setTop (mkF m 0 #[.val (.int P0)] [])) t := fun t kt => pre5004 t (by
          show Steps p.tables e below (T0.setTop (mkF m 9 #[.val (.int P0)] [(.int (122 : Int32)), (.int P0)])) _
          refine XS.icmpNo X0.here hx rfl (hb hby d1_9) rfl (tlt hc9).2.2.2 ?_
          exact kt)
      obtain ⟨T5006, pc5006, L5006, lc5006, X5006, N5006, e5006, dc5006, st5006⟩ := tl1_12 P0 (a0 := a0) (Z := Z) X0 hx hZ hw hby hml hown e0 N0
      have hv : tf1_0 P0 = tf1_12 P0 := by unfold tf1_0; rw [if_neg hc3, if_pos hc9]
      rw [hv]
      exact ⟨T5006, pc5006, L5006, lc5006, X5006, N5006, e5006, dc5006, fun t kt => pre5005 t (st5006 t kt)⟩
    · have pre5007 : ∀ t, Steps p.tables e below (T0.setTop (mkF m 60 #[.val (.int P0)] [])) t → Steps p.tables e below (T0.setTop (mkF m 0 #[.val (.int P0)] [])) t := fun t kt => pre5004 t (by
          show Steps p.tables e below (T0.setTop (mkF m 9 #[.val (.int P0)] [(.int (122 : Int32)), (.int P0)])) _
          refine XS.icmpYes X0.here hx rfl (pc0 := 9) (pc' := 60) rfl (hb hby d1_9) rfl (flt hc9).2.2.2 (by decide) (by decide) ?_
          exact kt)
      obtain ⟨T5008, pc5008, L5008, lc5008, X5008, N5008, e5008, dc5008, st5008⟩ := tl1_60 P0 (a0 := a0) (Z := Z) X0 hx hZ hw hby hml hown e0 N0
      have hv : tf1_0 P0 = tf1_60 P0 := by unfold tf1_0; rw [if_neg hc3, if_neg hc9]
      rw [hv]
      exact ⟨T5008, pc5008, L5008, lc5008, X5008, N5008, e5008, dc5008, fun t kt => pre5007 t (st5008 t kt)⟩
theorem tb1_0 (P0 : Int32) : tf1_0 P0 = 0 ∨ tf1_0 P0 = 1 := by
  unfold tf1_0
  (repeat' split) <;> first | exact Or.inl rfl | exact Or.inr rfl | exact tb1_12 P0 | exact tb1_24 P0 | exact tb1_36 P0 | exact tb1_60 P0 | exact tb1_64 P0
def Q1 (Z : State) (P0 : Int32) (h0 : Heap) (n0 : Nat) (v : Option Value) (h : Heap) (L : List Loc) : Prop := (v = some (.int (tf1_0 P0))) ∧ (Fr n0 L) ∧ (h = h0)
set_option maxRecDepth 65536 in
set_option maxHeartbeats 40000000 in
theorem rm1 (l : Launch) (Z : State) (a0 : Array Value) (hw : ∀ d ∈ tables_1, d.before a0 Z = true) (ws : List Jvm.Cond) (P0 : Int32) (h0 : Heap) (n0 : Nat) (Z0 : n0 ≤ h0.size) :
    MetFree l (⟨"com/example/kept_reads/keptreads/history/Operation", "isElementChar", "(C)Z"⟩ : MethodName) (head1 (Jvm.Cond.code (⟨"com/example/kept_reads/keptreads/history/Operation", "isElementChar", "(C)Z"⟩ : MethodName) prog_23_method_9_code 1 (some .boolean) :: ws) ({ frames := 0, cells := 0, slots := 0, locals := 0 } : Room)) (fun a U => a = #[(.int P0)] ∧ Z.Warmed39 U.vm ∧ U.heap = h0) (fun _ _ _ _ _ => True) (fun _ U o U' => ∃ v L, o = .returned v ∧ Q1 Z P0 h0 n0 v U'.heap L ∧ FrameEnd U o U' L ({ frames := 0, cells := 0, slots := 0, locals := 0 } : Room).cells ({ frames := 0, cells := 0, slots := 0, locals := 0 } : Room).slots) := by
  refine MetFree.of_bodySF (plainFor_of_name pn_1) hisR ?_
  intro p e s m args below meth c s₁ Bd hml0 hP hK
  obtain ⟨rfl, hZ, hh⟩ := hP
  have hx := Bd.exec
  have hby := Bd.bytes
  have hml : c.maxLocals = 1 := hml0
  have hown : s.vm.findClass "com/example/kept_reads/keptreads/history/Operation" = some m.cls := findClass_of_methodNamed Bd.named
  have X0 : Stand p l e ({ frames := 0, cells := 0, slots := 0, locals := 0 } : Room) s m #[(.int P0)] below meth c s₁ [] 0 0 := Stand.of_body Bd
  have e0 : s₁.heap = h0 := by rw [← hh, Bd.state]; rfl
  obtain ⟨T1, pc1, L1, lc1, X1, N1, e1, dc1, st1⟩ := tl1_0 P0 (a0 := a0) (Z := Z) X0 hx hZ hw hby hml hown e0 (Fr.nil n0)
  obtain ⟨fs, hr, hrun, hended, hW, hsame⟩ := X1.leave (v := some (.int (tf1_0 P0))) (fun h => by rw [Bd.returns] at h; cases h)
  refine ⟨_, _, castTop (ef_1 m P0) (st1 _ ?_), hrun, hended, _, _, rfl, ?_, ⟨_, rfl⟩, hW, hsame.mono (by decide) (by decide)⟩
  · refine retN X1 hx (t := .boolean) Bd.returns (by simp) dc1 ?_
    rw [show nar .boolean (tf1_0 P0) = tf1_0 P0 from by rcases tb1_0 P0 with q | q <;> rw [q] <;> rfl]
    exact hr
  · show Q1 Z P0 h0 n0 _ T1.heap _
    rw [e1]
    exact ⟨rfl, N1, rfl⟩
theorem d2_0 : decode method_2_code 0 = .ok (.iload_n 0, 1) := by decide +kernel
theorem d2_1 : decode method_2_code 1 = .ok (.bipush 64, 2) := by decide +kernel
theorem d2_3 : decode method_2_code 3 = .ok (.if_icmp .ge 21, 3) := by decide +kernel
theorem d2_6 : decode method_2_code 6 = .ok (.ldc2_w 9, 3) := by decide +kernel
theorem d2_9 : decode method_2_code 9 = .ok (.iload_n 0, 1) := by decide +kernel
theorem d2_10 : decode method_2_code 10 = .ok (.lushr, 1) := by decide +kernel
theorem d2_11 : decode method_2_code 11 = .ok (.lconst 1, 1) := by decide +kernel
theorem d2_12 : decode method_2_code 12 = .ok (.land, 1) := by decide +kernel
theorem d2_13 : decode method_2_code 13 = .ok (.lconst 0, 1) := by decide +kernel
theorem d2_14 : decode method_2_code 14 = .ok (.lcmp, 1) := by decide +kernel
theorem d2_15 : decode method_2_code 15 = .ok (.ifCond .eq 7, 3) := by decide +kernel
theorem d2_18 : decode method_2_code 18 = .ok (.iconst 1, 1) := by decide +kernel
theorem d2_19 : decode method_2_code 19 = .ok (.goto 4, 3) := by decide +kernel
theorem d2_22 : decode method_2_code 22 = .ok (.iconst 0, 1) := by decide +kernel
theorem d2_23 : decode method_2_code 23 = .ok (.ireturn, 1) := by decide +kernel
theorem d2_24 : decode method_2_code 24 = .ok (.iload_n 0, 1) := by decide +kernel
theorem d2_25 : decode method_2_code 25 = .ok (.sipush 128, 3) := by decide +kernel
theorem d2_28 : decode method_2_code 28 = .ok (.if_icmp .ge 24, 3) := by decide +kernel
theorem d2_31 : decode method_2_code 31 = .ok (.ldc2_w 11, 3) := by decide +kernel
theorem d2_34 : decode method_2_code 34 = .ok (.iload_n 0, 1) := by decide +kernel
theorem d2_35 : decode method_2_code 35 = .ok (.bipush 64, 2) := by decide +kernel
theorem d2_37 : decode method_2_code 37 = .ok (.isub, 1) := by decide +kernel
theorem d2_38 : decode method_2_code 38 = .ok (.lushr, 1) := by decide +kernel
theorem d2_39 : decode method_2_code 39 = .ok (.lconst 1, 1) := by decide +kernel
theorem d2_40 : decode method_2_code 40 = .ok (.land, 1) := by decide +kernel
theorem d2_41 : decode method_2_code 41 = .ok (.lconst 0, 1) := by decide +kernel
theorem d2_42 : decode method_2_code 42 = .ok (.lcmp, 1) := by decide +kernel
theorem d2_43 : decode method_2_code 43 = .ok (.ifCond .eq 7, 3) := by decide +kernel
theorem d2_46 : decode method_2_code 46 = .ok (.iconst 1, 1) := by decide +kernel
theorem d2_47 : decode method_2_code 47 = .ok (.goto 4, 3) := by decide +kernel
theorem d2_50 : decode method_2_code 50 = .ok (.iconst 0, 1) := by decide +kernel
theorem d2_51 : decode method_2_code 51 = .ok (.ireturn, 1) := by decide +kernel
theorem d2_52 : decode method_2_code 52 = .ok (.iconst 0, 1) := by decide +kernel
theorem d2_53 : decode method_2_code 53 = .ok (.ireturn, 1) := by decide +kernel
theorem pn_2 : plainName "com/example/kept_reads/keptreads/history/OperationIsElementCharPinLaw" = true := by first | (simp [plainName, overriddenIn]; done) | decide +kernel
theorem ef_2 (m : MethodId) (P0 : Int32) : entryFrame m #[(.int P0)] 1 = mkF m 0 #[.val (.int P0)] [] := by first | (simp [entryFrame, mkF, argsToLocals, Value.category]; done) | rfl
def tf2_0 (P0 : Int32) : Int32 := (if P0 < (64 : Int32) then (if ((((576284830442979328 : Int64).toUInt64 >>> (P0 &&& 0x3f).toInt64.toUInt64).toInt64) &&& (1 : Int64)) = (0 : Int64) then (0 : Int32) else (1 : Int32)) else (if P0 < (128 : Int32) then (if ((((576460745995190270 : Int64).toUInt64 >>> ((P0 - (64 : Int32)) &&& 0x3f).toInt64.toUInt64).toInt64) &&& (1 : Int64)) = (0 : Int64) then (0 : Int32) else (1 : Int32)) else (0 : Int32)))
set_option maxRecDepth 65536 in
set_option maxHeartbeats 40000000 in
theorem tl2_0 {p : Program} {l : Launch} {e : Env} {s : State} {m : MethodId} {args : Array Value} {below : List Frame} {meth : Method} {c : Code} {T0 : State} {locs : List Loc} {Z : State} {a0 : Array Value} {h0 : Heap} {n0 : Nat} (P0 : Int32)
    (X0 : Stand p l e ({ frames := 0, cells := 0, slots := 0, locals := 0 } : Room) s m args below meth c T0 locs 0 0) (hx : p.tables.exec = Jvm.exec) (hZ : Z.Warmed39 s.vm) (hw : ∀ d ∈ tables_1, d.before a0 Z = true) (hby : c.code = method_2_code) (hml : c.maxLocals = 1) (hown : s.vm.findClass "com/example/kept_reads/keptreads/history/OperationIsElementCharPinLaw" = some m.cls) (e0 : T0.heap = h0) (N0 : Fr n0 locs) :
    ∃ (T' : State) (pc' : Nat) (L' : Array Slot) (locs' : List Loc), Stand p l e ({ frames := 0, cells := 0, slots := 0, locals := 0 } : Room) s m args below meth c T' locs' 0 0 ∧ Fr n0 locs' ∧ T'.heap = h0 ∧ decode c.code pc' = .ok (.ireturn, 1) ∧ ∀ t, Steps p.tables e below (T'.setTop (mkF m pc' L' [.int (tf2_0 P0)])) t → Steps p.tables e below (T0.setTop (mkF m 0 #[.val (.int P0)] [])) t := by
  have pre0 : ∀ t, Steps p.tables e below (T0.setTop (mkF m 0 #[.val (.int P0)] [])) t → Steps p.tables e below (T0.setTop (mkF m 0 #[.val (.int P0)] [])) t := fun t k => k
  have pre1 : ∀ t, Steps p.tables e below (T0.setTop (mkF m 3 #[.val (.int P0)] [(.int (64 : Int32)), (.int P0)])) t → Steps p.tables e below (T0.setTop (mkF m 0 #[.val (.int P0)] [])) t := fun t kt => pre0 t (by
      show Steps p.tables e below (T0.setTop (mkF m 0 #[.val (.int P0)] [])) _
      refine XS.iloadN X0.here hx rfl (hb hby d2_0) rfl ?_
      show Steps p.tables e below (T0.setTop (mkF m 1 #[.val (.int P0)] [(.int P0)])) _
      refine XS.bipush X0.here hx rfl (hb hby d2_1) ?_
      exact kt)
  by_cases hc3 : P0 < (64 : Int32)
  · have pre2 : ∀ t, Steps p.tables e below (T0.setTop (mkF m 15 #[.val (.int P0)] [(.int (lcmpW ((((576284830442979328 : Int64).toUInt64 >>> (P0 &&& 0x3f).toInt64.toUInt64).toInt64) &&& (1 : Int64)) (0 : Int64)))])) t → Steps p.tables e below (T0.setTop (mkF m 0 #[.val (.int P0)] [])) t := fun t kt => pre1 t (by
        show Steps p.tables e below (T0.setTop (mkF m 3 #[.val (.int P0)] [(.int (64 : Int32)), (.int P0)])) _
        refine XS.icmpNo X0.here hx rfl (hb hby d2_3) rfl (tlt hc3).2.1 ?_
        show Steps p.tables e below (T0.setTop (mkF m 6 #[.val (.int P0)] [])) _
        refine X0.ldc2Long hx hown (mvT hZ (hw _ (List.mem_of_getElem? (i := 9) rfl))) (g := (mkF m 6 #[.val (.int P0)] [])) rfl (hb hby d2_6) _ ?_
        show Steps p.tables e below (T0.setTop (mkF m 9 #[.val (.int P0)] [(.long (576284830442979328 : Int64))])) _
        refine XS.iloadN X0.here hx rfl (hb hby d2_9) rfl ?_
        show Steps p.tables e below (T0.setTop (mkF m 10 #[.val (.int P0)] [(.int P0), (.long (576284830442979328 : Int64))])) _
        refine XS.lushr X0.here hx rfl (hb hby d2_10) rfl ?_
        show Steps p.tables e below (T0.setTop (mkF m 11 #[.val (.int P0)] [(.long (((576284830442979328 : Int64).toUInt64 >>> (P0 &&& 0x3f).toInt64.toUInt64).toInt64))])) _
        refine XS.lconst X0.here hx rfl (hb hby d2_11) ?_
        show Steps p.tables e below (T0.setTop (mkF m 12 #[.val (.int P0)] [(.long (1 : Int64)), (.long (((576284830442979328 : Int64).toUInt64 >>> (P0 &&& 0x3f).toInt64.toUInt64).toInt64))])) _
        refine XS.land X0.here hx rfl (hb hby d2_12) rfl ?_
        show Steps p.tables e below (T0.setTop (mkF m 13 #[.val (.int P0)] [(.long ((((576284830442979328 : Int64).toUInt64 >>> (P0 &&& 0x3f).toInt64.toUInt64).toInt64) &&& (1 : Int64)))])) _
        refine XS.lconst X0.here hx rfl (hb hby d2_13) ?_
        show Steps p.tables e below (T0.setTop (mkF m 14 #[.val (.int P0)] [(.long (0 : Int64)), (.long ((((576284830442979328 : Int64).toUInt64 >>> (P0 &&& 0x3f).toInt64.toUInt64).toInt64) &&& (1 : Int64)))])) _
        refine XS.lcmp X0.here hx rfl (hb hby d2_14) rfl ?_
        exact kt)
    by_cases hc15 : ((((576284830442979328 : Int64).toUInt64 >>> (P0 &&& 0x3f).toInt64.toUInt64).toInt64) &&& (1 : Int64)) = (0 : Int64)
    · have pre3 : ∀ t, Steps p.tables e below (T0.setTop (mkF m 23 #[.val (.int P0)] [(.int (0 : Int32))])) t → Steps p.tables e below (T0.setTop (mkF m 0 #[.val (.int P0)] [])) t := fun t kt => pre2 t (by
          show Steps p.tables e below (T0.setTop (mkF m 15 #[.val (.int P0)] [(.int (lcmpW ((((576284830442979328 : Int64).toUInt64 >>> (P0 &&& 0x3f).toInt64.toUInt64).toInt64) &&& (1 : Int64)) (0 : Int64)))])) _
          refine XS.ifYes X0.here hx rfl (pc0 := 15) (pc' := 22) rfl (hb hby d2_15) rfl ((if0 _ _).trans (teq ((lw_eq ((((576284830442979328 : Int64).toUInt64 >>> (P0 &&& 0x3f).toInt64.toUInt64).toInt64) &&& (1 : Int64)) (0 : Int64)).mpr hc15)).1) (by decide) (by decide) ?_
          show Steps p.tables e below (T0.setTop (mkF m 22 #[.val (.int P0)] [])) _
          refine XS.iconst X0.here hx rfl (hb hby d2_22) ?_
          exact kt)
      have hv : tf2_0 P0 = (0 : Int32) := by unfold tf2_0; rw [if_pos hc3, if_pos hc15]
      rw [hv]
      exact ⟨T0, 23, _, _, X0, N0, e0, (hb hby d2_23), pre3⟩
    · have pre4 : ∀ t, Steps p.tables e below (T0.setTop (mkF m 23 #[.val (.int P0)] [(.int (1 : Int32))])) t → Steps p.tables e below (T0.setTop (mkF m 0 #[.val (.int P0)] [])) t := fun t kt => pre2 t (by
          show Steps p.tables e below (T0.setTop (mkF m 15 #[.val (.int P0)] [(.int (lcmpW ((((576284830442979328 : Int64).toUInt64 >>> (P0 &&& 0x3f).toInt64.toUInt64).toInt64) &&& (1 : Int64)) (0 : Int64)))])) _
          refine XS.ifNo X0.here hx rfl (hb hby d2_15) rfl ((if0 _ _).trans (feq (fun q => hc15 ((lw_eq ((((576284830442979328 : Int64).toUInt64 >>> (P0 &&& 0x3f).toInt64.toUInt64).toInt64) &&& (1 : Int64)) (0 : Int64)).mp q))).1) ?_
          show Steps p.tables e below (T0.setTop (mkF m 18 #[.val (.int P0)] [])) _
          refine XS.iconst X0.here hx rfl (hb hby d2_18) ?_
          show Steps p.tables e below (T0.setTop (mkF m 19 #[.val (.int P0)] [(.int (1 : Int32))])) _
          refine XS.goto X0.here hx rfl (pc0 := 19) (pc' := 23) rfl (hb hby d2_19) (by decide) (by decide) ?_
          exact kt)
      have hv : tf2_0 P0 = (1 : Int32) := by unfold tf2_0; rw [if_pos hc3, if_neg hc15]
      rw [hv]
      exact ⟨T0, 23, _, _, X0, N0, e0, (hb hby d2_23), pre4⟩
  · have pre5 : ∀ t, Steps p.tables e below (T0.setTop (mkF m 28 #[.val (.int P0)] [(.int (128 : Int32)), (.int P0)])) t → Steps p.tables e below (T0.setTop (mkF m 0 #[.val (.int P0)] [])) t := fun t kt => pre1 t (by
        show Steps p.tables e below (T0.setTop (mkF m 3 #[.val (.int P0)] [(.int (64 : Int32)), (.int P0)])) _
        refine XS.icmpYes X0.here hx rfl (pc0 := 3) (pc' := 24) rfl (hb hby d2_3) rfl (flt hc3).2.1 (by decide) (by decide) ?_
        show Steps p.tables e below (T0.setTop (mkF m 24 #[.val (.int P0)] [])) _
        refine XS.iloadN X0.here hx rfl (hb hby d2_24) rfl ?_
        show Steps p.tables e below (T0.setTop (mkF m 25 #[.val (.int P0)] [(.int P0)])) _
        refine XS.sipush X0.here hx rfl (hb hby d2_25) ?_
        exact kt)
    by_cases hc28 : P0 < (128 : Int32)
    · have pre6 : ∀ t, Steps p.tables e below (T0.setTop (mkF m 43 #[.val (.int P0)] [(.int (lcmpW ((((576460745995190270 : Int64).toUInt64 >>> ((P0 - (64 : Int32)) &&& 0x3f).toInt64.toUInt64).toInt64) &&& (1 : Int64)) (0 : Int64)))])) t → Steps p.tables e below (T0.setTop (mkF m 0 #[.val (.int P0)] [])) t := fun t kt => pre5 t (by
          show Steps p.tables e below (T0.setTop (mkF m 28 #[.val (.int P0)] [(.int (128 : Int32)), (.int P0)])) _
          refine XS.icmpNo X0.here hx rfl (hb hby d2_28) rfl (tlt hc28).2.1 ?_
          show Steps p.tables e below (T0.setTop (mkF m 31 #[.val (.int P0)] [])) _
          refine X0.ldc2Long hx hown (mvT hZ (hw _ (List.mem_of_getElem? (i := 10) rfl))) (g := (mkF m 31 #[.val (.int P0)] [])) rfl (hb hby d2_31) _ ?_
          show Steps p.tables e below (T0.setTop (mkF m 34 #[.val (.int P0)] [(.long (576460745995190270 : Int64))])) _
          refine XS.iloadN X0.here hx rfl (hb hby d2_34) rfl ?_
          show Steps p.tables e below (T0.setTop (mkF m 35 #[.val (.int P0)] [(.int P0), (.long (576460745995190270 : Int64))])) _
          refine XS.bipush X0.here hx rfl (hb hby d2_35) ?_
          show Steps p.tables e below (T0.setTop (mkF m 37 #[.val (.int P0)] [(.int (64 : Int32)), (.int P0), (.long (576460745995190270 : Int64))])) _
          refine XS.isub X0.here hx rfl (hb hby d2_37) rfl ?_
          show Steps p.tables e below (T0.setTop (mkF m 38 #[.val (.int P0)] [(.int (P0 - (64 : Int32))), (.long (576460745995190270 : Int64))])) _
          refine XS.lushr X0.here hx rfl (hb hby d2_38) rfl ?_
          show Steps p.tables e below (T0.setTop (mkF m 39 #[.val (.int P0)] [(.long (((576460745995190270 : Int64).toUInt64 >>> ((P0 - (64 : Int32)) &&& 0x3f).toInt64.toUInt64).toInt64))])) _
          refine XS.lconst X0.here hx rfl (hb hby d2_39) ?_
          show Steps p.tables e below (T0.setTop (mkF m 40 #[.val (.int P0)] [(.long (1 : Int64)), (.long (((576460745995190270 : Int64).toUInt64 >>> ((P0 - (64 : Int32)) &&& 0x3f).toInt64.toUInt64).toInt64))])) _
          refine XS.land X0.here hx rfl (hb hby d2_40) rfl ?_
          show Steps p.tables e below (T0.setTop (mkF m 41 #[.val (.int P0)] [(.long ((((576460745995190270 : Int64).toUInt64 >>> ((P0 - (64 : Int32)) &&& 0x3f).toInt64.toUInt64).toInt64) &&& (1 : Int64)))])) _
          refine XS.lconst X0.here hx rfl (hb hby d2_41) ?_
          show Steps p.tables e below (T0.setTop (mkF m 42 #[.val (.int P0)] [(.long (0 : Int64)), (.long ((((576460745995190270 : Int64).toUInt64 >>> ((P0 - (64 : Int32)) &&& 0x3f).toInt64.toUInt64).toInt64) &&& (1 : Int64)))])) _
          refine XS.lcmp X0.here hx rfl (hb hby d2_42) rfl ?_
          exact kt)
      by_cases hc43 : ((((576460745995190270 : Int64).toUInt64 >>> ((P0 - (64 : Int32)) &&& 0x3f).toInt64.toUInt64).toInt64) &&& (1 : Int64)) = (0 : Int64)
      · have pre7 : ∀ t, Steps p.tables e below (T0.setTop (mkF m 51 #[.val (.int P0)] [(.int (0 : Int32))])) t → Steps p.tables e below (T0.setTop (mkF m 0 #[.val (.int P0)] [])) t := fun t kt => pre6 t (by
            show Steps p.tables e below (T0.setTop (mkF m 43 #[.val (.int P0)] [(.int (lcmpW ((((576460745995190270 : Int64).toUInt64 >>> ((P0 - (64 : Int32)) &&& 0x3f).toInt64.toUInt64).toInt64) &&& (1 : Int64)) (0 : Int64)))])) _
            refine XS.ifYes X0.here hx rfl (pc0 := 43) (pc' := 50) rfl (hb hby d2_43) rfl ((if0 _ _).trans (teq ((lw_eq ((((576460745995190270 : Int64).toUInt64 >>> ((P0 - (64 : Int32)) &&& 0x3f).toInt64.toUInt64).toInt64) &&& (1 : Int64)) (0 : Int64)).mpr hc43)).1) (by decide) (by decide) ?_
            show Steps p.tables e below (T0.setTop (mkF m 50 #[.val (.int P0)] [])) _
            refine XS.iconst X0.here hx rfl (hb hby d2_50) ?_
            exact kt)
        have hv : tf2_0 P0 = (0 : Int32) := by unfold tf2_0; rw [if_neg hc3, if_pos hc28, if_pos hc43]
        rw [hv]
        exact ⟨T0, 51, _, _, X0, N0, e0, (hb hby d2_51), pre7⟩
      · have pre8 : ∀ t, Steps p.tables e below (T0.setTop (mkF m 51 #[.val (.int P0)] [(.int (1 : Int32))])) t → Steps p.tables e below (T0.setTop (mkF m 0 #[.val (.int P0)] [])) t := fun t kt => pre6 t (by
            show Steps p.tables e below (T0.setTop (mkF m 43 #[.val (.int P0)] [(.int (lcmpW ((((576460745995190270 : Int64).toUInt64 >>> ((P0 - (64 : Int32)) &&& 0x3f).toInt64.toUInt64).toInt64) &&& (1 : Int64)) (0 : Int64)))])) _
            refine XS.ifNo X0.here hx rfl (hb hby d2_43) rfl ((if0 _ _).trans (feq (fun q => hc43 ((lw_eq ((((576460745995190270 : Int64).toUInt64 >>> ((P0 - (64 : Int32)) &&& 0x3f).toInt64.toUInt64).toInt64) &&& (1 : Int64)) (0 : Int64)).mp q))).1) ?_
            show Steps p.tables e below (T0.setTop (mkF m 46 #[.val (.int P0)] [])) _
            refine XS.iconst X0.here hx rfl (hb hby d2_46) ?_
            show Steps p.tables e below (T0.setTop (mkF m 47 #[.val (.int P0)] [(.int (1 : Int32))])) _
            refine XS.goto X0.here hx rfl (pc0 := 47) (pc' := 51) rfl (hb hby d2_47) (by decide) (by decide) ?_
            exact kt)
        have hv : tf2_0 P0 = (1 : Int32) := by unfold tf2_0; rw [if_neg hc3, if_pos hc28, if_neg hc43]
        rw [hv]
        exact ⟨T0, 51, _, _, X0, N0, e0, (hb hby d2_51), pre8⟩
    · have pre9 : ∀ t, Steps p.tables e below (T0.setTop (mkF m 53 #[.val (.int P0)] [(.int (0 : Int32))])) t → Steps p.tables e below (T0.setTop (mkF m 0 #[.val (.int P0)] [])) t := fun t kt => pre5 t (by
          show Steps p.tables e below (T0.setTop (mkF m 28 #[.val (.int P0)] [(.int (128 : Int32)), (.int P0)])) _
          refine XS.icmpYes X0.here hx rfl (pc0 := 28) (pc' := 52) rfl (hb hby d2_28) rfl (flt hc28).2.1 (by decide) (by decide) ?_
          show Steps p.tables e below (T0.setTop (mkF m 52 #[.val (.int P0)] [])) _
          refine XS.iconst X0.here hx rfl (hb hby d2_52) ?_
          exact kt)
      have hv : tf2_0 P0 = (0 : Int32) := by unfold tf2_0; rw [if_neg hc3, if_neg hc28]
      rw [hv]
      exact ⟨T0, 53, _, _, X0, N0, e0, (hb hby d2_53), pre9⟩
theorem tb2_0 (P0 : Int32) : tf2_0 P0 = 0 ∨ tf2_0 P0 = 1 := by
  unfold tf2_0
  (repeat' split) <;> first | exact Or.inl rfl | exact Or.inr rfl
def Q2 (Z : State) (P0 : Int32) (h0 : Heap) (n0 : Nat) (v : Option Value) (h : Heap) (L : List Loc) : Prop := (v = some (.int (tf2_0 P0))) ∧ (Fr n0 L) ∧ (h = h0)
set_option maxRecDepth 65536 in
set_option maxHeartbeats 40000000 in
theorem rm2 (l : Launch) (Z : State) (a0 : Array Value) (hw : ∀ d ∈ tables_1, d.before a0 Z = true) (ws : List Jvm.Cond) (P0 : Int32) (h0 : Heap) (n0 : Nat) (Z0 : n0 ≤ h0.size) :
    MetFree l (⟨"com/example/kept_reads/keptreads/history/OperationIsElementCharPinLaw", "expected", "(I)Z"⟩ : MethodName) (head1 (Jvm.Cond.code (⟨"com/example/kept_reads/keptreads/history/OperationIsElementCharPinLaw", "expected", "(I)Z"⟩ : MethodName) method_2_code 1 (some .boolean) :: ws) ({ frames := 0, cells := 0, slots := 0, locals := 0 } : Room)) (fun a U => a = #[(.int P0)] ∧ Z.Warmed39 U.vm ∧ U.heap = h0) (fun _ _ _ _ _ => True) (fun _ U o U' => ∃ v L, o = .returned v ∧ Q2 Z P0 h0 n0 v U'.heap L ∧ FrameEnd U o U' L ({ frames := 0, cells := 0, slots := 0, locals := 0 } : Room).cells ({ frames := 0, cells := 0, slots := 0, locals := 0 } : Room).slots) := by
  refine MetFree.of_bodySF (plainFor_of_name pn_2) hisR ?_
  intro p e s m args below meth c s₁ Bd hml0 hP hK
  obtain ⟨rfl, hZ, hh⟩ := hP
  have hx := Bd.exec
  have hby := Bd.bytes
  have hml : c.maxLocals = 1 := hml0
  have hown : s.vm.findClass "com/example/kept_reads/keptreads/history/OperationIsElementCharPinLaw" = some m.cls := findClass_of_methodNamed Bd.named
  have X0 : Stand p l e ({ frames := 0, cells := 0, slots := 0, locals := 0 } : Room) s m #[(.int P0)] below meth c s₁ [] 0 0 := Stand.of_body Bd
  have e0 : s₁.heap = h0 := by rw [← hh, Bd.state]; rfl
  obtain ⟨T1, pc1, L1, lc1, X1, N1, e1, dc1, st1⟩ := tl2_0 P0 (a0 := a0) (Z := Z) X0 hx hZ hw hby hml hown e0 (Fr.nil n0)
  obtain ⟨fs, hr, hrun, hended, hW, hsame⟩ := X1.leave (v := some (.int (tf2_0 P0))) (fun h => by rw [Bd.returns] at h; cases h)
  refine ⟨_, _, castTop (ef_2 m P0) (st1 _ ?_), hrun, hended, _, _, rfl, ?_, ⟨_, rfl⟩, hW, hsame.mono (by decide) (by decide)⟩
  · refine retN X1 hx (t := .boolean) Bd.returns (by simp) dc1 ?_
    rw [show nar .boolean (tf2_0 P0) = tf2_0 P0 from by rcases tb2_0 P0 with q | q <;> rw [q] <;> rfl]
    exact hr
  · show Q2 Z P0 h0 n0 _ T1.heap _
    rw [e1]
    exact ⟨rfl, N1, rfl⟩
theorem own_range (x : Int32) : 0 ≤ (x &&& (65535 : Int32)).toInt ∧ (x &&& (65535 : Int32)).toInt ≤ 65535 := c_and x 65535 (by decide)
theorem own_i2c (x : Int32) : (x &&& (65535 : Int32)).toUInt32.toUInt16.toUInt32.toInt32 = (x &&& (65535 : Int32)) := by
  have h1 := own_range x
  have h2 := c_i2c (x &&& (65535 : Int32))
  apply Int32.toInt_inj.mp
  omega
theorem own_small : ∀ i : Fin 128, tf1_0 (Int32.ofNat i.1) = tf2_0 (Int32.ofNat i.1) := by decide +kernel
theorem own_big (c : Int32) (h : 128 ≤ c.toInt) : tf1_0 c = tf2_0 c := by
  have k1 : ¬ (c < (97 : Int32)) := by rw [Int32.lt_iff_toInt_lt]; show ¬ (c.toInt < 97); omega
  have k2 : (122 : Int32) < c := by rw [Int32.lt_iff_toInt_lt]; show (122 < c.toInt); omega
  have k3 : ¬ (c < (65 : Int32)) := by rw [Int32.lt_iff_toInt_lt]; show ¬ (c.toInt < 65); omega
  have k4 : (90 : Int32) < c := by rw [Int32.lt_iff_toInt_lt]; show (90 < c.toInt); omega
  have k5 : ¬ (c < (48 : Int32)) := by rw [Int32.lt_iff_toInt_lt]; show ¬ (c.toInt < 48); omega
  have k6 : (57 : Int32) < c := by rw [Int32.lt_iff_toInt_lt]; show (57 < c.toInt); omega
  have e1 : ¬ (c = (95 : Int32)) := fun q => by rw [q] at h; exact absurd h (by decide)
  have e2 : ¬ (c = (46 : Int32)) := fun q => by rw [q] at h; exact absurd h (by decide)
  have e3 : ¬ (c = (58 : Int32)) := fun q => by rw [q] at h; exact absurd h (by decide)
  have e4 : ¬ (c = (45 : Int32)) := fun q => by rw [q] at h; exact absurd h (by decide)
  have m1 : ¬ (c < (64 : Int32)) := by rw [Int32.lt_iff_toInt_lt]; show ¬ (c.toInt < 64); omega
  have m2 : ¬ (c < (128 : Int32)) := by rw [Int32.lt_iff_toInt_lt]; show ¬ (c.toInt < 128); omega
  simp only [tf1_0, tf1_12, tf1_24, tf1_36, tf1_60, tf1_64, tf2_0, k1, k2, k3, k4, k5, k6, e1, e2, e3, e4, m1, m2, if_true, if_false]
theorem own_same (x : Int32) : tf1_0 (x &&& (65535 : Int32)).toUInt32.toUInt16.toUInt32.toInt32 = tf2_0 (x &&& (65535 : Int32)) := by
  rw [own_i2c]
  have h1 := own_range x
  generalize (x &&& (65535 : Int32)) = c at *
  by_cases h : 128 ≤ c.toInt
  · exact own_big c h
  · obtain ⟨i, hi⟩ : ∃ i : Fin 128, c = Int32.ofNat i.1 := by
      refine ⟨⟨c.toInt.toNat, by omega⟩, Int32.toInt_inj.mp ?_⟩
      show c.toInt = (Int32.ofNat c.toInt.toNat).toInt
      rw [Int32.toInt_ofNat_of_lt (by omega)]
      omega
    rw [hi]
    exact own_small i
theorem pn_0 : plainName "com/example/kept_reads/keptreads/history/OperationIsElementCharPinLaw" = true := by first | (simp [plainName, overriddenIn]; done) | decide +kernel
theorem pd_0_0 : parseMethodDescriptor "(C)Z" = some ⟨[.char], some .boolean⟩ := by decide +kernel
theorem pd_0_1 : parseMethodDescriptor "(I)Z" = some ⟨[.int], some .boolean⟩ := by decide +kernel
theorem ef_0 (m : MethodId) (P0 : Int32) : entryFrame m #[(.int P0)] maxLocals = mkF m 0 #[.val (.int P0), .unset, .unset] [] := by first | (simp [entryFrame, mkF, argsToLocals, Value.category, maxLocals]; done) | rfl
def Q0 (Z : State) (P0 : Int32) (h0 : Heap) (n0 : Nat) (v : Option Value) (h : Heap) (L : List Loc) : Prop := v = some (.int (1 : Int32)) ∧ Fr n0 L
set_option maxRecDepth 65536 in
set_option maxHeartbeats 40000000 in
theorem rm0 (l : Launch) (Z : State) (a0 : Array Value) (hw : ∀ d ∈ tables_1, d.before a0 Z = true) (ws : List Jvm.Cond) (P0 : Int32) (h0 : Heap) (n0 : Nat) (Z0 : n0 ≤ h0.size) :
    MetFree l x (head1 (Jvm.Cond.code x code maxLocals ret :: ws) room_1) (fun a U => a = #[(.int P0)] ∧ Z.Warmed39 U.vm ∧ U.heap = h0) (fun _ _ _ _ _ => True) (fun _ U o U' => ∃ v L, o = .returned v ∧ Q0 Z P0 h0 n0 v U'.heap L ∧ FrameEnd U o U' L 0 0) := by
  refine MetFree.of_bodySF (plainFor_of_name pn_0) hisR ?_
  intro p e s m args below meth c s₁ Bd hml0 hP hK
  obtain ⟨rfl, hZ, hh⟩ := hP
  have hx := Bd.exec
  have hby := Bd.bytes
  have hml : c.maxLocals = 3 := hml0
  have hown : s.vm.findClass "com/example/kept_reads/keptreads/history/OperationIsElementCharPinLaw" = some m.cls := findClass_of_methodNamed Bd.named
  have hnm := (name_of_methodNamed Bd.named Bd.method).1
  have X0 : Stand p l e room_1 s m #[(.int P0)] below meth c s₁ [] 0 0 := Stand.of_body Bd
  have e0 : s₁.heap = h0 := by rw [← hh, Bd.state]; rfl
  have N0 := Fr.nil n0
  have pre0 : ∀ t, Steps p.tables e below (s₁.setTop (mkF m 0 #[.val (.int P0), .unset, .unset] [])) t → Steps p.tables e below (s₁.setTop (entryFrame m #[(.int P0)] maxLocals)) t := fun t k => castTop (ef_0 m P0) k
  obtain ⟨_, _, ⟨T1, L1, k1, n1⟩, -, X1, ⟨Lc1, hQ1, l1, y1, z1⟩, st1⟩ := Jvm.LawKit.callS X0 hx (y := (⟨"com/example/kept_reads/keptreads/history/Operation", "isElementChar", "(C)Z"⟩ : MethodName)) hown (mvT hZ (hw _ (List.mem_of_getElem? (i := 1) rfl))) (mvT hZ (hw _ (List.mem_of_getElem? (i := 2) rfl))) (mvT hZ (hw _ (List.mem_of_getElem? (i := 3) rfl))) (mvT hZ (hw _ (List.mem_of_getElem? (i := 4) rfl))) (by decide) (backOf (W := 0) (rm1 l Z a0 hw [] ((P0 &&& (65535 : Int32)).toUInt32.toUInt16.toUInt32.toInt32) h0 n0 Z0 ) hZ (hw _ (List.mem_of_getElem? (i := 4) rfl)) (hw _ (List.mem_of_getElem? (i := 3) rfl)) (by decide) (by decide)) (g := (mkF m 9 #[.val (.int P0), .val (.int (P0 &&& (65535 : Int32))), .val (.int ((P0 &&& (65535 : Int32)).toUInt32.toUInt16.toUInt32.toInt32))] [(.int ((P0 &&& (65535 : Int32)).toUInt32.toUInt16.toUInt32.toInt32))])) rfl (by rw [hml]; rfl) (argsL := [(.int ((P0 &&& (65535 : Int32)).toUInt32.toUInt16.toUInt32.toInt32))]) (rest := []) (lenOf pd_0_0 rfl) rfl (by show 2 * 0 + _ ≤ _; exact Nat.le_of_eq rfl) (hb hby at_9) (fun _ _ => ⟨rfl, e0, (by decide : 0 + 0 ≤ _), (by decide : 0 + 0 ≤ _)⟩)
  dsimp only [Pt.U, Pt.locs, Pt.cells, Pt.slots] at X1 l1 y1 z1 st1 hQ1
  subst l1 y1 z1
  obtain ⟨rfl, N1q, K1⟩ := hQ1
  have N1 := Fr.app N0 N1q
  obtain ⟨_, _, ⟨T2, L2, k2, n2⟩, -, X2, ⟨Lc2, hQ2, l2, y2, z2⟩, st2⟩ := Jvm.LawKit.callS X1 hx (y := (⟨"com/example/kept_reads/keptreads/history/OperationIsElementCharPinLaw", "expected", "(I)Z"⟩ : MethodName)) hown (mvT hZ (hw _ (List.mem_of_getElem? (i := 5) rfl))) (mvT hZ (hw _ (List.mem_of_getElem? (i := 6) rfl))) (mvT hZ (hw _ (List.mem_of_getElem? (i := 7) rfl))) (mvT hZ (hw _ (List.mem_of_getElem? (i := 8) rfl))) (by decide) (backOf (W := 1) (rm2 l Z a0 hw [] (P0 &&& (65535 : Int32)) h0 n0 Z0 ) hZ (hw _ (List.mem_of_getElem? (i := 8) rfl)) (hw _ (List.mem_of_getElem? (i := 7) rfl)) (by decide) (by decide)) (g := (mkF m 13 #[.val (.int P0), .val (.int (P0 &&& (65535 : Int32))), .val (.int ((P0 &&& (65535 : Int32)).toUInt32.toUInt16.toUInt32.toInt32))] [(.int (P0 &&& (65535 : Int32))), (.int (tf1_0 ((P0 &&& (65535 : Int32)).toUInt32.toUInt16.toUInt32.toInt32)))])) rfl (by rw [hml]; rfl) (argsL := [(.int (P0 &&& (65535 : Int32)))]) (rest := [(.int (tf1_0 ((P0 &&& (65535 : Int32)).toUInt32.toUInt16.toUInt32.toInt32)))]) (lenOf pd_0_1 rfl) rfl (by show 2 * 0 + _ ≤ _; exact Nat.le_of_eq rfl) (hb hby at_13) (fun _ _ => ⟨rfl, K1, (by decide : 0 + 0 ≤ _), (by decide : 0 + 0 ≤ _)⟩)
  dsimp only [Pt.U, Pt.locs, Pt.cells, Pt.slots] at X2 l2 y2 z2 st2 hQ2
  subst l2 y2 z2
  obtain ⟨rfl, N2q, K2⟩ := hQ2
  have N2 := Fr.app N1 N2q
  have pre3 : ∀ t, Steps p.tables e below (T2.setTop (mkF m 24 #[.val (.int P0), .val (.int (P0 &&& (65535 : Int32))), .val (.int ((P0 &&& (65535 : Int32)).toUInt32.toUInt16.toUInt32.toInt32))] [(.int (1 : Int32))])) t → Steps p.tables e below (s₁.setTop (entryFrame m #[(.int P0)] maxLocals)) t := fun t kt => pre0 t (by
      show Steps p.tables e below (s₁.setTop (mkF m 0 #[.val (.int P0), .unset, .unset] [])) _
      refine XS.iloadN X0.here hx rfl (hb hby at_0) rfl ?_
      show Steps p.tables e below (s₁.setTop (mkF m 1 #[.val (.int P0), .unset, .unset] [(.int P0)])) _
      refine X0.ldcInt hx hown (mvT hZ (hw _ (List.mem_of_getElem? (i := 0) rfl))) (g := (mkF m 1 #[.val (.int P0), .unset, .unset] [(.int P0)])) rfl (hb hby at_1) _ ?_
      show Steps p.tables e below (s₁.setTop (mkF m 3 #[.val (.int P0), .unset, .unset] [(.int (65535 : Int32)), (.int P0)])) _
      refine XS.iand X0.here hx rfl (hb hby at_3) rfl ?_
      show Steps p.tables e below (s₁.setTop (mkF m 4 #[.val (.int P0), .unset, .unset] [(.int (P0 &&& (65535 : Int32)))])) _
      refine XS.istoreN X0.here hx rfl (hb hby at_4) rfl (l' := #[.val (.int P0), .val (.int (P0 &&& (65535 : Int32))), .unset]) rfl ?_
      show Steps p.tables e below (s₁.setTop (mkF m 5 #[.val (.int P0), .val (.int (P0 &&& (65535 : Int32))), .unset] [])) _
      refine XS.iloadN X0.here hx rfl (hb hby at_5) rfl ?_
      show Steps p.tables e below (s₁.setTop (mkF m 6 #[.val (.int P0), .val (.int (P0 &&& (65535 : Int32))), .unset] [(.int (P0 &&& (65535 : Int32)))])) _
      refine XS.i2c X0.here hx rfl (hb hby at_6) rfl ?_
      show Steps p.tables e below (s₁.setTop (mkF m 7 #[.val (.int P0), .val (.int (P0 &&& (65535 : Int32))), .unset] [(.int ((P0 &&& (65535 : Int32)).toUInt32.toUInt16.toUInt32.toInt32))])) _
      refine XS.istoreN X0.here hx rfl (hb hby at_7) rfl (l' := #[.val (.int P0), .val (.int (P0 &&& (65535 : Int32))), .val (.int ((P0 &&& (65535 : Int32)).toUInt32.toUInt16.toUInt32.toInt32))]) rfl ?_
      show Steps p.tables e below (s₁.setTop (mkF m 8 #[.val (.int P0), .val (.int (P0 &&& (65535 : Int32))), .val (.int ((P0 &&& (65535 : Int32)).toUInt32.toUInt16.toUInt32.toInt32))] [])) _
      refine XS.iloadN X0.here hx rfl (hb hby at_8) rfl ?_
      show Steps p.tables e below (s₁.setTop (mkF m 9 #[.val (.int P0), .val (.int (P0 &&& (65535 : Int32))), .val (.int ((P0 &&& (65535 : Int32)).toUInt32.toUInt16.toUInt32.toInt32))] [(.int ((P0 &&& (65535 : Int32)).toUInt32.toUInt16.toUInt32.toInt32))])) _
      refine st1 _ ?_
      show Steps p.tables e below (T1.setTop (mkF m 12 #[.val (.int P0), .val (.int (P0 &&& (65535 : Int32))), .val (.int ((P0 &&& (65535 : Int32)).toUInt32.toUInt16.toUInt32.toInt32))] [(.int (tf1_0 ((P0 &&& (65535 : Int32)).toUInt32.toUInt16.toUInt32.toInt32)))])) _
      refine XS.iloadN X1.here hx rfl (hb hby at_12) rfl ?_
      show Steps p.tables e below (T1.setTop (mkF m 13 #[.val (.int P0), .val (.int (P0 &&& (65535 : Int32))), .val (.int ((P0 &&& (65535 : Int32)).toUInt32.toUInt16.toUInt32.toInt32))] [(.int (P0 &&& (65535 : Int32))), (.int (tf1_0 ((P0 &&& (65535 : Int32)).toUInt32.toUInt16.toUInt32.toInt32)))])) _
      refine st2 _ ?_
      show Steps p.tables e below (T2.setTop (mkF m 16 #[.val (.int P0), .val (.int (P0 &&& (65535 : Int32))), .val (.int ((P0 &&& (65535 : Int32)).toUInt32.toUInt16.toUInt32.toInt32))] [(.int (tf2_0 (P0 &&& (65535 : Int32)))), (.int (tf1_0 ((P0 &&& (65535 : Int32)).toUInt32.toUInt16.toUInt32.toInt32)))])) _
      refine XS.icmpNo X2.here hx rfl (hb hby at_16) rfl (teq (show (tf1_0 ((P0 &&& (65535 : Int32)).toUInt32.toUInt16.toUInt32.toInt32)) = (tf2_0 (P0 &&& (65535 : Int32))) from (own_same P0))).2 ?_
      show Steps p.tables e below (T2.setTop (mkF m 19 #[.val (.int P0), .val (.int (P0 &&& (65535 : Int32))), .val (.int ((P0 &&& (65535 : Int32)).toUInt32.toUInt16.toUInt32.toInt32))] [])) _
      refine XS.iconst X2.here hx rfl (hb hby at_19) ?_
      show Steps p.tables e below (T2.setTop (mkF m 20 #[.val (.int P0), .val (.int (P0 &&& (65535 : Int32))), .val (.int ((P0 &&& (65535 : Int32)).toUInt32.toUInt16.toUInt32.toInt32))] [(.int (1 : Int32))])) _
      refine XS.goto X2.here hx rfl (pc0 := 20) (pc' := 24) rfl (hb hby at_20) (by decide) (by decide) ?_
      exact kt)
  obtain ⟨fs, hr, hrun, hended, hW, hsame⟩ := X2.leave (v := some (.int (1 : Int32))) (fun h => by rw [Bd.returns] at h; cases h)
  refine ⟨_, _, pre3 _ ?_, hrun, hended, _, _, rfl, ?_, ⟨_, rfl⟩, hW, hsame.mono (by decide) (by decide)⟩
  · show Steps p.tables e below (T2.setTop (mkF m 24 #[.val (.int P0), .val (.int (P0 &&& (65535 : Int32))), .val (.int ((P0 &&& (65535 : Int32)).toUInt32.toUInt16.toUInt32.toInt32))] [(.int (1 : Int32))])) _
    exact retN X2 hx (t := .boolean) Bd.returns (by simp) (hb hby at_24) hr
  · show Q0 Z P0 h0 n0 _ T2.heap _
    rw [K2]
    exact ⟨rfl, N2⟩
set_option maxRecDepth 65536 in
set_option maxHeartbeats 40000000 in
theorem comes_1 {Post : Tables → Env → Array Value → State → Outcome → State → Prop} (hpost : ∀ tb e args s v u, (limb_1_1.after args s (.returned v) u = true ∧ limb_1_2.after args s (.returned v) u = true ∧ True) → FrameEnd s (.returned v) u (Jvm.fieldLocs frame_1_writes args s ++ Jvm.arrayLocs frame_1_arrays args s ++ Jvm.staticLocs frame_1_statics s) 0 0 → Post tb e args s (.returned v) u) :
    ArmFor flags0 classFile x code maxLocals ret World_1 tables_1 room_1 Calls_1 rest_1 Pre_1 Post := by
  intro l hfl _ _ p e ha hc hk s m args below hf hA hF happ hP
  obtain ⟨hcalls, hrest, hpre⟩ := hP
  obtain ⟨-, -, -, hnamed, -, -, -, hat⟩ := (Spec.applies_iff hf).mp happ
  obtain ⟨hg, hn⟩ := and_e (Cond.before_iff.mp (show (Jvm.Cond.and given_1 narrow_1).before args s = true from hpre))
  obtain ⟨gv1, gv2⟩ := and_e hg
  obtain ⟨w0, rfl⟩ : ∃ w0 : Value, args = #[w0] := by
    have hs : args.size = 1 := by simpa [Cond.value, given_1] using gv1
    obtain ⟨L⟩ := args
    match L, hs with
    | [w0], _ => exact ⟨w0, rfl⟩
  have hw := fun d (hd : d ∈ tables_1) => atoms_spec (ws := Jvm.Cond.code x code maxLocals ret :: tables_1) hat d (List.mem_cons_of_mem _ hd)
  have hfit : Fit s := fun {y c} hc i hi => by
    obtain ⟨ha, rfl⟩ := Array.getElem?_eq_some_iff.mp hc
    have q := List.all_eq_true.mp ((Array.all_eq_true_iff_forall_mem.mp hF) _ (Array.getElem_mem ha)) i (List.mem_range.mpr hi)
    simpa [Array.getElem?_eq_getElem hi] using q
  obtain ⟨i0, ei0⟩ := is_v gv2
  obtain rfl : w0 = (.int i0) := Option.some.inj ei0
  obtain ⟨n, o, h1, h2, h3, _, L, rfl, ⟨rfl, N⟩, hq⟩ := rm0 l s _ hw tables_1 i0  s.heap s.heap.size (Nat.le_refl _)  p e ha hc hk s m _ below hf ((Spec.applies_iff_loose hf).mp happ).1 ⟨rfl, State.Warmed39.refl s, rfl⟩ trivial
  refine ⟨n, _, h1, h2, h3, hpost _ _ _ _ _ _ ⟨Cond.after_iff.mpr rfl, Cond.after_iff.mpr (eq_i res_at (Term.int_eval (1)) rfl), trivial⟩ ⟨hq.1, hq.2.1, (hq.2.2.sift fun y hy => Or.inr (N y hy)).mono (by decide) (by decide)⟩⟩
theorem main_1_1 : Claimed_1_1 := comes_1 fun _ _ _ _ _ _ h hF => ⟨h.1, hF⟩
theorem main_1_2 : Claimed_1_2 := comes_1 fun _ _ _ _ _ _ h hF => ⟨h.2.1, hF⟩
end Jvm.Pilot.@@N@@
namespace Jvm.Pilot.@@N@@
open Jvm Jvm.ClassFile Sem Op Lib Jvm.Free Jvm.Stand Jvm.Pilot.@@N@@.Jvm.D
/-! MADE BY PROGRAM (witnessworld.py) out of the Statement's table words and the real class files: 9 classes; the members and pool entries that the words name. The judged class is class 1, her method 2. -/
namespace start1
open Jvm.ClassFile
def u (s : String) : CpInfo := .utf8 (stringToUtf16 s)
/-- a pool by its gaps: so many unusable entries, then the entry; so many at the end -/
def gap : Nat → List CpInfo → List CpInfo
  | 0, r => r
  | n + 1, r => .unusable :: gap n r
def poolList (es : List (Nat × CpInfo)) (last : Nat) : List CpInfo := es.foldr (fun e r => gap e.1 (e.2 :: r)) (gap last [])
def pool (es : List (Nat × CpInfo)) (last : Nat) : Array CpInfo := ⟨poolList es last⟩
def fileOf (pool : Array CpInfo) (this : Nat) (attrs : Array Attribute := #[]) (ms : Array MethodInfo := #[]) (fl : Nat := 33) (sup : Nat := 0) (ifs : Array Nat := #[]) (fds : Array FieldInfo := #[]) : ClassFile where
  minorVersion := 0
  majorVersion := 65
  constantPool := pool
  accessFlags := fl
  thisClass := this
  superClass := sup
  interfaces := ifs
  fields := fds
  methods := ms
  attributes := attrs
def plain (name : String) (sup : Option ClassId) : Class where
  name := name
  kind := .ordinary
  loader := none
  accessFlags := 33
  super := sup
  interfaces := #[]
  cf := none
  fields := #[]
  methods := #[]
  instanceTypes := #[]
  staticTypes := #[]
  resolved := #[]
  callSites := []
  init := .initialized
  statics := none
  mirror := none

def pool0 : Array CpInfo := pool [(5, u "<init>"), (0, u "()V"), (1, .class_ 10), (1, u "java/lang/Object")] 113

def k0m0 : Method := { name := "<init>", desc := "()V", sig := { parameters := [], returnType := none }, accessFlags := 1, code := none }
/-- java/lang/Object -/
def k0 : Class := { plain "java/lang/Object" none with
  accessFlags := 33
  interfaces := #[]
  cf := some (fileOf pool0 8 #[] #[{ accessFlags := 1, nameIndex := 5, descriptorIndex := 6, attributes := #[] }] 33 0 #[] #[])
  fields := #[]
  methods := #[k0m0]
  instanceTypes := #[]
  staticTypes := #[]
  resolved := Array.replicate 124 none
  statics := none }

def pool1 : Array CpInfo := pool [(2, .class_ 4), (1, u "java/lang/Object"), (0, u "<init>"), (0, u "()V"), (0, .class_ 8), (0, u "com/example/kept_reads/keptreads/history/OperationIsElementCharPinLaw"), (0, .long 576284830442979328), (1, .long 576460745995190270), (1, .integer 65535), (0, .methodref 15 16), (0, .class_ 17), (0, .nameAndType 18 19), (0, u "com/example/kept_reads/keptreads/history/Operation"), (0, u "isElementChar"), (0, u "(C)Z"), (0, .methodref 7 21), (0, .nameAndType 22 23), (0, u "expected"), (0, u "(I)Z"), (0, u "LOW_MASK"), (0, u "J"), (1, u "HIGH_MASK"), (3, u "law")] 2

def k1m0 : Method := { name := "<init>", desc := "()V", sig := { parameters := [], returnType := none }, accessFlags := 2, code := none }
def k1c1 : Code := { maxStack := 4, maxLocals := 1, code := method_2_code, exceptionTable := #[], attributes := #[] }
def k1m1 : Method := { name := "expected", desc := "(I)Z", sig := { parameters := [.int], returnType := some .boolean }, accessFlags := 10, code := some k1c1 }
def k1c2 : Code := { maxStack := 2, maxLocals := 3, code := code, exceptionTable := #[], attributes := #[] }
def k1m2 : Method := { name := "law", desc := "(I)Z", sig := { parameters := [.int], returnType := some .boolean }, accessFlags := 9, code := some k1c2 }
/-- com/example/kept_reads/keptreads/history/OperationIsElementCharPinLaw -/
def k1 : Class := { plain "com/example/kept_reads/keptreads/history/OperationIsElementCharPinLaw" (some 0) with
  accessFlags := 49
  interfaces := #[]
  cf := some (fileOf pool1 7 #[] #[{ accessFlags := 2, nameIndex := 5, descriptorIndex := 6, attributes := #[] }, { accessFlags := 10, nameIndex := 22, descriptorIndex := 23, attributes := #[] }, { accessFlags := 9, nameIndex := 31, descriptorIndex := 23, attributes := #[] }] 49 2 #[] #[{ accessFlags := 26, nameIndex := 24, descriptorIndex := 25, attributes := #[] }, { accessFlags := 26, nameIndex := 27, descriptorIndex := 25, attributes := #[] }])
  fields := #[{ name := "LOW_MASK", type := .long, accessFlags := 26, slot := 0, constantValue := 0 }, { name := "HIGH_MASK", type := .long, accessFlags := 26, slot := 1, constantValue := 0 }]
  methods := #[k1m0, k1m1, k1m2]
  instanceTypes := #[]
  staticTypes := #[.long, .long]
  resolved := Array.replicate 34 none
  statics := none }

def pool2 : Array CpInfo := pool [(2, .class_ 4), (1, u "java/lang/Object"), (3, .class_ 10), (1, u "com/example/kept_reads/keptreads/history/Operation"), (0, u "kind"), (0, u "Lcom/example/kept_reads/keptreads/history/Operation$Kind;"), (1, u "transaction"), (6, u "I"), (2, u "sourceTransaction"), (2, u "group"), (2, u "element"), (0, u "Ljava/lang/String;"), (1, .class_ 35), (1, u "com/example/kept_reads/keptreads/history/Operation$Kind"), (100, u "isElementChar"), (0, u "(C)Z"), (0, u "OWN_GROUP")] 66

def k2c0 : Code := { maxStack := 2, maxLocals := 1, code := prog_23_method_9_code, exceptionTable := #[], attributes := #[] }
def k2m0 : Method := { name := "isElementChar", desc := "(C)Z", sig := { parameters := [.char], returnType := some .boolean }, accessFlags := 8, code := some k2c0 }
/-- com/example/kept_reads/keptreads/history/Operation -/
def k2 : Class := { plain "com/example/kept_reads/keptreads/history/Operation" (some 0) with
  accessFlags := 49
  interfaces := #[]
  cf := some (fileOf pool2 8 #[.nestMembers #[33]] #[{ accessFlags := 8, nameIndex := 136, descriptorIndex := 137, attributes := #[] }] 49 2 #[] #[{ accessFlags := 25, nameIndex := 138, descriptorIndex := 21, attributes := #[] }, { accessFlags := 18, nameIndex := 11, descriptorIndex := 12, attributes := #[] }, { accessFlags := 18, nameIndex := 14, descriptorIndex := 21, attributes := #[] }, { accessFlags := 18, nameIndex := 24, descriptorIndex := 21, attributes := #[] }, { accessFlags := 18, nameIndex := 27, descriptorIndex := 21, attributes := #[] }, { accessFlags := 18, nameIndex := 30, descriptorIndex := 31, attributes := #[] }])
  fields := #[{ name := "OWN_GROUP", type := .int, accessFlags := 25, slot := 0, constantValue := 0 }, { name := "kind", type := (.object "com/example/kept_reads/keptreads/history/Operation$Kind"), accessFlags := 18, slot := 0, constantValue := 0 }, { name := "transaction", type := .int, accessFlags := 18, slot := 1, constantValue := 0 }, { name := "sourceTransaction", type := .int, accessFlags := 18, slot := 2, constantValue := 0 }, { name := "group", type := .int, accessFlags := 18, slot := 3, constantValue := 0 }, { name := "element", type := (.object "java/lang/String"), accessFlags := 18, slot := 4, constantValue := 0 }]
  methods := #[k2m0]
  instanceTypes := #[(.object "com/example/kept_reads/keptreads/history/Operation$Kind"), .int, .int, .int, (.object "java/lang/String")]
  staticTypes := #[.int]
  resolved := Array.replicate 205 none
  statics := none }

def pool3 : Array CpInfo := pool [(1, u "java/lang/Cloneable"), (0, .class_ 1), (0, u "java/lang/Object"), (0, .class_ 3)] 3

/-- java/lang/Cloneable -/
def k3 : Class := { plain "java/lang/Cloneable" (some 0) with
  accessFlags := 1537
  interfaces := #[]
  cf := some (fileOf pool3 2 #[] #[] 1537 4 #[] #[])
  fields := #[]
  methods := #[]
  instanceTypes := #[]
  staticTypes := #[]
  resolved := Array.replicate 8 none
  statics := none }

def pool4 : Array CpInfo := pool [(1, u "java/io/Serializable"), (0, .class_ 1), (0, u "java/lang/Object"), (0, .class_ 3)] 3

/-- java/io/Serializable -/
def k4 : Class := { plain "java/io/Serializable" (some 0) with
  accessFlags := 1537
  interfaces := #[]
  cf := some (fileOf pool4 2 #[] #[] 1537 4 #[] #[])
  fields := #[]
  methods := #[]
  instanceTypes := #[]
  staticTypes := #[]
  resolved := Array.replicate 8 none
  statics := none }

/-- the primitive byte -/
def k5 : Class := { plain "byte" none with kind := .primitive 'B', accessFlags := 0x411 }
/-- [B -/
def k6 : Class := { plain "[B" (some 0) with kind := .array 5 .byte, interfaces := #[3, 4], accessFlags := 1041 }

/-- the primitive int -/
def k7 : Class := { plain "int" none with kind := .primitive 'I', accessFlags := 0x411 }
/-- [I -/
def k8 : Class := { plain "[I" (some 0) with kind := .array 7 .int, interfaces := #[3, 4], accessFlags := 1041 }

def heap : Heap := #[]
def classes : Array Class := #[k0, k1, k2, k3, k4, k5, k6, k7, k8]
def interned : List (Array UInt16 × Addr) := []
def slotsUsed : Nat := 0
def theMethod : MethodId := ⟨1, 2⟩
def args0 : Array Value := #[.int 65]
def aboutOver (below : List Frame) : State where
  vm := { classes := classes, interned := interned.toArray }
  heap := heap
  slotsUsed := slotsUsed
  threads := #[{ frames := .invoking theMethod args0 :: below }]
def below0 : List Frame := [.native { method := ⟨0, 0⟩, args := #[] }]
def about1 : State := aboutOver below0
def p0 : Program := .bare "" "" ""
def e0 : Env := launch0.env 0 0 0
theorem w_frames : about1.frames = Frame.invoking theMethod args0 :: below0 := rfl
set_option maxRecDepth 65536 in
theorem w_args : argsFit about1.vm theMethod args0 = true := by decide +kernel
set_option maxRecDepth 65536 in
theorem w_heap : heapFits about1 = true := by decide +kernel
set_option maxRecDepth 65536 in
theorem w_runnable : about1.curStatus? = some .runnable := by decide +kernel
set_option maxRecDepth 65536 in
theorem w_alone : about1.alone = true := by decide +kernel
set_option maxRecDepth 65536 in
theorem w_named : about1.methodNamed? x = some theMethod := by decide +kernel
set_option maxRecDepth 65536 in
theorem w_hears : about1.hears theMethod below0 = true := by decide +kernel
set_option maxRecDepth 65536 in
theorem w_ripe : about1.ripe theMethod args0 below0 = true := by decide +kernel
theorem w_running : about1.status = .running := rfl
set_option maxRecDepth 65536 in
theorem w_room : about1.hasRoom e0.platform room_1 = true :=
  launch0.hasRoom_least _ room_1 (by decide +kernel) (by decide +kernel) (by decide +kernel) (by decide +kernel) (by decide +kernel) (by decide +kernel)
theorem allAtoms_all (ts : List Jvm.Cond) (a : Array Jvm.Value) (st : Jvm.State) : (allAtoms ts).before a st = ts.all (fun c => c.before a st) := by
  induction ts with
  | nil => rfl
  | cons c t ih =>
    show (Jvm.Cond.and c (allAtoms t)).before a st = _
    rw [Jvm.Cond.before_and, ih, List.all_cons]
def words1 : List Jvm.Cond := Jvm.Cond.code x code maxLocals ret :: tables_1
/-- a 'code' word, met by the world's own term for the bytes: nothing is compared byte by byte -/
theorem code_word {y : MethodName} {bytes : ByteArray} {mx : Nat} {rt : Option FieldType} {a : Array Value} {s : State} {m : MethodId} {meth : Method} {c : Code} (h1 : s.methodNamed? y = some m) (h2 : s.vm.method? m = some meth) (h3 : meth.code = some c) (h4 : c.code = bytes)
    (h5 : (c.maxLocals == mx && c.exceptionTable.isEmpty && decide (c.maxStack ≤ mostOperands) && decide (meth.sig.returnType = rt) && !meth.locks && decide (parseMethodDescriptor y.desc = some meth.sig)) = true) : (Jvm.Cond.code y bytes mx rt).before a s = true := by
  simp only [Bool.and_eq_true, beq_iff_eq, Bool.not_eq_true', decide_eq_true_eq] at h5
  obtain ⟨⟨⟨⟨⟨g1, g2⟩, g3⟩, g4⟩, g5⟩, g6⟩ := h5
  simp [Cond.before, Cond.holds, Cond.value, h1, h2, h3, h4, g1, g2, g3, g4, g5, g6]
def isCode : Jvm.Cond → Bool
  | .code _ _ _ _ => true
  | _ => false
theorem all_split {L : List Jvm.Cond} {P : Jvm.Cond → Bool} (h1 : L.all (fun c => isCode c || P c) = true) (h2 : ∀ c ∈ L.filter isCode, P c = true) : L.all P = true := by
  refine List.all_eq_true.mpr fun c hc => ?_
  have h := List.all_eq_true.mp h1 c hc
  rcases Bool.eq_false_or_eq_true (isCode c) with hi | hi
  · exact h2 c (List.mem_filter.mpr ⟨hc, hi⟩)
  · simpa [hi] using h
set_option maxRecDepth 65536 in
theorem w_c0 : (Jvm.Cond.code x code maxLocals ret).before args0 about1 = true := code_word (m := ⟨1, 2⟩) (meth := k1m2) (c := k1c2) (by decide +kernel) rfl rfl rfl (by decide +kernel)
set_option maxRecDepth 65536 in
theorem w_c1 : (Jvm.Cond.code ({ cls := "com/example/kept_reads/keptreads/history/Operation", name := "isElementChar", desc := "(C)Z" } : Jvm.MethodName) prog_23_method_9_code (1 : Nat) (Option.some Jvm.ClassFile.FieldType.boolean)).before args0 about1 = true := code_word (m := ⟨2, 0⟩) (meth := k2m0) (c := k2c0) (by decide +kernel) rfl rfl rfl (by decide +kernel)
set_option maxRecDepth 65536 in
theorem w_c2 : (Jvm.Cond.code ({ cls := "com/example/kept_reads/keptreads/history/OperationIsElementCharPinLaw", name := "expected", desc := "(I)Z" } : Jvm.MethodName) method_2_code (1 : Nat) (Option.some Jvm.ClassFile.FieldType.boolean)).before args0 about1 = true := code_word (m := ⟨1, 1⟩) (meth := k1m1) (c := k1c1) (by decide +kernel) rfl rfl rfl (by decide +kernel)
def codes1 : List Jvm.Cond := [Jvm.Cond.code x code maxLocals ret, Jvm.Cond.code ({ cls := "com/example/kept_reads/keptreads/history/Operation", name := "isElementChar", desc := "(C)Z" } : Jvm.MethodName) prog_23_method_9_code (1 : Nat) (Option.some Jvm.ClassFile.FieldType.boolean), Jvm.Cond.code ({ cls := "com/example/kept_reads/keptreads/history/OperationIsElementCharPinLaw", name := "expected", desc := "(I)Z" } : Jvm.MethodName) method_2_code (1 : Nat) (Option.some Jvm.ClassFile.FieldType.boolean)]
set_option maxRecDepth 65536 in
theorem codes_eq : words1.filter isCode = codes1 := rfl
theorem w_codes : ∀ c ∈ words1.filter isCode, c.before args0 about1 = true := by
  rw [codes_eq]
  intro c hc
  simp only [codes1, List.mem_cons, List.not_mem_nil, or_false] at hc
  rcases hc with rfl | rfl | rfl
  · exact w_c0
  · exact w_c1
  · exact w_c2
set_option maxRecDepth 65536 in
theorem w_t1 : words1.all (fun c => isCode c || c.before args0 about1) = true := by decide +kernel
theorem w_tables : (allAtoms (Jvm.Cond.code x code maxLocals ret :: tables_1)).before args0 about1 = true := by
  rw [allAtoms_all]
  show words1.all (fun c => c.before args0 about1) = true
  refine all_split ?_ w_codes
  rw [w_t1]
set_option maxRecDepth 65536 in
theorem w_case : (Jvm.Cond.and given_1 narrow_1).before args0 about1 = true := by decide +kernel
theorem w_applies : (headSpec (Jvm.Cond.code x code maxLocals ret :: tables_1) room_1).applies x e0.platform about1 = true :=
  (Spec.applies_iff w_frames).mpr ⟨w_running, w_runnable, w_alone, w_named, w_hears, w_ripe, w_room, w_tables⟩
theorem atStart : AtStart classFile x code maxLocals ret World_1 tables_1 room_1 Calls_1 rest_1 Pre_1 launch0 p0 e0 about1 theMethod args0 below0 :=
  ⟨lists_1, trivial, launch0.admits_env _ _ _, launch0.least_env, fairChoices_fair.cas, fairChoices_fair.clock, w_frames, w_args, w_heap, w_applies, trivial, trivial, w_case⟩
end start1
theorem witness_1 : WitnessClaimed_1 := ⟨start1.p0, start1.e0, start1.about1, start1.theMethod, start1.args0, start1.below0, start1.atStart⟩
end Jvm.Pilot.@@N@@
