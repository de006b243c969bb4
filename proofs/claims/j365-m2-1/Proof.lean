import JvmDerived
import JvmDerived.Pilot.@@N@@Statement
import JvmDerived.Pilot.@@N@@Code
set_option linter.unusedVariables false
set_option linter.unusedSimpArgs false
namespace Jvm.RoadKit
open Sem ClassFile Op Lib Jvm.Stand Jvm.Free Jvm.LawKit
section New
variable {p : Program} {l : Launch} {e : Env} {R : Room} {s : State} {m : MethodId} {args : Array Value} {below : List Frame} {meth : Method} {c : Code} {T : State} {locs : List Loc} {cells slots : Nat}
theorem retI (X : Stand p l e R s m args below meth c T locs cells slots) (hx : p.tables.exec = Jvm.exec) {pc : Nat} {Ls : Array Slot} {z : Int32} {rest : List Value} (hret : meth.sig.returnType = some .int) (hd : decode c.code pc = .ok (.ireturn, 1)) {fs : List Frame}
    (hl : ∀ (f : JFrame) (acts : List Action), f.method = m → f.locked = none → f.entered = [] → (doReturn e (T.setTop f) acts (some (.int z))).1 = T.setFrames fs) : Steps p.tables e below (T.setTop (mkF m pc Ls (.int z :: rest))) (T.setFrames fs) := by
  have hm' : T.vm.method? m = some meth := X.method'
  have hn : narrow .int (.int z) = .int z := rfl
  show Steps p.tables e below (T.setTop { method := m, pc := pc, locals := Ls, stack := _ :: rest, locked := none }) _
  jvm_step X.here [X.here.top, hx, hd, hm', hret, hn]
  first | (intro acts; rw [hl _ acts rfl rfl rfl]) | rw [hl _ _ rfl rfl rfl]
  exact Steps.refl _
end New
end Jvm.RoadKit
namespace Jvm.Pilot.@@N@@
open Jvm Jvm.ClassFile Sem Op Lib Jvm.Free Jvm.Stand Jvm.LawKit Jvm.RoadKit Bundle Jvm.Pilot.@@N@@.Jvm.D
def own_mix (z0 : Int64) : Int64 :=
  let z1 := (z0 ^^^ ((z0.toUInt64 >>> ((30 : Int32) &&& 0x3f).toInt64.toUInt64).toInt64)) * (-4658895280553007687 : Int64)
  let z2 := (z1 ^^^ ((z1.toUInt64 >>> ((27 : Int32) &&& 0x3f).toInt64.toUInt64).toInt64)) * (-7723592293110705685 : Int64)
  z2 ^^^ ((z2.toUInt64 >>> ((31 : Int32) &&& 0x3f).toInt64.toUInt64).toInt64)
theorem own_far (s i : Int64) : own_mix (s + ((i + (1 : Int64)) * (-7046029254386353131 : Int64))) = own_mix ((s + (i * (-7046029254386353131 : Int64))) + (-7046029254386353131 : Int64)) := by
  rw [Int64.add_mul, Int64.one_mul, Int64.add_assoc]
theorem own_and3 (x : Int32) : (x &&& (3 : Int32)) = 0 ∨ (x &&& (3 : Int32)) = 1 ∨ (x &&& (3 : Int32)) = 2 ∨ (x &&& (3 : Int32)) = 3 := by
  have h := c_and x 3 (by decide)
  have e : ∀ k : Int32, (x &&& (3 : Int32)).toInt = k.toInt → (x &&& (3 : Int32)) = k := fun k q => Int32.toInt_inj.mp q
  have h3 : (3 : Int32).toInt = 3 := rfl
  have : (x &&& (3 : Int32)).toInt = 0 ∨ (x &&& (3 : Int32)).toInt = 1 ∨ (x &&& (3 : Int32)).toInt = 2 ∨ (x &&& (3 : Int32)).toInt = 3 := by omega
  rcases this with q | q | q | q
  · exact Or.inl (e 0 q)
  · exact Or.inr (Or.inl (e 1 q))
  · exact Or.inr (Or.inr (Or.inl (e 2 q)))
  · exact Or.inr (Or.inr (Or.inr (e 3 q)))
def own_sel (v0 v1 v2 v3 : Int64) (j : Int32) : Int64 := if j = 0 then v0 else if j = 1 then v1 else if j = 2 then v2 else v3
theorem own_near (s : Int64) (j : Int32) (h : j = 0 ∨ j = 1 ∨ j = 2 ∨ j = 3) : own_mix (s + ((j.toInt64 + (1 : Int64)) * (-7046029254386353131 : Int64))) = own_sel (own_mix (s + (-7046029254386353131 : Int64))) (own_mix ((s + (-7046029254386353131 : Int64)) + (-7046029254386353131 : Int64))) (own_mix (((s + (-7046029254386353131 : Int64)) + (-7046029254386353131 : Int64)) + (-7046029254386353131 : Int64))) (own_mix ((((s + (-7046029254386353131 : Int64)) + (-7046029254386353131 : Int64)) + (-7046029254386353131 : Int64)) + (-7046029254386353131 : Int64))) j := by
  rcases h with rfl | rfl | rfl | rfl
  · show own_mix _ = own_mix _
    congr 1
  · show own_mix _ = own_mix _
    rw [Int64.add_assoc]; congr 1
  · show own_mix _ = own_mix _
    rw [Int64.add_assoc, Int64.add_assoc]; congr 1
  · show own_mix _ = own_mix _
    rw [Int64.add_assoc, Int64.add_assoc, Int64.add_assoc]; congr 1
theorem own_get (v0 v1 v2 v3 : Int64) (j : Int32) (h : j = 0 ∨ j = 1 ∨ j = 2 ∨ j = 3) (d : Value) : [Value.long v0, Value.long v1, Value.long v2, Value.long v3].getD j.toNatClampNeg d = .long (own_sel v0 v1 v2 v3 j) := by
  rcases h with rfl | rfl | rfl | rfl <;> rfl
theorem own_in (j : Int32) (h : j = 0 ∨ j = 1 ∨ j = 2 ∨ j = 3) : ¬ j < 0 ∧ j < (4 : Int32) := by
  rcases h with rfl | rfl | rfl | rfl <;> decide
theorem d1_0 : decode prog_39_method_1_code 0 = .ok (.aload_n 0, 1) := by decide +kernel
theorem d1_1 : decode prog_39_method_1_code 1 = .ok (.invokespecial 1, 3) := by decide +kernel
theorem d1_4 : decode prog_39_method_1_code 4 = .ok (.aload_n 0, 1) := by decide +kernel
theorem d1_5 : decode prog_39_method_1_code 5 = .ok (.lload_n 1, 1) := by decide +kernel
theorem d1_6 : decode prog_39_method_1_code 6 = .ok (.putfield 7, 3) := by decide +kernel
theorem d1_9 : decode prog_39_method_1_code 9 = .ok (.return_, 1) := by decide +kernel
theorem pn_1 : plainName "com/example/wedgewise/wedgewise/SeededRandom" = true := by first | (simp [plainName, overriddenIn]; done) | decide +kernel
theorem ef_1 (m : MethodId) (A0 : Addr) (P1 : Int64) : entryFrame m #[(.ref A0), (.long P1)] 3 = mkF m 0 #[.val (.ref A0), .val (.long P1), .second] [] := by first | (simp [entryFrame, mkF, argsToLocals, Value.category]; done) | rfl
def Q1 (Z : State) (A0 : Addr) (P1 : Int64) (W0 : Int64) (h0 : Heap) (n0 : Nat) (v : Option Value) (h : Heap) (L : List Loc) : Prop := (v = none) ∧ (Fr n0 L) ∧ (Keep h0 h [A0]) ∧ (Exa Z h A0 "com/example/wedgewise/wedgewise/SeededRandom") ∧ (Fld Z h A0 "com/example/wedgewise/wedgewise/SeededRandom" "state" "J" (.long P1))
set_option maxRecDepth 65536 in
set_option maxHeartbeats 40000000 in
theorem rm1 (l : Launch) (Z : State) (a0 : Array Value) (hw : ∀ d ∈ tables_1, d.before a0 Z = true) (ws : List Jvm.Cond) (A0 : Addr) (P1 : Int64) (W0 : Int64) (h0 : Heap) (n0 : Nat) (Z0 : n0 ≤ h0.size) (pm0 : Fld Z h0 A0 "com/example/wedgewise/wedgewise/SeededRandom" "state" "J" (.long W0)) (pm1 : Exa Z h0 A0 "com/example/wedgewise/wedgewise/SeededRandom") (g_A0 : n0 ≤ A0) :
    MetFree l (⟨"com/example/wedgewise/wedgewise/SeededRandom", "<init>", "(J)V"⟩ : MethodName) (head1 (Jvm.Cond.code (⟨"com/example/wedgewise/wedgewise/SeededRandom", "<init>", "(J)V"⟩ : MethodName) prog_39_method_1_code 3 none :: ws) ({ frames := 1, cells := 0, slots := 0, locals := 12 } : Room)) (fun a U => a = #[(.ref A0), (.long P1)] ∧ Z.Warmed39 U.vm ∧ U.heap = h0) (fun _ _ _ _ _ => True) (fun _ U o U' => ∃ v L, o = .returned v ∧ Q1 Z A0 P1 W0 h0 n0 v U'.heap L ∧ FrameEnd U o U' L ({ frames := 1, cells := 0, slots := 0, locals := 12 } : Room).cells ({ frames := 1, cells := 0, slots := 0, locals := 12 } : Room).slots) := by
  refine MetFree.of_bodySF (plainFor_of_name pn_1) hisR ?_
  intro p e s m args below meth c s₁ Bd hml0 hP hK
  obtain ⟨rfl, hZ, hh⟩ := hP
  have hx := Bd.exec
  have hby := Bd.bytes
  have hml : c.maxLocals = 3 := hml0
  have hown : s.vm.findClass "com/example/wedgewise/wedgewise/SeededRandom" = some m.cls := findClass_of_methodNamed Bd.named
  have hnm := (name_of_methodNamed Bd.named Bd.method).1
  have X0 : Stand p l e ({ frames := 1, cells := 0, slots := 0, locals := 12 } : Room) s m #[(.ref A0), (.long P1)] below meth c s₁ [] 0 0 := Stand.of_body Bd
  have e0 : s₁.heap = h0 := by rw [← hh, Bd.state]; rfl
  have N0 := Fr.nil n0
  have pre0 : ∀ t, Steps p.tables e below (s₁.setTop (mkF m 0 #[.val (.ref A0), .val (.long P1), .second] [])) t → Steps p.tables e below (s₁.setTop (entryFrame m #[(.ref A0), (.long P1)] 3)) t := fun t k => castTop (ef_1 m A0 P1) k
  have K_0 : Keep h0 h0 [A0] := Keep.refl h0 _
  obtain ⟨T1, X1, e1, st1⟩ := initO X0 hx hZ hown (hw _ (List.mem_of_getElem? (i := 7) rfl)) (hw _ (List.mem_of_getElem? (i := 8) rfl)) (hw _ (List.mem_of_getElem? (i := 9) rfl)) e0 (g := (mkF m 1 #[.val (.ref A0), .val (.long P1), .second] [(.ref A0)])) rfl (by rw [hml]; rfl) rfl (hb hby d1_1) (by decide) (W := 0) (by show 2 * 0 + _ ≤ _; exact Nat.le_of_eq rfl) (by decide)
  obtain ⟨T2, h2, X2, e2, W2, st2⟩ := putF X1 hx hZ hown (host := "") (Or.inl (hw _ (List.mem_of_getElem? (i := 10) rfl))) Via.refl e1 pm0 pm1 (Or.inl (hw _ (List.mem_of_getElem? (i := 11) rfl))) (hw _ (List.mem_of_getElem? (i := 2) rfl)) (ty := .long) (by decide) rfl rfl (g := (mkF m 6 #[.val (.ref A0), .val (.long P1), .second] [(.long P1), (.ref A0)])) rfl rfl (hb hby d1_6)
  have Z3 : n0 ≤ h2.size := Nat.le_trans Z0 (Nat.le_of_eq W2.size.symm)
  have K_3 : Keep h0 h2 [A0] := K_0.wr W2 (Or.inl (List.mem_of_getElem? (i := 0) rfl))
  have Fw2 : Fld Z h2 A0 "com/example/wedgewise/wedgewise/SeededRandom" "state" "J" (.long P1) := pm0.same W2
  have N2 := Fr.snoc X2 N0 g_A0
  have pre4 : ∀ t, Steps p.tables e below (T2.setTop (mkF m 9 #[.val (.ref A0), .val (.long P1), .second] [])) t → Steps p.tables e below (s₁.setTop (entryFrame m #[(.ref A0), (.long P1)] 3)) t := fun t kt => pre0 t (by
      show Steps p.tables e below (s₁.setTop (mkF m 0 #[.val (.ref A0), .val (.long P1), .second] [])) _
      refine XS.aloadN X0.here hx rfl (hb hby d1_0) rfl rfl ?_
      show Steps p.tables e below (s₁.setTop (mkF m 1 #[.val (.ref A0), .val (.long P1), .second] [(.ref A0)])) _
      refine st1 _ ?_
      show Steps p.tables e below (T1.setTop (mkF m 4 #[.val (.ref A0), .val (.long P1), .second] [])) _
      refine XS.aloadN X1.here hx rfl (hb hby d1_4) rfl rfl ?_
      show Steps p.tables e below (T1.setTop (mkF m 5 #[.val (.ref A0), .val (.long P1), .second] [(.ref A0)])) _
      refine XS.lloadN X1.here hx rfl (hb hby d1_5) rfl ?_
      show Steps p.tables e below (T1.setTop (mkF m 6 #[.val (.ref A0), .val (.long P1), .second] [(.long P1), (.ref A0)])) _
      refine st2 _ ?_
      exact kt)
  have c5 : Exa Z h2 A0 "com/example/wedgewise/wedgewise/SeededRandom" := (pm1.wr W2)
  obtain ⟨fs, hr, hrun, hended, hW, hsame⟩ := X2.leave (v := none) (fun _ => rfl)
  refine ⟨_, _, pre4 _ ?_, hrun, hended, _, _, rfl, ?_, ⟨_, rfl⟩, hW, hsame.mono (by decide) (by decide)⟩
  · show Steps p.tables e below (T2.setTop (mkF m 9 #[.val (.ref A0), .val (.long P1), .second] [])) _
    exact X2.returnOut hx Bd.returns (hb hby d1_9) hr
  · show Q1 Z A0 P1 W0 h0 n0 _ T2.heap _
    rw [e2]
    exact ⟨rfl, N2, K_3, c5, Fw2⟩
theorem d4_0 : decode prog_39_method_4_code 0 = .ok (.lload_n 0, 1) := by decide +kernel
theorem d4_1 : decode prog_39_method_4_code 1 = .ok (.lstore_n 2, 1) := by decide +kernel
theorem d4_2 : decode prog_39_method_4_code 2 = .ok (.lload_n 2, 1) := by decide +kernel
theorem d4_3 : decode prog_39_method_4_code 3 = .ok (.lload_n 2, 1) := by decide +kernel
theorem d4_4 : decode prog_39_method_4_code 4 = .ok (.bipush 30, 2) := by decide +kernel
theorem d4_6 : decode prog_39_method_4_code 6 = .ok (.lushr, 1) := by decide +kernel
theorem d4_7 : decode prog_39_method_4_code 7 = .ok (.lxor, 1) := by decide +kernel
theorem d4_8 : decode prog_39_method_4_code 8 = .ok (.ldc2_w 19, 3) := by decide +kernel
theorem d4_11 : decode prog_39_method_4_code 11 = .ok (.lmul, 1) := by decide +kernel
theorem d4_12 : decode prog_39_method_4_code 12 = .ok (.lstore_n 2, 1) := by decide +kernel
theorem d4_13 : decode prog_39_method_4_code 13 = .ok (.lload_n 2, 1) := by decide +kernel
theorem d4_14 : decode prog_39_method_4_code 14 = .ok (.lload_n 2, 1) := by decide +kernel
theorem d4_15 : decode prog_39_method_4_code 15 = .ok (.bipush 27, 2) := by decide +kernel
theorem d4_17 : decode prog_39_method_4_code 17 = .ok (.lushr, 1) := by decide +kernel
theorem d4_18 : decode prog_39_method_4_code 18 = .ok (.lxor, 1) := by decide +kernel
theorem d4_19 : decode prog_39_method_4_code 19 = .ok (.ldc2_w 21, 3) := by decide +kernel
theorem d4_22 : decode prog_39_method_4_code 22 = .ok (.lmul, 1) := by decide +kernel
theorem d4_23 : decode prog_39_method_4_code 23 = .ok (.lstore_n 2, 1) := by decide +kernel
theorem d4_24 : decode prog_39_method_4_code 24 = .ok (.lload_n 2, 1) := by decide +kernel
theorem d4_25 : decode prog_39_method_4_code 25 = .ok (.lload_n 2, 1) := by decide +kernel
theorem d4_26 : decode prog_39_method_4_code 26 = .ok (.bipush 31, 2) := by decide +kernel
theorem d4_28 : decode prog_39_method_4_code 28 = .ok (.lushr, 1) := by decide +kernel
theorem d4_29 : decode prog_39_method_4_code 29 = .ok (.lxor, 1) := by decide +kernel
theorem d4_30 : decode prog_39_method_4_code 30 = .ok (.lreturn, 1) := by decide +kernel
theorem pn_4 : plainName "com/example/wedgewise/wedgewise/SeededRandom" = true := by first | (simp [plainName, overriddenIn]; done) | decide +kernel
theorem ef_4 (m : MethodId) (P0 : Int64) : entryFrame m #[(.long P0)] 4 = mkF m 0 #[.val (.long P0), .second, .unset, .unset] [] := by first | (simp [entryFrame, mkF, argsToLocals, Value.category]; done) | rfl
def Q4 (Z : State) (P0 : Int64) (h0 : Heap) (n0 : Nat) (v : Option Value) (h : Heap) (L : List Loc) : Prop := (v = some (.long (own_mix P0))) ∧ (Fr n0 L) ∧ (h = h0)
set_option maxRecDepth 65536 in
set_option maxHeartbeats 40000000 in
theorem rm4 (l : Launch) (Z : State) (a0 : Array Value) (hw : ∀ d ∈ tables_1, d.before a0 Z = true) (ws : List Jvm.Cond) (P0 : Int64) (h0 : Heap) (n0 : Nat) (Z0 : n0 ≤ h0.size) :
    MetFree l (⟨"com/example/wedgewise/wedgewise/SeededRandom", "mix", "(J)J"⟩ : MethodName) (head1 (Jvm.Cond.code (⟨"com/example/wedgewise/wedgewise/SeededRandom", "mix", "(J)J"⟩ : MethodName) prog_39_method_4_code 4 (some .long) :: ws) ({ frames := 0, cells := 0, slots := 0, locals := 0 } : Room)) (fun a U => a = #[(.long P0)] ∧ Z.Warmed39 U.vm ∧ U.heap = h0) (fun _ _ _ _ _ => True) (fun _ U o U' => ∃ v L, o = .returned v ∧ Q4 Z P0 h0 n0 v U'.heap L ∧ FrameEnd U o U' L ({ frames := 0, cells := 0, slots := 0, locals := 0 } : Room).cells ({ frames := 0, cells := 0, slots := 0, locals := 0 } : Room).slots) := by
  refine MetFree.of_bodySF (plainFor_of_name pn_4) hisR ?_
  intro p e s m args below meth c s₁ Bd hml0 hP hK
  obtain ⟨rfl, hZ, hh⟩ := hP
  have hx := Bd.exec
  have hby := Bd.bytes
  have hml : c.maxLocals = 4 := hml0
  have hown : s.vm.findClass "com/example/wedgewise/wedgewise/SeededRandom" = some m.cls := findClass_of_methodNamed Bd.named
  have hnm := (name_of_methodNamed Bd.named Bd.method).1
  have X0 : Stand p l e ({ frames := 0, cells := 0, slots := 0, locals := 0 } : Room) s m #[(.long P0)] below meth c s₁ [] 0 0 := Stand.of_body Bd
  have e0 : s₁.heap = h0 := by rw [← hh, Bd.state]; rfl
  have N0 := Fr.nil n0
  have pre0 : ∀ t, Steps p.tables e below (s₁.setTop (mkF m 0 #[.val (.long P0), .second, .unset, .unset] [])) t → Steps p.tables e below (s₁.setTop (entryFrame m #[(.long P0)] 4)) t := fun t k => castTop (ef_4 m P0) k
  have pre1 : ∀ t, Steps p.tables e below (s₁.setTop (mkF m 30 #[.val (.long P0), .second, .val (.long ((((P0 ^^^ ((P0.toUInt64 >>> ((30 : Int32) &&& 0x3f).toInt64.toUInt64).toInt64)) * (-4658895280553007687 : Int64)) ^^^ ((((P0 ^^^ ((P0.toUInt64 >>> ((30 : Int32) &&& 0x3f).toInt64.toUInt64).toInt64)) * (-4658895280553007687 : Int64)).toUInt64 >>> ((27 : Int32) &&& 0x3f).toInt64.toUInt64).toInt64)) * (-7723592293110705685 : Int64))), .second] [(.long (((((P0 ^^^ ((P0.toUInt64 >>> ((30 : Int32) &&& 0x3f).toInt64.toUInt64).toInt64)) * (-4658895280553007687 : Int64)) ^^^ ((((P0 ^^^ ((P0.toUInt64 >>> ((30 : Int32) &&& 0x3f).toInt64.toUInt64).toInt64)) * (-4658895280553007687 : Int64)).toUInt64 >>> ((27 : Int32) &&& 0x3f).toInt64.toUInt64).toInt64)) * (-7723592293110705685 : Int64)) ^^^ ((((((P0 ^^^ ((P0.toUInt64 >>> ((30 : Int32) &&& 0x3f).toInt64.toUInt64).toInt64)) * (-4658895280553007687 : Int64)) ^^^ ((((P0 ^^^ ((P0.toUInt64 >>> ((30 : Int32) &&& 0x3f).toInt64.toUInt64).toInt64)) * (-4658895280553007687 : Int64)).toUInt64 >>> ((27 : Int32) &&& 0x3f).toInt64.toUInt64).toInt64)) * (-7723592293110705685 : Int64)).toUInt64 >>> ((31 : Int32) &&& 0x3f).toInt64.toUInt64).toInt64)))])) t → Steps p.tables e below (s₁.setTop (entryFrame m #[(.long P0)] 4)) t := fun t kt => pre0 t (by
      show Steps p.tables e below (s₁.setTop (mkF m 0 #[.val (.long P0), .second, .unset, .unset] [])) _
      refine XS.lloadN X0.here hx rfl (hb hby d4_0) rfl ?_
      show Steps p.tables e below (s₁.setTop (mkF m 1 #[.val (.long P0), .second, .unset, .unset] [(.long P0)])) _
      refine XS.lstoreN X0.here hx rfl (hb hby d4_1) rfl (l' := #[.val (.long P0), .second, .val (.long P0), .second]) rfl ?_
      show Steps p.tables e below (s₁.setTop (mkF m 2 #[.val (.long P0), .second, .val (.long P0), .second] [])) _
      refine XS.lloadN X0.here hx rfl (hb hby d4_2) rfl ?_
      show Steps p.tables e below (s₁.setTop (mkF m 3 #[.val (.long P0), .second, .val (.long P0), .second] [(.long P0)])) _
      refine XS.lloadN X0.here hx rfl (hb hby d4_3) rfl ?_
      show Steps p.tables e below (s₁.setTop (mkF m 4 #[.val (.long P0), .second, .val (.long P0), .second] [(.long P0), (.long P0)])) _
      refine XS.bipush X0.here hx rfl (hb hby d4_4) ?_
      show Steps p.tables e below (s₁.setTop (mkF m 6 #[.val (.long P0), .second, .val (.long P0), .second] [(.int (30 : Int32)), (.long P0), (.long P0)])) _
      refine XS.lushr X0.here hx rfl (hb hby d4_6) rfl ?_
      show Steps p.tables e below (s₁.setTop (mkF m 7 #[.val (.long P0), .second, .val (.long P0), .second] [(.long ((P0.toUInt64 >>> ((30 : Int32) &&& 0x3f).toInt64.toUInt64).toInt64)), (.long P0)])) _
      refine XS.lxor X0.here hx rfl (hb hby d4_7) rfl ?_
      show Steps p.tables e below (s₁.setTop (mkF m 8 #[.val (.long P0), .second, .val (.long P0), .second] [(.long (P0 ^^^ ((P0.toUInt64 >>> ((30 : Int32) &&& 0x3f).toInt64.toUInt64).toInt64)))])) _
      refine X0.ldc2Long hx hown (mvT hZ (hw _ (List.mem_of_getElem? (i := 21) rfl))) (g := (mkF m 8 #[.val (.long P0), .second, .val (.long P0), .second] [(.long (P0 ^^^ ((P0.toUInt64 >>> ((30 : Int32) &&& 0x3f).toInt64.toUInt64).toInt64)))])) rfl (hb hby d4_8) _ ?_
      show Steps p.tables e below (s₁.setTop (mkF m 11 #[.val (.long P0), .second, .val (.long P0), .second] [(.long (-4658895280553007687 : Int64)), (.long (P0 ^^^ ((P0.toUInt64 >>> ((30 : Int32) &&& 0x3f).toInt64.toUInt64).toInt64)))])) _
      refine XS.lmul X0.here hx rfl (hb hby d4_11) rfl ?_
      show Steps p.tables e below (s₁.setTop (mkF m 12 #[.val (.long P0), .second, .val (.long P0), .second] [(.long ((P0 ^^^ ((P0.toUInt64 >>> ((30 : Int32) &&& 0x3f).toInt64.toUInt64).toInt64)) * (-4658895280553007687 : Int64)))])) _
      refine XS.lstoreN X0.here hx rfl (hb hby d4_12) rfl (l' := #[.val (.long P0), .second, .val (.long ((P0 ^^^ ((P0.toUInt64 >>> ((30 : Int32) &&& 0x3f).toInt64.toUInt64).toInt64)) * (-4658895280553007687 : Int64))), .second]) rfl ?_
      show Steps p.tables e below (s₁.setTop (mkF m 13 #[.val (.long P0), .second, .val (.long ((P0 ^^^ ((P0.toUInt64 >>> ((30 : Int32) &&& 0x3f).toInt64.toUInt64).toInt64)) * (-4658895280553007687 : Int64))), .second] [])) _
      refine XS.lloadN X0.here hx rfl (hb hby d4_13) rfl ?_
      show Steps p.tables e below (s₁.setTop (mkF m 14 #[.val (.long P0), .second, .val (.long ((P0 ^^^ ((P0.toUInt64 >>> ((30 : Int32) &&& 0x3f).toInt64.toUInt64).toInt64)) * (-4658895280553007687 : Int64))), .second] [(.long ((P0 ^^^ ((P0.toUInt64 >>> ((30 : Int32) &&& 0x3f).toInt64.toUInt64).toInt64)) * (-4658895280553007687 : Int64)))])) _
      refine XS.lloadN X0.here hx rfl (hb hby d4_14) rfl ?_
      show Steps p.tables e below (s₁.setTop (mkF m 15 #[.val (.long P0), .second, .val (.long ((P0 ^^^ ((P0.toUInt64 >>> ((30 : Int32) &&& 0x3f).toInt64.toUInt64).toInt64)) * (-4658895280553007687 : Int64))), .second] [(.long ((P0 ^^^ ((P0.toUInt64 >>> ((30 : Int32) &&& 0x3f).toInt64.toUInt64).toInt64)) * (-4658895280553007687 : Int64))), (.long ((P0 ^^^ ((P0.toUInt64 >>> ((30 : Int32) &&& 0x3f).toInt64.toUInt64).toInt64)) * (-4658895280553007687 : Int64)))])) _
      refine XS.bipush X0.here hx rfl (hb hby d4_15) ?_
      show Steps p.tables e below (s₁.setTop (mkF m 17 #[.val (.long P0), .second, .val (.long ((P0 ^^^ ((P0.toUInt64 >>> ((30 : Int32) &&& 0x3f).toInt64.toUInt64).toInt64)) * (-4658895280553007687 : Int64))), .second] [(.int (27 : Int32)), (.long ((P0 ^^^ ((P0.toUInt64 >>> ((30 : Int32) &&& 0x3f).toInt64.toUInt64).toInt64)) * (-4658895280553007687 : Int64))), (.long ((P0 ^^^ ((P0.toUInt64 >>> ((30 : Int32) &&& 0x3f).toInt64.toUInt64).toInt64)) * (-4658895280553007687 : Int64)))])) _
      refine XS.lushr X0.here hx rfl (hb hby d4_17) rfl ?_
      show Steps p.tables e below (s₁.setTop (mkF m 18 #[.val (.long P0), .second, .val (.long ((P0 ^^^ ((P0.toUInt64 >>> ((30 : Int32) &&& 0x3f).toInt64.toUInt64).toInt64)) * (-4658895280553007687 : Int64))), .second] [(.long ((((P0 ^^^ ((P0.toUInt64 >>> ((30 : Int32) &&& 0x3f).toInt64.toUInt64).toInt64)) * (-4658895280553007687 : Int64)).toUInt64 >>> ((27 : Int32) &&& 0x3f).toInt64.toUInt64).toInt64)), (.long ((P0 ^^^ ((P0.toUInt64 >>> ((30 : Int32) &&& 0x3f).toInt64.toUInt64).toInt64)) * (-4658895280553007687 : Int64)))])) _
      refine XS.lxor X0.here hx rfl (hb hby d4_18) rfl ?_
      show Steps p.tables e below (s₁.setTop (mkF m 19 #[.val (.long P0), .second, .val (.long ((P0 ^^^ ((P0.toUInt64 >>> ((30 : Int32) &&& 0x3f).toInt64.toUInt64).toInt64)) * (-4658895280553007687 : Int64))), .second] [(.long (((P0 ^^^ ((P0.toUInt64 >>> ((30 : Int32) &&& 0x3f).toInt64.toUInt64).toInt64)) * (-4658895280553007687 : Int64)) ^^^ ((((P0 ^^^ ((P0.toUInt64 >>> ((30 : Int32) &&& 0x3f).toInt64.toUInt64).toInt64)) * (-4658895280553007687 : Int64)).toUInt64 >>> ((27 : Int32) &&& 0x3f).toInt64.toUInt64).toInt64)))])) _
      refine X0.ldc2Long hx hown (mvT hZ (hw _ (List.mem_of_getElem? (i := 22) rfl))) (g := (mkF m 19 #[.val (.long P0), .second, .val (.long ((P0 ^^^ ((P0.toUInt64 >>> ((30 : Int32) &&& 0x3f).toInt64.toUInt64).toInt64)) * (-4658895280553007687 : Int64))), .second] [(.long (((P0 ^^^ ((P0.toUInt64 >>> ((30 : Int32) &&& 0x3f).toInt64.toUInt64).toInt64)) * (-4658895280553007687 : Int64)) ^^^ ((((P0 ^^^ ((P0.toUInt64 >>> ((30 : Int32) &&& 0x3f).toInt64.toUInt64).toInt64)) * (-4658895280553007687 : Int64)).toUInt64 >>> ((27 : Int32) &&& 0x3f).toInt64.toUInt64).toInt64)))])) rfl (hb hby d4_19) _ ?_
      show Steps p.tables e below (s₁.setTop (mkF m 22 #[.val (.long P0), .second, .val (.long ((P0 ^^^ ((P0.toUInt64 >>> ((30 : Int32) &&& 0x3f).toInt64.toUInt64).toInt64)) * (-4658895280553007687 : Int64))), .second] [(.long (-7723592293110705685 : Int64)), (.long (((P0 ^^^ ((P0.toUInt64 >>> ((30 : Int32) &&& 0x3f).toInt64.toUInt64).toInt64)) * (-4658895280553007687 : Int64)) ^^^ ((((P0 ^^^ ((P0.toUInt64 >>> ((30 : Int32) &&& 0x3f).toInt64.toUInt64).toInt64)) * (-4658895280553007687 : Int64)).toUInt64 >>> ((27 : Int32) &&& 0x3f).toInt64.toUInt64).toInt64)))])) _
      refine XS.lmul X0.here hx rfl (hb hby d4_22) rfl ?_
      show Steps p.tables e below (s₁.setTop (mkF m 23 #[.val (.long P0), .second, .val (.long ((P0 ^^^ ((P0.toUInt64 >>> ((30 : Int32) &&& 0x3f).toInt64.toUInt64).toInt64)) * (-4658895280553007687 : Int64))), .second] [(.long ((((P0 ^^^ ((P0.toUInt64 >>> ((30 : Int32) &&& 0x3f).toInt64.toUInt64).toInt64)) * (-4658895280553007687 : Int64)) ^^^ ((((P0 ^^^ ((P0.toUInt64 >>> ((30 : Int32) &&& 0x3f).toInt64.toUInt64).toInt64)) * (-4658895280553007687 : Int64)).toUInt64 >>> ((27 : Int32) &&& 0x3f).toInt64.toUInt64).toInt64)) * (-7723592293110705685 : Int64)))])) _
      refine XS.lstoreN X0.here hx rfl (hb hby d4_23) rfl (l' := #[.val (.long P0), .second, .val (.long ((((P0 ^^^ ((P0.toUInt64 >>> ((30 : Int32) &&& 0x3f).toInt64.toUInt64).toInt64)) * (-4658895280553007687 : Int64)) ^^^ ((((P0 ^^^ ((P0.toUInt64 >>> ((30 : Int32) &&& 0x3f).toInt64.toUInt64).toInt64)) * (-4658895280553007687 : Int64)).toUInt64 >>> ((27 : Int32) &&& 0x3f).toInt64.toUInt64).toInt64)) * (-7723592293110705685 : Int64))), .second]) rfl ?_
      show Steps p.tables e below (s₁.setTop (mkF m 24 #[.val (.long P0), .second, .val (.long ((((P0 ^^^ ((P0.toUInt64 >>> ((30 : Int32) &&& 0x3f).toInt64.toUInt64).toInt64)) * (-4658895280553007687 : Int64)) ^^^ ((((P0 ^^^ ((P0.toUInt64 >>> ((30 : Int32) &&& 0x3f).toInt64.toUInt64).toInt64)) * (-4658895280553007687 : Int64)).toUInt64 >>> ((27 : Int32) &&& 0x3f).toInt64.toUInt64).toInt64)) * (-7723592293110705685 : Int64))), .second] [])) _
      refine XS.lloadN X0.here hx rfl (hb hby d4_24) rfl ?_
      show Steps p.tables e below (s₁.setTop (mkF m 25 #[.val (.long P0), .second, .val (.long ((((P0 ^^^ ((P0.toUInt64 >>> ((30 : Int32) &&& 0x3f).toInt64.toUInt64).toInt64)) * (-4658895280553007687 : Int64)) ^^^ ((((P0 ^^^ ((P0.toUInt64 >>> ((30 : Int32) &&& 0x3f).toInt64.toUInt64).toInt64)) * (-4658895280553007687 : Int64)).toUInt64 >>> ((27 : Int32) &&& 0x3f).toInt64.toUInt64).toInt64)) * (-7723592293110705685 : Int64))), .second] [(.long ((((P0 ^^^ ((P0.toUInt64 >>> ((30 : Int32) &&& 0x3f).toInt64.toUInt64).toInt64)) * (-4658895280553007687 : Int64)) ^^^ ((((P0 ^^^ ((P0.toUInt64 >>> ((30 : Int32) &&& 0x3f).toInt64.toUInt64).toInt64)) * (-4658895280553007687 : Int64)).toUInt64 >>> ((27 : Int32) &&& 0x3f).toInt64.toUInt64).toInt64)) * (-7723592293110705685 : Int64)))])) _
      refine XS.lloadN X0.here hx rfl (hb hby d4_25) rfl ?_
      show Steps p.tables e below (s₁.setTop (mkF m 26 #[.val (.long P0), .second, .val (.long ((((P0 ^^^ ((P0.toUInt64 >>> ((30 : Int32) &&& 0x3f).toInt64.toUInt64).toInt64)) * (-4658895280553007687 : Int64)) ^^^ ((((P0 ^^^ ((P0.toUInt64 >>> ((30 : Int32) &&& 0x3f).toInt64.toUInt64).toInt64)) * (-4658895280553007687 : Int64)).toUInt64 >>> ((27 : Int32) &&& 0x3f).toInt64.toUInt64).toInt64)) * (-7723592293110705685 : Int64))), .second] [(.long ((((P0 ^^^ ((P0.toUInt64 >>> ((30 : Int32) &&& 0x3f).toInt64.toUInt64).toInt64)) * (-4658895280553007687 : Int64)) ^^^ ((((P0 ^^^ ((P0.toUInt64 >>> ((30 : Int32) &&& 0x3f).toInt64.toUInt64).toInt64)) * (-4658895280553007687 : Int64)).toUInt64 >>> ((27 : Int32) &&& 0x3f).toInt64.toUInt64).toInt64)) * (-7723592293110705685 : Int64))), (.long ((((P0 ^^^ ((P0.toUInt64 >>> ((30 : Int32) &&& 0x3f).toInt64.toUInt64).toInt64)) * (-4658895280553007687 : Int64)) ^^^ ((((P0 ^^^ ((P0.toUInt64 >>> ((30 : Int32) &&& 0x3f).toInt64.toUInt64).toInt64)) * (-4658895280553007687 : Int64)).toUInt64 >>> ((27 : Int32) &&& 0x3f).toInt64.toUInt64).toInt64)) * (-7723592293110705685 : Int64)))])) _
      refine XS.bipush X0.here hx rfl (hb hby d4_26) ?_
      show Steps p.tables e below (s₁.setTop (mkF m 28 #[.val (.long P0), .second, .val (.long ((((P0 ^^^ ((P0.toUInt64 >>> ((30 : Int32) &&& 0x3f).toInt64.toUInt64).toInt64)) * (-4658895280553007687 : Int64)) ^^^ ((((P0 ^^^ ((P0.toUInt64 >>> ((30 : Int32) &&& 0x3f).toInt64.toUInt64).toInt64)) * (-4658895280553007687 : Int64)).toUInt64 >>> ((27 : Int32) &&& 0x3f).toInt64.toUInt64).toInt64)) * (-7723592293110705685 : Int64))), .second] [(.int (31 : Int32)), (.long ((((P0 ^^^ ((P0.toUInt64 >>> ((30 : Int32) &&& 0x3f).toInt64.toUInt64).toInt64)) * (-4658895280553007687 : Int64)) ^^^ ((((P0 ^^^ ((P0.toUInt64 >>> ((30 : Int32) &&& 0x3f).toInt64.toUInt64).toInt64)) * (-4658895280553007687 : Int64)).toUInt64 >>> ((27 : Int32) &&& 0x3f).toInt64.toUInt64).toInt64)) * (-7723592293110705685 : Int64))), (.long ((((P0 ^^^ ((P0.toUInt64 >>> ((30 : Int32) &&& 0x3f).toInt64.toUInt64).toInt64)) * (-4658895280553007687 : Int64)) ^^^ ((((P0 ^^^ ((P0.toUInt64 >>> ((30 : Int32) &&& 0x3f).toInt64.toUInt64).toInt64)) * (-4658895280553007687 : Int64)).toUInt64 >>> ((27 : Int32) &&& 0x3f).toInt64.toUInt64).toInt64)) * (-7723592293110705685 : Int64)))])) _
      refine XS.lushr X0.here hx rfl (hb hby d4_28) rfl ?_
      show Steps p.tables e below (s₁.setTop (mkF m 29 #[.val (.long P0), .second, .val (.long ((((P0 ^^^ ((P0.toUInt64 >>> ((30 : Int32) &&& 0x3f).toInt64.toUInt64).toInt64)) * (-4658895280553007687 : Int64)) ^^^ ((((P0 ^^^ ((P0.toUInt64 >>> ((30 : Int32) &&& 0x3f).toInt64.toUInt64).toInt64)) * (-4658895280553007687 : Int64)).toUInt64 >>> ((27 : Int32) &&& 0x3f).toInt64.toUInt64).toInt64)) * (-7723592293110705685 : Int64))), .second] [(.long ((((((P0 ^^^ ((P0.toUInt64 >>> ((30 : Int32) &&& 0x3f).toInt64.toUInt64).toInt64)) * (-4658895280553007687 : Int64)) ^^^ ((((P0 ^^^ ((P0.toUInt64 >>> ((30 : Int32) &&& 0x3f).toInt64.toUInt64).toInt64)) * (-4658895280553007687 : Int64)).toUInt64 >>> ((27 : Int32) &&& 0x3f).toInt64.toUInt64).toInt64)) * (-7723592293110705685 : Int64)).toUInt64 >>> ((31 : Int32) &&& 0x3f).toInt64.toUInt64).toInt64)), (.long ((((P0 ^^^ ((P0.toUInt64 >>> ((30 : Int32) &&& 0x3f).toInt64.toUInt64).toInt64)) * (-4658895280553007687 : Int64)) ^^^ ((((P0 ^^^ ((P0.toUInt64 >>> ((30 : Int32) &&& 0x3f).toInt64.toUInt64).toInt64)) * (-4658895280553007687 : Int64)).toUInt64 >>> ((27 : Int32) &&& 0x3f).toInt64.toUInt64).toInt64)) * (-7723592293110705685 : Int64)))])) _
      refine XS.lxor X0.here hx rfl (hb hby d4_29) rfl ?_
      exact kt)
  obtain ⟨fs, hr, hrun, hended, hW, hsame⟩ := X0.leave (v := some (.long (((((P0 ^^^ ((P0.toUInt64 >>> ((30 : Int32) &&& 0x3f).toInt64.toUInt64).toInt64)) * (-4658895280553007687 : Int64)) ^^^ ((((P0 ^^^ ((P0.toUInt64 >>> ((30 : Int32) &&& 0x3f).toInt64.toUInt64).toInt64)) * (-4658895280553007687 : Int64)).toUInt64 >>> ((27 : Int32) &&& 0x3f).toInt64.toUInt64).toInt64)) * (-7723592293110705685 : Int64)) ^^^ ((((((P0 ^^^ ((P0.toUInt64 >>> ((30 : Int32) &&& 0x3f).toInt64.toUInt64).toInt64)) * (-4658895280553007687 : Int64)) ^^^ ((((P0 ^^^ ((P0.toUInt64 >>> ((30 : Int32) &&& 0x3f).toInt64.toUInt64).toInt64)) * (-4658895280553007687 : Int64)).toUInt64 >>> ((27 : Int32) &&& 0x3f).toInt64.toUInt64).toInt64)) * (-7723592293110705685 : Int64)).toUInt64 >>> ((31 : Int32) &&& 0x3f).toInt64.toUInt64).toInt64)))) (fun h => by rw [Bd.returns] at h; cases h)
  refine ⟨_, _, pre1 _ ?_, hrun, hended, _, _, rfl, ?_, ⟨_, rfl⟩, hW, hsame.mono (by decide) (by decide)⟩
  · show Steps p.tables e below (s₁.setTop (mkF m 30 #[.val (.long P0), .second, .val (.long ((((P0 ^^^ ((P0.toUInt64 >>> ((30 : Int32) &&& 0x3f).toInt64.toUInt64).toInt64)) * (-4658895280553007687 : Int64)) ^^^ ((((P0 ^^^ ((P0.toUInt64 >>> ((30 : Int32) &&& 0x3f).toInt64.toUInt64).toInt64)) * (-4658895280553007687 : Int64)).toUInt64 >>> ((27 : Int32) &&& 0x3f).toInt64.toUInt64).toInt64)) * (-7723592293110705685 : Int64))), .second] [(.long (((((P0 ^^^ ((P0.toUInt64 >>> ((30 : Int32) &&& 0x3f).toInt64.toUInt64).toInt64)) * (-4658895280553007687 : Int64)) ^^^ ((((P0 ^^^ ((P0.toUInt64 >>> ((30 : Int32) &&& 0x3f).toInt64.toUInt64).toInt64)) * (-4658895280553007687 : Int64)).toUInt64 >>> ((27 : Int32) &&& 0x3f).toInt64.toUInt64).toInt64)) * (-7723592293110705685 : Int64)) ^^^ ((((((P0 ^^^ ((P0.toUInt64 >>> ((30 : Int32) &&& 0x3f).toInt64.toUInt64).toInt64)) * (-4658895280553007687 : Int64)) ^^^ ((((P0 ^^^ ((P0.toUInt64 >>> ((30 : Int32) &&& 0x3f).toInt64.toUInt64).toInt64)) * (-4658895280553007687 : Int64)).toUInt64 >>> ((27 : Int32) &&& 0x3f).toInt64.toUInt64).toInt64)) * (-7723592293110705685 : Int64)).toUInt64 >>> ((31 : Int32) &&& 0x3f).toInt64.toUInt64).toInt64)))])) _
    exact retOut X0 hx Bd.returns rfl (Or.inr (Or.inl ⟨rfl, rfl, _, rfl⟩)) (hb hby d4_30) hr
  · show Q4 Z P0 h0 n0 _ s₁.heap _
    rw [e0]
    exact ⟨rfl, N0, rfl⟩
theorem d5_0 : decode prog_39_method_3_code 0 = .ok (.lload_n 0, 1) := by decide +kernel
theorem d5_1 : decode prog_39_method_3_code 1 = .ok (.lload_n 2, 1) := by decide +kernel
theorem d5_2 : decode prog_39_method_3_code 2 = .ok (.lconst 1, 1) := by decide +kernel
theorem d5_3 : decode prog_39_method_3_code 3 = .ok (.ladd, 1) := by decide +kernel
theorem d5_4 : decode prog_39_method_3_code 4 = .ok (.ldc2_w 13, 3) := by decide +kernel
theorem d5_7 : decode prog_39_method_3_code 7 = .ok (.lmul, 1) := by decide +kernel
theorem d5_8 : decode prog_39_method_3_code 8 = .ok (.ladd, 1) := by decide +kernel
theorem d5_9 : decode prog_39_method_3_code 9 = .ok (.invokestatic 15, 3) := by decide +kernel
theorem d5_12 : decode prog_39_method_3_code 12 = .ok (.lreturn, 1) := by decide +kernel
theorem pn_5 : plainName "com/example/wedgewise/wedgewise/SeededRandom" = true := by first | (simp [plainName, overriddenIn]; done) | decide +kernel
theorem pd_5_0 : parseMethodDescriptor "(J)J" = some ⟨[.long], some .long⟩ := by decide +kernel
theorem ef_5 (m : MethodId) (P0 : Int64) (P1 : Int64) : entryFrame m #[(.long P0), (.long P1)] 4 = mkF m 0 #[.val (.long P0), .second, .val (.long P1), .second] [] := by first | (simp [entryFrame, mkF, argsToLocals, Value.category]; done) | rfl
def Q5 (Z : State) (P0 : Int64) (P1 : Int64) (h0 : Heap) (n0 : Nat) (v : Option Value) (h : Heap) (L : List Loc) : Prop := (v = some (.long (own_mix (P0 + ((P1 + (1 : Int64)) * (-7046029254386353131 : Int64)))))) ∧ (Fr n0 L) ∧ (h = h0)
set_option maxRecDepth 65536 in
set_option maxHeartbeats 40000000 in
theorem rm5 (l : Launch) (Z : State) (a0 : Array Value) (hw : ∀ d ∈ tables_1, d.before a0 Z = true) (ws : List Jvm.Cond) (P0 : Int64) (P1 : Int64) (h0 : Heap) (n0 : Nat) (Z0 : n0 ≤ h0.size) :
    MetFree l (⟨"com/example/wedgewise/wedgewise/SeededRandom", "longAt", "(JJ)J"⟩ : MethodName) (head1 (Jvm.Cond.code (⟨"com/example/wedgewise/wedgewise/SeededRandom", "longAt", "(JJ)J"⟩ : MethodName) prog_39_method_3_code 4 (some .long) :: ws) ({ frames := 1, cells := 0, slots := 0, locals := 15 } : Room)) (fun a U => a = #[(.long P0), (.long P1)] ∧ Z.Warmed39 U.vm ∧ U.heap = h0) (fun _ _ _ _ _ => True) (fun _ U o U' => ∃ v L, o = .returned v ∧ Q5 Z P0 P1 h0 n0 v U'.heap L ∧ FrameEnd U o U' L ({ frames := 1, cells := 0, slots := 0, locals := 15 } : Room).cells ({ frames := 1, cells := 0, slots := 0, locals := 15 } : Room).slots) := by
  refine MetFree.of_bodySF (plainFor_of_name pn_5) hisR ?_
  intro p e s m args below meth c s₁ Bd hml0 hP hK
  obtain ⟨rfl, hZ, hh⟩ := hP
  have hx := Bd.exec
  have hby := Bd.bytes
  have hml : c.maxLocals = 4 := hml0
  have hown : s.vm.findClass "com/example/wedgewise/wedgewise/SeededRandom" = some m.cls := findClass_of_methodNamed Bd.named
  have hnm := (name_of_methodNamed Bd.named Bd.method).1
  have X0 : Stand p l e ({ frames := 1, cells := 0, slots := 0, locals := 15 } : Room) s m #[(.long P0), (.long P1)] below meth c s₁ [] 0 0 := Stand.of_body Bd
  have e0 : s₁.heap = h0 := by rw [← hh, Bd.state]; rfl
  have N0 := Fr.nil n0
  have pre0 : ∀ t, Steps p.tables e below (s₁.setTop (mkF m 0 #[.val (.long P0), .second, .val (.long P1), .second] [])) t → Steps p.tables e below (s₁.setTop (entryFrame m #[(.long P0), (.long P1)] 4)) t := fun t k => castTop (ef_5 m P0 P1) k
  obtain ⟨_, _, ⟨T1, L1, k1, n1⟩, -, X1, ⟨Lc1, hQ1, l1, y1, z1⟩, st1⟩ := Jvm.LawKit.callS X0 hx (y := (⟨"com/example/wedgewise/wedgewise/SeededRandom", "mix", "(J)J"⟩ : MethodName)) hown (mvT hZ (hw _ (List.mem_of_getElem? (i := 18) rfl))) (mvT hZ (hw _ (List.mem_of_getElem? (i := 19) rfl))) (mvT hZ (hw _ (List.mem_of_getElem? (i := 3) rfl))) (mvT hZ (hw _ (List.mem_of_getElem? (i := 20) rfl))) (by decide) (backOf (W := 0) (rm4 l Z a0 hw [] (P0 + ((P1 + (1 : Int64)) * (-7046029254386353131 : Int64))) h0 n0 Z0 ) hZ (hw _ (List.mem_of_getElem? (i := 20) rfl)) (hw _ (List.mem_of_getElem? (i := 3) rfl)) (by decide) (by decide)) (g := (mkF m 9 #[.val (.long P0), .second, .val (.long P1), .second] [(.long (P0 + ((P1 + (1 : Int64)) * (-7046029254386353131 : Int64))))])) rfl (by rw [hml]; rfl) (argsL := [(.long (P0 + ((P1 + (1 : Int64)) * (-7046029254386353131 : Int64))))]) (rest := []) (lenOf pd_5_0 rfl) rfl (by show 2 * 0 + _ ≤ _; exact Nat.le_of_eq rfl) (hb hby d5_9) (fun _ _ => ⟨rfl, e0, (by decide : 0 + 0 ≤ _), (by decide : 0 + 0 ≤ _)⟩)
  dsimp only [Pt.U, Pt.locs, Pt.cells, Pt.slots] at X1 l1 y1 z1 st1 hQ1
  subst l1 y1 z1
  obtain ⟨rfl, N1q, K1⟩ := hQ1
  have N1 := Fr.app N0 N1q
  have pre2 : ∀ t, Steps p.tables e below (T1.setTop (mkF m 12 #[.val (.long P0), .second, .val (.long P1), .second] [(.long (own_mix (P0 + ((P1 + (1 : Int64)) * (-7046029254386353131 : Int64)))))])) t → Steps p.tables e below (s₁.setTop (entryFrame m #[(.long P0), (.long P1)] 4)) t := fun t kt => pre0 t (by
      show Steps p.tables e below (s₁.setTop (mkF m 0 #[.val (.long P0), .second, .val (.long P1), .second] [])) _
      refine XS.lloadN X0.here hx rfl (hb hby d5_0) rfl ?_
      show Steps p.tables e below (s₁.setTop (mkF m 1 #[.val (.long P0), .second, .val (.long P1), .second] [(.long P0)])) _
      refine XS.lloadN X0.here hx rfl (hb hby d5_1) rfl ?_
      show Steps p.tables e below (s₁.setTop (mkF m 2 #[.val (.long P0), .second, .val (.long P1), .second] [(.long P1), (.long P0)])) _
      refine XS.lconst X0.here hx rfl (hb hby d5_2) ?_
      show Steps p.tables e below (s₁.setTop (mkF m 3 #[.val (.long P0), .second, .val (.long P1), .second] [(.long (1 : Int64)), (.long P1), (.long P0)])) _
      refine XS.ladd X0.here hx rfl (hb hby d5_3) rfl ?_
      show Steps p.tables e below (s₁.setTop (mkF m 4 #[.val (.long P0), .second, .val (.long P1), .second] [(.long (P1 + (1 : Int64))), (.long P0)])) _
      refine X0.ldc2Long hx hown (mvT hZ (hw _ (List.mem_of_getElem? (i := 17) rfl))) (g := (mkF m 4 #[.val (.long P0), .second, .val (.long P1), .second] [(.long (P1 + (1 : Int64))), (.long P0)])) rfl (hb hby d5_4) _ ?_
      show Steps p.tables e below (s₁.setTop (mkF m 7 #[.val (.long P0), .second, .val (.long P1), .second] [(.long (-7046029254386353131 : Int64)), (.long (P1 + (1 : Int64))), (.long P0)])) _
      refine XS.lmul X0.here hx rfl (hb hby d5_7) rfl ?_
      show Steps p.tables e below (s₁.setTop (mkF m 8 #[.val (.long P0), .second, .val (.long P1), .second] [(.long ((P1 + (1 : Int64)) * (-7046029254386353131 : Int64))), (.long P0)])) _
      refine XS.ladd X0.here hx rfl (hb hby d5_8) rfl ?_
      show Steps p.tables e below (s₁.setTop (mkF m 9 #[.val (.long P0), .second, .val (.long P1), .second] [(.long (P0 + ((P1 + (1 : Int64)) * (-7046029254386353131 : Int64))))])) _
      refine st1 _ ?_
      exact kt)
  obtain ⟨fs, hr, hrun, hended, hW, hsame⟩ := X1.leave (v := some (.long (own_mix (P0 + ((P1 + (1 : Int64)) * (-7046029254386353131 : Int64)))))) (fun h => by rw [Bd.returns] at h; cases h)
  refine ⟨_, _, pre2 _ ?_, hrun, hended, _, _, rfl, ?_, ⟨_, rfl⟩, hW, hsame.mono (by decide) (by decide)⟩
  · show Steps p.tables e below (T1.setTop (mkF m 12 #[.val (.long P0), .second, .val (.long P1), .second] [(.long (own_mix (P0 + ((P1 + (1 : Int64)) * (-7046029254386353131 : Int64)))))])) _
    exact retOut X1 hx Bd.returns rfl (Or.inr (Or.inl ⟨rfl, rfl, _, rfl⟩)) (hb hby d5_12) hr
  · show Q5 Z P0 P1 h0 n0 _ T1.heap _
    rw [K1]
    exact ⟨rfl, N1, rfl⟩
theorem d3_0 : decode prog_39_method_2_code 0 = .ok (.aload_n 0, 1) := by decide +kernel
theorem d3_1 : decode prog_39_method_2_code 1 = .ok (.dup, 1) := by decide +kernel
theorem d3_2 : decode prog_39_method_2_code 2 = .ok (.getfield 7, 3) := by decide +kernel
theorem d3_5 : decode prog_39_method_2_code 5 = .ok (.ldc2_w 13, 3) := by decide +kernel
theorem d3_8 : decode prog_39_method_2_code 8 = .ok (.ladd, 1) := by decide +kernel
theorem d3_9 : decode prog_39_method_2_code 9 = .ok (.putfield 7, 3) := by decide +kernel
theorem d3_12 : decode prog_39_method_2_code 12 = .ok (.aload_n 0, 1) := by decide +kernel
theorem d3_13 : decode prog_39_method_2_code 13 = .ok (.getfield 7, 3) := by decide +kernel
theorem d3_16 : decode prog_39_method_2_code 16 = .ok (.invokestatic 15, 3) := by decide +kernel
theorem d3_19 : decode prog_39_method_2_code 19 = .ok (.lreturn, 1) := by decide +kernel
theorem pn_3 : plainName "com/example/wedgewise/wedgewise/SeededRandom" = true := by first | (simp [plainName, overriddenIn]; done) | decide +kernel
theorem pd_3_0 : parseMethodDescriptor "(J)J" = some ⟨[.long], some .long⟩ := by decide +kernel
theorem ef_3 (m : MethodId) (A0 : Addr) : entryFrame m #[(.ref A0)] 1 = mkF m 0 #[.val (.ref A0)] [] := by first | (simp [entryFrame, mkF, argsToLocals, Value.category]; done) | rfl
def Q3 (Z : State) (A0 : Addr) (W0 : Int64) (h0 : Heap) (n0 : Nat) (v : Option Value) (h : Heap) (L : List Loc) : Prop := (v = some (.long (own_mix (W0 + (-7046029254386353131 : Int64))))) ∧ (Fr n0 L) ∧ (Keep h0 h [A0]) ∧ (Exa Z h A0 "com/example/wedgewise/wedgewise/SeededRandom") ∧ (Fld Z h A0 "com/example/wedgewise/wedgewise/SeededRandom" "state" "J" (.long (W0 + (-7046029254386353131 : Int64))))
set_option maxRecDepth 65536 in
set_option maxHeartbeats 40000000 in
theorem rm3 (l : Launch) (Z : State) (a0 : Array Value) (hw : ∀ d ∈ tables_1, d.before a0 Z = true) (ws : List Jvm.Cond) (A0 : Addr) (W0 : Int64) (h0 : Heap) (n0 : Nat) (Z0 : n0 ≤ h0.size) (pm0 : Fld Z h0 A0 "com/example/wedgewise/wedgewise/SeededRandom" "state" "J" (.long W0)) (pm1 : Exa Z h0 A0 "com/example/wedgewise/wedgewise/SeededRandom") (g_A0 : n0 ≤ A0) :
    MetFree l (⟨"com/example/wedgewise/wedgewise/SeededRandom", "nextLong", "()J"⟩ : MethodName) (head1 (Jvm.Cond.code (⟨"com/example/wedgewise/wedgewise/SeededRandom", "nextLong", "()J"⟩ : MethodName) prog_39_method_2_code 1 (some .long) :: ws) ({ frames := 1, cells := 0, slots := 0, locals := 15 } : Room)) (fun a U => a = #[(.ref A0)] ∧ Z.Warmed39 U.vm ∧ U.heap = h0) (fun _ _ _ _ _ => True) (fun _ U o U' => ∃ v L, o = .returned v ∧ Q3 Z A0 W0 h0 n0 v U'.heap L ∧ FrameEnd U o U' L ({ frames := 1, cells := 0, slots := 0, locals := 15 } : Room).cells ({ frames := 1, cells := 0, slots := 0, locals := 15 } : Room).slots) := by
  refine MetFree.of_bodySF (plainFor_of_name pn_3) hisR ?_
  intro p e s m args below meth c s₁ Bd hml0 hP hK
  obtain ⟨rfl, hZ, hh⟩ := hP
  have hx := Bd.exec
  have hby := Bd.bytes
  have hml : c.maxLocals = 1 := hml0
  have hown : s.vm.findClass "com/example/wedgewise/wedgewise/SeededRandom" = some m.cls := findClass_of_methodNamed Bd.named
  have hnm := (name_of_methodNamed Bd.named Bd.method).1
  have X0 : Stand p l e ({ frames := 1, cells := 0, slots := 0, locals := 15 } : Room) s m #[(.ref A0)] below meth c s₁ [] 0 0 := Stand.of_body Bd
  have e0 : s₁.heap = h0 := by rw [← hh, Bd.state]; rfl
  have N0 := Fr.nil n0
  have pre0 : ∀ t, Steps p.tables e below (s₁.setTop (mkF m 0 #[.val (.ref A0)] [])) t → Steps p.tables e below (s₁.setTop (entryFrame m #[(.ref A0)] 1)) t := fun t k => castTop (ef_3 m A0) k
  have K_0 : Keep h0 h0 [A0] := Keep.refl h0 _
  obtain ⟨T1, X1, e1, st1⟩ := getF X0 hx hZ hown (host := "") (Or.inl (hw _ (List.mem_of_getElem? (i := 10) rfl))) Via.refl e0 pm0 (g := (mkF m 2 #[.val (.ref A0)] [(.ref A0), (.ref A0)])) rfl rfl (hb hby d3_2)
  obtain ⟨T2, h2, X2, e2, W2, st2⟩ := putF X1 hx hZ hown (host := "") (Or.inl (hw _ (List.mem_of_getElem? (i := 10) rfl))) Via.refl e1 pm0 pm1 (Or.inl (hw _ (List.mem_of_getElem? (i := 11) rfl))) (hw _ (List.mem_of_getElem? (i := 2) rfl)) (ty := .long) (by decide) rfl rfl (g := (mkF m 9 #[.val (.ref A0)] [(.long (W0 + (-7046029254386353131 : Int64))), (.ref A0)])) rfl rfl (hb hby d3_9)
  have Z3 : n0 ≤ h2.size := Nat.le_trans Z0 (Nat.le_of_eq W2.size.symm)
  have K_3 : Keep h0 h2 [A0] := K_0.wr W2 (Or.inl (List.mem_of_getElem? (i := 0) rfl))
  have Fw2 : Fld Z h2 A0 "com/example/wedgewise/wedgewise/SeededRandom" "state" "J" (.long (W0 + (-7046029254386353131 : Int64))) := pm0.same W2
  have N2 := Fr.snoc X2 N0 g_A0
  obtain ⟨T4, X4, e4, st4⟩ := getF X2 hx hZ hown (host := "") (Or.inl (hw _ (List.mem_of_getElem? (i := 10) rfl))) Via.refl e2 Fw2 (g := (mkF m 13 #[.val (.ref A0)] [(.ref A0)])) rfl rfl (hb hby d3_13)
  obtain ⟨_, _, ⟨T5, L5, k5, n5⟩, -, X5, ⟨Lc5, hQ5, l5, y5, z5⟩, st5⟩ := Jvm.LawKit.callS X4 hx (y := (⟨"com/example/wedgewise/wedgewise/SeededRandom", "mix", "(J)J"⟩ : MethodName)) hown (mvT hZ (hw _ (List.mem_of_getElem? (i := 18) rfl))) (mvT hZ (hw _ (List.mem_of_getElem? (i := 19) rfl))) (mvT hZ (hw _ (List.mem_of_getElem? (i := 3) rfl))) (mvT hZ (hw _ (List.mem_of_getElem? (i := 20) rfl))) (by decide) (backOf (W := 0) (rm4 l Z a0 hw [] (W0 + (-7046029254386353131 : Int64)) h2 n0 Z3 ) hZ (hw _ (List.mem_of_getElem? (i := 20) rfl)) (hw _ (List.mem_of_getElem? (i := 3) rfl)) (by decide) (by decide)) (g := (mkF m 16 #[.val (.ref A0)] [(.long (W0 + (-7046029254386353131 : Int64)))])) rfl (by rw [hml]; rfl) (argsL := [(.long (W0 + (-7046029254386353131 : Int64)))]) (rest := []) (lenOf pd_3_0 rfl) rfl (by show 2 * 0 + _ ≤ _; exact Nat.le_of_eq rfl) (hb hby d3_16) (fun _ _ => ⟨rfl, e4, (by decide : 0 + 0 ≤ _), (by decide : 0 + 0 ≤ _)⟩)
  dsimp only [Pt.U, Pt.locs, Pt.cells, Pt.slots] at X5 l5 y5 z5 st5 hQ5
  subst l5 y5 z5
  obtain ⟨rfl, N5q, K5⟩ := hQ5
  have N5 := Fr.app N2 N5q
  have pre6 : ∀ t, Steps p.tables e below (T5.setTop (mkF m 19 #[.val (.ref A0)] [(.long (own_mix (W0 + (-7046029254386353131 : Int64))))])) t → Steps p.tables e below (s₁.setTop (entryFrame m #[(.ref A0)] 1)) t := fun t kt => pre0 t (by
      show Steps p.tables e below (s₁.setTop (mkF m 0 #[.val (.ref A0)] [])) _
      refine XS.aloadN X0.here hx rfl (hb hby d3_0) rfl rfl ?_
      show Steps p.tables e below (s₁.setTop (mkF m 1 #[.val (.ref A0)] [(.ref A0)])) _
      refine XS.dup X0.here hx rfl (hb hby d3_1) rfl rfl ?_
      show Steps p.tables e below (s₁.setTop (mkF m 2 #[.val (.ref A0)] [(.ref A0), (.ref A0)])) _
      refine st1 _ ?_
      show Steps p.tables e below (T1.setTop (mkF m 5 #[.val (.ref A0)] [(.long W0), (.ref A0)])) _
      refine X1.ldc2Long hx hown (mvT hZ (hw _ (List.mem_of_getElem? (i := 17) rfl))) (g := (mkF m 5 #[.val (.ref A0)] [(.long W0), (.ref A0)])) rfl (hb hby d3_5) _ ?_
      show Steps p.tables e below (T1.setTop (mkF m 8 #[.val (.ref A0)] [(.long (-7046029254386353131 : Int64)), (.long W0), (.ref A0)])) _
      refine XS.ladd X1.here hx rfl (hb hby d3_8) rfl ?_
      show Steps p.tables e below (T1.setTop (mkF m 9 #[.val (.ref A0)] [(.long (W0 + (-7046029254386353131 : Int64))), (.ref A0)])) _
      refine st2 _ ?_
      show Steps p.tables e below (T2.setTop (mkF m 12 #[.val (.ref A0)] [])) _
      refine XS.aloadN X2.here hx rfl (hb hby d3_12) rfl rfl ?_
      show Steps p.tables e below (T2.setTop (mkF m 13 #[.val (.ref A0)] [(.ref A0)])) _
      refine st4 _ ?_
      show Steps p.tables e below (T4.setTop (mkF m 16 #[.val (.ref A0)] [(.long (W0 + (-7046029254386353131 : Int64)))])) _
      refine st5 _ ?_
      exact kt)
  have c7 : Exa Z h2 A0 "com/example/wedgewise/wedgewise/SeededRandom" := (pm1.wr W2)
  obtain ⟨fs, hr, hrun, hended, hW, hsame⟩ := X5.leave (v := some (.long (own_mix (W0 + (-7046029254386353131 : Int64))))) (fun h => by rw [Bd.returns] at h; cases h)
  refine ⟨_, _, pre6 _ ?_, hrun, hended, _, _, rfl, ?_, ⟨_, rfl⟩, hW, hsame.mono (by decide) (by decide)⟩
  · show Steps p.tables e below (T5.setTop (mkF m 19 #[.val (.ref A0)] [(.long (own_mix (W0 + (-7046029254386353131 : Int64))))])) _
    exact retOut X5 hx Bd.returns rfl (Or.inr (Or.inl ⟨rfl, rfl, _, rfl⟩)) (hb hby d3_19) hr
  · show Q3 Z A0 W0 h0 n0 _ T5.heap _
    rw [K5]
    exact ⟨rfl, N5, K_3, c7, Fw2⟩
theorem pn_0 : plainName "com/example/wedgewise/wedgewise/SeededRandomLongAtPinLaw" = true := by first | (simp [plainName, overriddenIn]; done) | decide +kernel
theorem pd_0_0 : parseMethodDescriptor "(J)V" = some ⟨[.long], none⟩ := by decide +kernel
theorem pd_0_1 : parseMethodDescriptor "()J" = some ⟨[], some .long⟩ := by decide +kernel
theorem pd_0_2 : parseMethodDescriptor "(JJ)J" = some ⟨[.long, .long], some .long⟩ := by decide +kernel
theorem ef_0 (m : MethodId) (P0 : Int64) (P1 : Int64) (P2 : Int32) : entryFrame m #[(.long P0), (.long P1), (.int P2)] maxLocals = mkF m 0 #[.val (.long P0), .second, .val (.long P1), .second, .val (.int P2), .unset, .unset, .unset, .unset, .unset, .unset, .unset, .unset, .unset, .unset] [] := by first | (simp [entryFrame, mkF, argsToLocals, Value.category, maxLocals]; done) | rfl
def Q0 (Z : State) (P0 : Int64) (P1 : Int64) (P2 : Int32) (h0 : Heap) (n0 : Nat) (v : Option Value) (h : Heap) (L : List Loc) : Prop := v = some (.int (1 : Int32)) ∧ Fr n0 L
set_option maxRecDepth 65536 in
set_option maxHeartbeats 40000000 in
theorem rm0 (l : Launch) (Z : State) (a0 : Array Value) (hw : ∀ d ∈ tables_1, d.before a0 Z = true) (ws : List Jvm.Cond) (P0 : Int64) (P1 : Int64) (P2 : Int32) (h0 : Heap) (n0 : Nat) (Z0 : n0 ≤ h0.size) :
    MetFree l x (head1 (Jvm.Cond.code x code maxLocals ret :: ws) room_1) (fun a U => a = #[(.long P0), (.long P1), (.int P2)] ∧ Z.Warmed39 U.vm ∧ U.heap = h0) (fun _ _ _ _ _ => True) (fun _ U o U' => ∃ v L, o = .returned v ∧ Q0 Z P0 P1 P2 h0 n0 v U'.heap L ∧ FrameEnd U o U' L 16 128) := by
  refine MetFree.of_bodySF (plainFor_of_name pn_0) hisR ?_
  intro p e s m args below meth c s₁ Bd hml0 hP hK
  obtain ⟨rfl, hZ, hh⟩ := hP
  have hx := Bd.exec
  have hby := Bd.bytes
  have hml : c.maxLocals = 15 := hml0
  have hown : s.vm.findClass "com/example/wedgewise/wedgewise/SeededRandomLongAtPinLaw" = some m.cls := findClass_of_methodNamed Bd.named
  have hnm := (name_of_methodNamed Bd.named Bd.method).1
  have X0 : Stand p l e room_1 s m #[(.long P0), (.long P1), (.int P2)] below meth c s₁ [] 0 0 := Stand.of_body Bd
  have e0 : s₁.heap = h0 := by rw [← hh, Bd.state]; rfl
  have N0 := Fr.nil n0
  have pre0 : ∀ t, Steps p.tables e below (s₁.setTop (mkF m 0 #[.val (.long P0), .second, .val (.long P1), .second, .val (.int P2), .unset, .unset, .unset, .unset, .unset, .unset, .unset, .unset, .unset, .unset] [])) t → Steps p.tables e below (s₁.setTop (entryFrame m #[(.long P0), (.long P1), (.int P2)] maxLocals)) t := fun t k => castTop (ef_0 m P0 P1 P2) k
  obtain ⟨T1, h1, X1, e1, E1, A1, D1, -, st1⟩ := newO X0 hx hZ hown (hw _ (List.mem_of_getElem? (i := 1) rfl)) (hw _ (List.mem_of_getElem? (i := 2) rfl)) (hw _ (List.mem_of_getElem? (i := 3) rfl)) e0 (g := (mkF m 5 #[.val (.long P0), .second, .val (.long P1), .second, .val (.int P2), .val (.long (-7046029254386353131 : Int64)), .second, .unset, .unset, .unset, .unset, .unset, .unset, .unset, .unset] [])) rfl (hb hby at_5) (by decide) (by decide)
  obtain ⟨b1, q1⟩ : ∃ z, z = h0.size := ⟨_, rfl⟩
  rw [← q1] at A1 D1 st1
  have g_b1 : n0 ≤ b1 := Nat.le_trans Z0 (Nat.le_of_eq q1.symm)
  have Z2 : n0 ≤ h1.size := Nat.le_trans Z0 E1.1
  have F1_11 : Fld Z h1 b1 "com/example/wedgewise/wedgewise/SeededRandom" "state" "J" (.long (0 : Int64)) := D1 (Or.inl (hw _ (List.mem_of_getElem? (i := 11) rfl))) (ty := .long) (by decide)
  obtain ⟨_, _, ⟨T3, L3, k3, n3⟩, -, X3, ⟨Lc3, hQ3, l3, y3, z3⟩, st3⟩ := X1.specialBack hx (y := (⟨"com/example/wedgewise/wedgewise/SeededRandom", "<init>", "(J)V"⟩ : MethodName)) rfl hown (mvT hZ (hw _ (List.mem_of_getElem? (i := 4) rfl))) (mvT hZ (hw _ (List.mem_of_getElem? (i := 5) rfl))) (mvT hZ (hw _ (List.mem_of_getElem? (i := 6) rfl))) (by decide) (backOf (W := 1) (rm1 l Z a0 hw [] b1 (P0 + (P1 * (-7046029254386353131 : Int64))) (0 : Int64) h1 n0 Z2 F1_11 A1 g_b1) hZ (hw _ (List.mem_of_getElem? (i := 6) rfl)) (hw _ (List.mem_of_getElem? (i := 3) rfl)) (by decide) (by decide)) (g := (mkF m 15 #[.val (.long P0), .second, .val (.long P1), .second, .val (.int P2), .val (.long (-7046029254386353131 : Int64)), .second, .unset, .unset, .unset, .unset, .unset, .unset, .unset, .unset] [(.long (P0 + (P1 * (-7046029254386353131 : Int64)))), (.ref b1), (.ref b1)])) rfl (by rw [hml]; rfl) (Steps.refl _) (a := b1) (argsL := [(.long (P0 + (P1 * (-7046029254386353131 : Int64))))]) (rest := [(.ref b1)]) (lenOf pd_0_0 rfl) rfl (by show 2 * 0 + _ ≤ _; exact Nat.le_of_eq rfl) (hb hby at_15) (fun _ _ => ⟨rfl, e1, (by decide : 1 + 0 ≤ _), (by decide : 1 + 0 ≤ _)⟩)
  dsimp only [Pt.U, Pt.locs, Pt.cells, Pt.slots] at X3 l3 y3 z3 st3 hQ3
  subst l3 y3 z3
  obtain ⟨rfl, N3q, K3, p3_0, p3_1⟩ := hQ3
  have N3 := Fr.app N0 N3q
  have Z4 : n0 ≤ T3.heap.size := Nat.le_trans Z2 K3.1
  obtain ⟨cq5, kq5, q5a, q5b, q5c⟩ := isOf hZ rfl p3_0
  obtain ⟨_, _, ⟨T5, L5, k5, n5⟩, -, X5, ⟨Lc5, hQ5, l5, y5, z5⟩, st5⟩ := X3.virtualBack hx (y := (⟨"com/example/wedgewise/wedgewise/SeededRandom", "nextLong", "()J"⟩ : MethodName)) (z := (⟨"com/example/wedgewise/wedgewise/SeededRandom", "nextLong", "()J"⟩ : MethodName)) hown (mvT hZ (hw _ (List.mem_of_getElem? (i := 12) rfl))) (mvT hZ (hw _ (List.mem_of_getElem? (i := 13) rfl))) (notFace_of_selects (args := #[]) (mvT hZ (hw _ (List.mem_of_getElem? (i := 15) rfl)))) (mvT hZ (hw _ (List.mem_of_getElem? (i := 15) rfl))) (mvT hZ (hw _ (List.mem_of_getElem? (i := 14) rfl))) (by decide) (backOf (W := 0) (rm3 l Z a0 hw [] b1 (P0 + (P1 * (-7046029254386353131 : Int64))) T3.heap n0 Z4 p3_1 p3_0 g_b1) hZ (hw _ (List.mem_of_getElem? (i := 16) rfl)) (hw _ (List.mem_of_getElem? (i := 3) rfl)) (by decide) (by decide)) q5a q5c (g := (mkF m 22 #[.val (.long P0), .second, .val (.long P1), .second, .val (.int P2), .val (.long (-7046029254386353131 : Int64)), .second, .val (.ref b1), .unset, .unset, .unset, .unset, .unset, .unset, .unset] [(.ref b1)])) rfl (by rw [hml]; rfl) (Steps.refl _) (argsL := []) (rest := []) (lenOf pd_0_1 rfl) rfl (by show 2 * 0 + _ ≤ _; exact Nat.le_of_eq rfl) (hb hby at_22) (fun _ _ => ⟨rfl, rfl, (by decide : 1 + 0 ≤ _), (by decide : 1 + 0 ≤ _)⟩)
  dsimp only [Pt.U, Pt.locs, Pt.cells, Pt.slots] at X5 l5 y5 z5 st5 hQ5
  subst l5 y5 z5
  obtain ⟨rfl, N5q, K5, p5_0, p5_1⟩ := hQ5
  have N5 := Fr.app N3 N5q
  have Z6 : n0 ≤ T5.heap.size := Nat.le_trans Z4 K5.1
  obtain ⟨_, _, ⟨T7, L7, k7, n7⟩, -, X7, ⟨Lc7, hQ7, l7, y7, z7⟩, st7⟩ := Jvm.LawKit.callS X5 hx (y := (⟨"com/example/wedgewise/wedgewise/SeededRandom", "longAt", "(JJ)J"⟩ : MethodName)) hown (mvT hZ (hw _ (List.mem_of_getElem? (i := 23) rfl))) (mvT hZ (hw _ (List.mem_of_getElem? (i := 24) rfl))) (mvT hZ (hw _ (List.mem_of_getElem? (i := 3) rfl))) (mvT hZ (hw _ (List.mem_of_getElem? (i := 25) rfl))) (by decide) (backOf (W := 0) (rm5 l Z a0 hw [] P0 P1 T5.heap n0 Z6 ) hZ (hw _ (List.mem_of_getElem? (i := 25) rfl)) (hw _ (List.mem_of_getElem? (i := 3) rfl)) (by decide) (by decide)) (g := (mkF m 29 #[.val (.long P0), .second, .val (.long P1), .second, .val (.int P2), .val (.long (-7046029254386353131 : Int64)), .second, .val (.ref b1), .val (.long (own_mix ((P0 + (P1 * (-7046029254386353131 : Int64))) + (-7046029254386353131 : Int64)))), .second, .unset, .unset, .unset, .unset, .unset] [(.long P1), (.long P0)])) rfl (by rw [hml]; rfl) (argsL := [(.long P0), (.long P1)]) (rest := []) (lenOf pd_0_2 rfl) rfl (by show 2 * 0 + _ ≤ _; exact Nat.le_of_eq rfl) (hb hby at_29) (fun _ _ => ⟨rfl, rfl, (by decide : 1 + 0 ≤ _), (by decide : 1 + 0 ≤ _)⟩)
  dsimp only [Pt.U, Pt.locs, Pt.cells, Pt.slots] at X7 l7 y7 z7 st7 hQ7
  subst l7 y7 z7
  obtain ⟨rfl, N7q, K7⟩ := hQ7
  have N7 := Fr.app N5 N7q
  obtain ⟨T8, h8, X8, e8, E8, A8, D8, -, st8⟩ := newO X7 hx hZ hown (hw _ (List.mem_of_getElem? (i := 1) rfl)) (hw _ (List.mem_of_getElem? (i := 2) rfl)) (hw _ (List.mem_of_getElem? (i := 3) rfl)) K7 (g := (mkF m 45 #[.val (.long P0), .second, .val (.long P1), .second, .val (.int P2), .val (.long (-7046029254386353131 : Int64)), .second, .val (.ref b1), .val (.long (own_mix ((P0 + (P1 * (-7046029254386353131 : Int64))) + (-7046029254386353131 : Int64)))), .second, .val (.int (1 : Int32)), .unset, .unset, .unset, .unset] [])) rfl (hb hby at_45) (by decide) (by decide)
  obtain ⟨b8, q8⟩ : ∃ z, z = T5.heap.size := ⟨_, rfl⟩
  rw [← q8] at A8 D8 st8
  have ne9 : b1 ≠ b8 := Nat.ne_of_lt (Nat.lt_of_lt_of_le p5_0.lt (Nat.le_of_eq q8.symm))
  have g_b8 : n0 ≤ b8 := Nat.le_trans Z6 (Nat.le_of_eq q8.symm)
  have Z10 : n0 ≤ h8.size := Nat.le_trans Z6 E8.1
  have F8_11 : Fld Z h8 b8 "com/example/wedgewise/wedgewise/SeededRandom" "state" "J" (.long (0 : Int64)) := D8 (Or.inl (hw _ (List.mem_of_getElem? (i := 11) rfl))) (ty := .long) (by decide)
  obtain ⟨_, _, ⟨T11, L11, k11, n11⟩, -, X11, ⟨Lc11, hQ11, l11, y11, z11⟩, st11⟩ := X8.specialBack hx (y := (⟨"com/example/wedgewise/wedgewise/SeededRandom", "<init>", "(J)V"⟩ : MethodName)) rfl hown (mvT hZ (hw _ (List.mem_of_getElem? (i := 4) rfl))) (mvT hZ (hw _ (List.mem_of_getElem? (i := 5) rfl))) (mvT hZ (hw _ (List.mem_of_getElem? (i := 6) rfl))) (by decide) (backOf (W := 1) (rm1 l Z a0 hw [] b8 P0 (0 : Int64) h8 n0 Z10 F8_11 A8 g_b8) hZ (hw _ (List.mem_of_getElem? (i := 6) rfl)) (hw _ (List.mem_of_getElem? (i := 3) rfl)) (by decide) (by decide)) (g := (mkF m 50 #[.val (.long P0), .second, .val (.long P1), .second, .val (.int P2), .val (.long (-7046029254386353131 : Int64)), .second, .val (.ref b1), .val (.long (own_mix ((P0 + (P1 * (-7046029254386353131 : Int64))) + (-7046029254386353131 : Int64)))), .second, .val (.int (1 : Int32)), .unset, .unset, .unset, .unset] [(.long P0), (.ref b8), (.ref b8)])) rfl (by rw [hml]; rfl) (Steps.refl _) (a := b8) (argsL := [(.long P0)]) (rest := [(.ref b8)]) (lenOf pd_0_0 rfl) rfl (by show 2 * 0 + _ ≤ _; exact Nat.le_of_eq rfl) (hb hby at_50) (fun _ _ => ⟨rfl, e8, (by decide : 2 + 0 ≤ _), (by decide : 2 + 0 ≤ _)⟩)
  dsimp only [Pt.U, Pt.locs, Pt.cells, Pt.slots] at X11 l11 y11 z11 st11 hQ11
  subst l11 y11 z11
  obtain ⟨rfl, N11q, K11, p11_0, p11_1⟩ := hQ11
  have N11 := Fr.app N7 N11q
  have Z12 : n0 ≤ T11.heap.size := Nat.le_trans Z10 K11.1
  obtain ⟨T13, h13, k13, X13, e13, E13, A13, EX13, st13⟩ := newPE X11 hx hZ (hw _ (List.mem_of_getElem? (i := 26) rfl)) rfl (g := (mkF m 56 #[.val (.long P0), .second, .val (.long P1), .second, .val (.int P2), .val (.long (-7046029254386353131 : Int64)), .second, .val (.ref b1), .val (.long (own_mix ((P0 + (P1 * (-7046029254386353131 : Int64))) + (-7046029254386353131 : Int64)))), .second, .val (.int (1 : Int32)), .val (.ref b8), .unset, .unset, .unset] [(.int (4 : Int32))])) rfl (hb hby at_56) rfl (by decide) (cap := 4) (by decide) (by decide) (by decide) (by decide) (ad := "[J") (by decide)
  obtain ⟨b13, q13⟩ : ∃ z, z = T11.heap.size := ⟨_, rfl⟩
  rw [← q13] at A13 EX13 st13
  have c15 : Exa Z T11.heap b1 "com/example/wedgewise/wedgewise/SeededRandom" := ((p5_0.ext E8).keep K11)
  have ne14 : b1 ≠ b13 := Nat.ne_of_lt (Nat.lt_of_lt_of_le c15.lt (Nat.le_of_eq q13.symm))
  have ne16 : b8 ≠ b13 := Nat.ne_of_lt (Nat.lt_of_lt_of_le p11_0.lt (Nat.le_of_eq q13.symm))
  have g_b13 : n0 ≤ b13 := Nat.le_trans Z12 (Nat.le_of_eq q13.symm)
  have Z17 : n0 ≤ h13.size := Nat.le_trans Z12 E13.1
  have V13 : Arv Z h13 b13 k13 .long (4 : Int32) [(.long (0 : Int64)), (.long (0 : Int64)), (.long (0 : Int64)), (.long (0 : Int64))] (.long (0 : Int64)) := (Arv.new A13 (by decide)).pad (pad_rep [] (.long (0 : Int64)) 4)
  have c18 : Fld Z h13 b8 "com/example/wedgewise/wedgewise/SeededRandom" "state" "J" (.long P0) := (p11_1.ext E13)
  have c19 : Exa Z h13 b8 "com/example/wedgewise/wedgewise/SeededRandom" := (p11_0.ext E13)
  obtain ⟨cq20, kq20, q20a, q20b, q20c⟩ := isOf hZ e13 c19
  obtain ⟨_, _, ⟨T20, L20, k20, n20⟩, -, X20, ⟨Lc20, hQ20, l20, y20, z20⟩, st20⟩ := X13.virtualBack hx (y := (⟨"com/example/wedgewise/wedgewise/SeededRandom", "nextLong", "()J"⟩ : MethodName)) (z := (⟨"com/example/wedgewise/wedgewise/SeededRandom", "nextLong", "()J"⟩ : MethodName)) hown (mvT hZ (hw _ (List.mem_of_getElem? (i := 12) rfl))) (mvT hZ (hw _ (List.mem_of_getElem? (i := 13) rfl))) (notFace_of_selects (args := #[]) (mvT hZ (hw _ (List.mem_of_getElem? (i := 15) rfl)))) (mvT hZ (hw _ (List.mem_of_getElem? (i := 15) rfl))) (mvT hZ (hw _ (List.mem_of_getElem? (i := 14) rfl))) (by decide) (backOf (W := 2) (rm3 l Z a0 hw [] b8 P0 h13 n0 Z17 c18 c19 g_b8) hZ (hw _ (List.mem_of_getElem? (i := 16) rfl)) (hw _ (List.mem_of_getElem? (i := 3) rfl)) (by decide) (by decide)) q20a q20c (g := (mkF m 65 #[.val (.long P0), .second, .val (.long P1), .second, .val (.int P2), .val (.long (-7046029254386353131 : Int64)), .second, .val (.ref b1), .val (.long (own_mix ((P0 + (P1 * (-7046029254386353131 : Int64))) + (-7046029254386353131 : Int64)))), .second, .val (.int (1 : Int32)), .val (.ref b8), .val (.ref b13), .unset, .unset] [(.ref b8), (.int (0 : Int32)), (.ref b13)])) rfl (by rw [hml]; rfl) (Steps.refl _) (argsL := []) (rest := [(.int (0 : Int32)), (.ref b13)]) (lenOf pd_0_1 rfl) rfl (by show 2 * 0 + _ ≤ _; exact Nat.le_of_eq rfl) (hb hby at_65) (fun _ _ => ⟨rfl, e13, (by decide : 3 + 0 ≤ _), (by decide : 6 + 0 ≤ _)⟩)
  dsimp only [Pt.U, Pt.locs, Pt.cells, Pt.slots] at X20 l20 y20 z20 st20 hQ20
  subst l20 y20 z20
  obtain ⟨rfl, N20q, K20, p20_0, p20_1⟩ := hQ20
  have N20 := Fr.app N11 N20q
  have Z21 : n0 ≤ T20.heap.size := Nat.le_trans Z17 K20.1
  have c22 : Arv Z T20.heap b13 k13 .long (4 : Int32) [(.long (0 : Int64)), (.long (0 : Int64)), (.long (0 : Int64)), (.long (0 : Int64))] (.long (0 : Int64)) := (V13.keep K20 (ninS (Ne.symm ne16) nin0))
  obtain ⟨cl23, Ar23, q23, S23, N_23, H23, G23⟩ := c22
  have hin23 : ¬ ((0 : Int32) < 0 ∨ cl23.slots.size ≤ ((0 : Int32)).toNatClampNeg) := inb_of S23 ⟨by decide, by decide⟩
  obtain ⟨T24, h24, X24, e24, W24, st24⟩ := stJ X20 hx hZ rfl Ar23 (j := (0 : Int32)) hin23 (g := (mkF m 68 #[.val (.long P0), .second, .val (.long P1), .second, .val (.int P2), .val (.long (-7046029254386353131 : Int64)), .second, .val (.ref b1), .val (.long (own_mix ((P0 + (P1 * (-7046029254386353131 : Int64))) + (-7046029254386353131 : Int64)))), .second, .val (.int (1 : Int32)), .val (.ref b8), .val (.ref b13), .unset, .unset] [(.long (own_mix (P0 + (-7046029254386353131 : Int64)))), (.int (0 : Int32)), (.ref b13)])) rfl rfl (hb hby at_68)
  have Z25 : n0 ≤ h24.size := Nat.le_trans Z21 (Nat.le_of_eq W24.size.symm)
  have V24 : Arv Z h24 b13 k13 .long (4 : Int32) [(.long (own_mix (P0 + (-7046029254386353131 : Int64)))), (.long (0 : Int64)), (.long (0 : Int64)), (.long (0 : Int64))] (.long (0 : Int64)) := Arv.set Ar23 q23 S23 N_23 H23 G23 rfl W24 0 rfl (Nat.le_of_ble_eq_true rfl)
  have N24 := Fr.snoc X24 N20 g_b13
  have c26 : Fld Z h24 b8 "com/example/wedgewise/wedgewise/SeededRandom" "state" "J" (.long (P0 + (-7046029254386353131 : Int64))) := (p20_1.other W24 (Or.inl ne16))
  have c27 : Exa Z h24 b8 "com/example/wedgewise/wedgewise/SeededRandom" := (p20_0.wr W24)
  obtain ⟨cq28, kq28, q28a, q28b, q28c⟩ := isOf hZ e24 c27
  obtain ⟨_, _, ⟨T28, L28, k28, n28⟩, -, X28, ⟨Lc28, hQ28, l28, y28, z28⟩, st28⟩ := X24.virtualBack hx (y := (⟨"com/example/wedgewise/wedgewise/SeededRandom", "nextLong", "()J"⟩ : MethodName)) (z := (⟨"com/example/wedgewise/wedgewise/SeededRandom", "nextLong", "()J"⟩ : MethodName)) hown (mvT hZ (hw _ (List.mem_of_getElem? (i := 12) rfl))) (mvT hZ (hw _ (List.mem_of_getElem? (i := 13) rfl))) (notFace_of_selects (args := #[]) (mvT hZ (hw _ (List.mem_of_getElem? (i := 15) rfl)))) (mvT hZ (hw _ (List.mem_of_getElem? (i := 15) rfl))) (mvT hZ (hw _ (List.mem_of_getElem? (i := 14) rfl))) (by decide) (backOf (W := 2) (rm3 l Z a0 hw [] b8 (P0 + (-7046029254386353131 : Int64)) h24 n0 Z25 c26 c27 g_b8) hZ (hw _ (List.mem_of_getElem? (i := 16) rfl)) (hw _ (List.mem_of_getElem? (i := 3) rfl)) (by decide) (by decide)) q28a q28c (g := (mkF m 74 #[.val (.long P0), .second, .val (.long P1), .second, .val (.int P2), .val (.long (-7046029254386353131 : Int64)), .second, .val (.ref b1), .val (.long (own_mix ((P0 + (P1 * (-7046029254386353131 : Int64))) + (-7046029254386353131 : Int64)))), .second, .val (.int (1 : Int32)), .val (.ref b8), .val (.ref b13), .unset, .unset] [(.ref b8), (.int (1 : Int32)), (.ref b13)])) rfl (by rw [hml]; rfl) (Steps.refl _) (argsL := []) (rest := [(.int (1 : Int32)), (.ref b13)]) (lenOf pd_0_1 rfl) rfl (by show 2 * 0 + _ ≤ _; exact Nat.le_of_eq rfl) (hb hby at_74) (fun _ _ => ⟨rfl, e24, (by decide : 3 + 0 ≤ _), (by decide : 6 + 0 ≤ _)⟩)
  dsimp only [Pt.U, Pt.locs, Pt.cells, Pt.slots] at X28 l28 y28 z28 st28 hQ28
  subst l28 y28 z28
  obtain ⟨rfl, N28q, K28, p28_0, p28_1⟩ := hQ28
  have N28 := Fr.app N24 N28q
  have Z29 : n0 ≤ T28.heap.size := Nat.le_trans Z25 K28.1
  have c30 : Arv Z T28.heap b13 k13 .long (4 : Int32) [(.long (own_mix (P0 + (-7046029254386353131 : Int64)))), (.long (0 : Int64)), (.long (0 : Int64)), (.long (0 : Int64))] (.long (0 : Int64)) := (V24.keep K28 (ninS (Ne.symm ne16) nin0))
  obtain ⟨cl31, Ar31, q31, S31, N_31, H31, G31⟩ := c30
  have hin31 : ¬ ((1 : Int32) < 0 ∨ cl31.slots.size ≤ ((1 : Int32)).toNatClampNeg) := inb_of S31 ⟨by decide, by decide⟩
  obtain ⟨T32, h32, X32, e32, W32, st32⟩ := stJ X28 hx hZ rfl Ar31 (j := (1 : Int32)) hin31 (g := (mkF m 77 #[.val (.long P0), .second, .val (.long P1), .second, .val (.int P2), .val (.long (-7046029254386353131 : Int64)), .second, .val (.ref b1), .val (.long (own_mix ((P0 + (P1 * (-7046029254386353131 : Int64))) + (-7046029254386353131 : Int64)))), .second, .val (.int (1 : Int32)), .val (.ref b8), .val (.ref b13), .unset, .unset] [(.long (own_mix ((P0 + (-7046029254386353131 : Int64)) + (-7046029254386353131 : Int64)))), (.int (1 : Int32)), (.ref b13)])) rfl rfl (hb hby at_77)
  have Z33 : n0 ≤ h32.size := Nat.le_trans Z29 (Nat.le_of_eq W32.size.symm)
  have V32 : Arv Z h32 b13 k13 .long (4 : Int32) [(.long (own_mix (P0 + (-7046029254386353131 : Int64)))), (.long (own_mix ((P0 + (-7046029254386353131 : Int64)) + (-7046029254386353131 : Int64)))), (.long (0 : Int64)), (.long (0 : Int64))] (.long (0 : Int64)) := Arv.set Ar31 q31 S31 N_31 H31 G31 rfl W32 1 rfl (Nat.le_of_ble_eq_true rfl)
  have N32 := Fr.snoc X32 N28 g_b13
  have c34 : Fld Z h32 b8 "com/example/wedgewise/wedgewise/SeededRandom" "state" "J" (.long ((P0 + (-7046029254386353131 : Int64)) + (-7046029254386353131 : Int64))) := (p28_1.other W32 (Or.inl ne16))
  have c35 : Exa Z h32 b8 "com/example/wedgewise/wedgewise/SeededRandom" := (p28_0.wr W32)
  obtain ⟨cq36, kq36, q36a, q36b, q36c⟩ := isOf hZ e32 c35
  obtain ⟨_, _, ⟨T36, L36, k36, n36⟩, -, X36, ⟨Lc36, hQ36, l36, y36, z36⟩, st36⟩ := X32.virtualBack hx (y := (⟨"com/example/wedgewise/wedgewise/SeededRandom", "nextLong", "()J"⟩ : MethodName)) (z := (⟨"com/example/wedgewise/wedgewise/SeededRandom", "nextLong", "()J"⟩ : MethodName)) hown (mvT hZ (hw _ (List.mem_of_getElem? (i := 12) rfl))) (mvT hZ (hw _ (List.mem_of_getElem? (i := 13) rfl))) (notFace_of_selects (args := #[]) (mvT hZ (hw _ (List.mem_of_getElem? (i := 15) rfl)))) (mvT hZ (hw _ (List.mem_of_getElem? (i := 15) rfl))) (mvT hZ (hw _ (List.mem_of_getElem? (i := 14) rfl))) (by decide) (backOf (W := 2) (rm3 l Z a0 hw [] b8 ((P0 + (-7046029254386353131 : Int64)) + (-7046029254386353131 : Int64)) h32 n0 Z33 c34 c35 g_b8) hZ (hw _ (List.mem_of_getElem? (i := 16) rfl)) (hw _ (List.mem_of_getElem? (i := 3) rfl)) (by decide) (by decide)) q36a q36c (g := (mkF m 83 #[.val (.long P0), .second, .val (.long P1), .second, .val (.int P2), .val (.long (-7046029254386353131 : Int64)), .second, .val (.ref b1), .val (.long (own_mix ((P0 + (P1 * (-7046029254386353131 : Int64))) + (-7046029254386353131 : Int64)))), .second, .val (.int (1 : Int32)), .val (.ref b8), .val (.ref b13), .unset, .unset] [(.ref b8), (.int (2 : Int32)), (.ref b13)])) rfl (by rw [hml]; rfl) (Steps.refl _) (argsL := []) (rest := [(.int (2 : Int32)), (.ref b13)]) (lenOf pd_0_1 rfl) rfl (by show 2 * 0 + _ ≤ _; exact Nat.le_of_eq rfl) (hb hby at_83) (fun _ _ => ⟨rfl, e32, (by decide : 3 + 0 ≤ _), (by decide : 6 + 0 ≤ _)⟩)
  dsimp only [Pt.U, Pt.locs, Pt.cells, Pt.slots] at X36 l36 y36 z36 st36 hQ36
  subst l36 y36 z36
  obtain ⟨rfl, N36q, K36, p36_0, p36_1⟩ := hQ36
  have N36 := Fr.app N32 N36q
  have Z37 : n0 ≤ T36.heap.size := Nat.le_trans Z33 K36.1
  have c38 : Arv Z T36.heap b13 k13 .long (4 : Int32) [(.long (own_mix (P0 + (-7046029254386353131 : Int64)))), (.long (own_mix ((P0 + (-7046029254386353131 : Int64)) + (-7046029254386353131 : Int64)))), (.long (0 : Int64)), (.long (0 : Int64))] (.long (0 : Int64)) := (V32.keep K36 (ninS (Ne.symm ne16) nin0))
  obtain ⟨cl39, Ar39, q39, S39, N_39, H39, G39⟩ := c38
  have hin39 : ¬ ((2 : Int32) < 0 ∨ cl39.slots.size ≤ ((2 : Int32)).toNatClampNeg) := inb_of S39 ⟨by decide, by decide⟩
  obtain ⟨T40, h40, X40, e40, W40, st40⟩ := stJ X36 hx hZ rfl Ar39 (j := (2 : Int32)) hin39 (g := (mkF m 86 #[.val (.long P0), .second, .val (.long P1), .second, .val (.int P2), .val (.long (-7046029254386353131 : Int64)), .second, .val (.ref b1), .val (.long (own_mix ((P0 + (P1 * (-7046029254386353131 : Int64))) + (-7046029254386353131 : Int64)))), .second, .val (.int (1 : Int32)), .val (.ref b8), .val (.ref b13), .unset, .unset] [(.long (own_mix (((P0 + (-7046029254386353131 : Int64)) + (-7046029254386353131 : Int64)) + (-7046029254386353131 : Int64)))), (.int (2 : Int32)), (.ref b13)])) rfl rfl (hb hby at_86)
  have Z41 : n0 ≤ h40.size := Nat.le_trans Z37 (Nat.le_of_eq W40.size.symm)
  have V40 : Arv Z h40 b13 k13 .long (4 : Int32) [(.long (own_mix (P0 + (-7046029254386353131 : Int64)))), (.long (own_mix ((P0 + (-7046029254386353131 : Int64)) + (-7046029254386353131 : Int64)))), (.long (own_mix (((P0 + (-7046029254386353131 : Int64)) + (-7046029254386353131 : Int64)) + (-7046029254386353131 : Int64)))), (.long (0 : Int64))] (.long (0 : Int64)) := Arv.set Ar39 q39 S39 N_39 H39 G39 rfl W40 2 rfl (Nat.le_of_ble_eq_true rfl)
  have N40 := Fr.snoc X40 N36 g_b13
  have c42 : Fld Z h40 b8 "com/example/wedgewise/wedgewise/SeededRandom" "state" "J" (.long (((P0 + (-7046029254386353131 : Int64)) + (-7046029254386353131 : Int64)) + (-7046029254386353131 : Int64))) := (p36_1.other W40 (Or.inl ne16))
  have c43 : Exa Z h40 b8 "com/example/wedgewise/wedgewise/SeededRandom" := (p36_0.wr W40)
  obtain ⟨cq44, kq44, q44a, q44b, q44c⟩ := isOf hZ e40 c43
  obtain ⟨_, _, ⟨T44, L44, k44, n44⟩, -, X44, ⟨Lc44, hQ44, l44, y44, z44⟩, st44⟩ := X40.virtualBack hx (y := (⟨"com/example/wedgewise/wedgewise/SeededRandom", "nextLong", "()J"⟩ : MethodName)) (z := (⟨"com/example/wedgewise/wedgewise/SeededRandom", "nextLong", "()J"⟩ : MethodName)) hown (mvT hZ (hw _ (List.mem_of_getElem? (i := 12) rfl))) (mvT hZ (hw _ (List.mem_of_getElem? (i := 13) rfl))) (notFace_of_selects (args := #[]) (mvT hZ (hw _ (List.mem_of_getElem? (i := 15) rfl)))) (mvT hZ (hw _ (List.mem_of_getElem? (i := 15) rfl))) (mvT hZ (hw _ (List.mem_of_getElem? (i := 14) rfl))) (by decide) (backOf (W := 2) (rm3 l Z a0 hw [] b8 (((P0 + (-7046029254386353131 : Int64)) + (-7046029254386353131 : Int64)) + (-7046029254386353131 : Int64)) h40 n0 Z41 c42 c43 g_b8) hZ (hw _ (List.mem_of_getElem? (i := 16) rfl)) (hw _ (List.mem_of_getElem? (i := 3) rfl)) (by decide) (by decide)) q44a q44c (g := (mkF m 92 #[.val (.long P0), .second, .val (.long P1), .second, .val (.int P2), .val (.long (-7046029254386353131 : Int64)), .second, .val (.ref b1), .val (.long (own_mix ((P0 + (P1 * (-7046029254386353131 : Int64))) + (-7046029254386353131 : Int64)))), .second, .val (.int (1 : Int32)), .val (.ref b8), .val (.ref b13), .unset, .unset] [(.ref b8), (.int (3 : Int32)), (.ref b13)])) rfl (by rw [hml]; rfl) (Steps.refl _) (argsL := []) (rest := [(.int (3 : Int32)), (.ref b13)]) (lenOf pd_0_1 rfl) rfl (by show 2 * 0 + _ ≤ _; exact Nat.le_of_eq rfl) (hb hby at_92) (fun _ _ => ⟨rfl, e40, (by decide : 3 + 0 ≤ _), (by decide : 6 + 0 ≤ _)⟩)
  dsimp only [Pt.U, Pt.locs, Pt.cells, Pt.slots] at X44 l44 y44 z44 st44 hQ44
  subst l44 y44 z44
  obtain ⟨rfl, N44q, K44, p44_0, p44_1⟩ := hQ44
  have N44 := Fr.app N40 N44q
  have Z45 : n0 ≤ T44.heap.size := Nat.le_trans Z41 K44.1
  have c46 : Arv Z T44.heap b13 k13 .long (4 : Int32) [(.long (own_mix (P0 + (-7046029254386353131 : Int64)))), (.long (own_mix ((P0 + (-7046029254386353131 : Int64)) + (-7046029254386353131 : Int64)))), (.long (own_mix (((P0 + (-7046029254386353131 : Int64)) + (-7046029254386353131 : Int64)) + (-7046029254386353131 : Int64)))), (.long (0 : Int64))] (.long (0 : Int64)) := (V40.keep K44 (ninS (Ne.symm ne16) nin0))
  obtain ⟨cl47, Ar47, q47, S47, N_47, H47, G47⟩ := c46
  have hin47 : ¬ ((3 : Int32) < 0 ∨ cl47.slots.size ≤ ((3 : Int32)).toNatClampNeg) := inb_of S47 ⟨by decide, by decide⟩
  obtain ⟨T48, h48, X48, e48, W48, st48⟩ := stJ X44 hx hZ rfl Ar47 (j := (3 : Int32)) hin47 (g := (mkF m 95 #[.val (.long P0), .second, .val (.long P1), .second, .val (.int P2), .val (.long (-7046029254386353131 : Int64)), .second, .val (.ref b1), .val (.long (own_mix ((P0 + (P1 * (-7046029254386353131 : Int64))) + (-7046029254386353131 : Int64)))), .second, .val (.int (1 : Int32)), .val (.ref b8), .val (.ref b13), .unset, .unset] [(.long (own_mix ((((P0 + (-7046029254386353131 : Int64)) + (-7046029254386353131 : Int64)) + (-7046029254386353131 : Int64)) + (-7046029254386353131 : Int64)))), (.int (3 : Int32)), (.ref b13)])) rfl rfl (hb hby at_95)
  have Z49 : n0 ≤ h48.size := Nat.le_trans Z45 (Nat.le_of_eq W48.size.symm)
  have V48 : Arv Z h48 b13 k13 .long (4 : Int32) [(.long (own_mix (P0 + (-7046029254386353131 : Int64)))), (.long (own_mix ((P0 + (-7046029254386353131 : Int64)) + (-7046029254386353131 : Int64)))), (.long (own_mix (((P0 + (-7046029254386353131 : Int64)) + (-7046029254386353131 : Int64)) + (-7046029254386353131 : Int64)))), (.long (own_mix ((((P0 + (-7046029254386353131 : Int64)) + (-7046029254386353131 : Int64)) + (-7046029254386353131 : Int64)) + (-7046029254386353131 : Int64))))] (.long (0 : Int64)) := Arv.set Ar47 q47 S47 N_47 H47 G47 rfl W48 3 rfl (Nat.le_of_ble_eq_true rfl)
  have N48 := Fr.snoc X48 N44 g_b13
  obtain ⟨_, _, ⟨T50, L50, k50, n50⟩, -, X50, ⟨Lc50, hQ50, l50, y50, z50⟩, st50⟩ := Jvm.LawKit.callS X48 hx (y := (⟨"com/example/wedgewise/wedgewise/SeededRandom", "longAt", "(JJ)J"⟩ : MethodName)) hown (mvT hZ (hw _ (List.mem_of_getElem? (i := 23) rfl))) (mvT hZ (hw _ (List.mem_of_getElem? (i := 24) rfl))) (mvT hZ (hw _ (List.mem_of_getElem? (i := 3) rfl))) (mvT hZ (hw _ (List.mem_of_getElem? (i := 25) rfl))) (by decide) (backOf (W := 0) (rm5 l Z a0 hw [] P0 ((P2 &&& (3 : Int32)).toInt64) h48 n0 Z49 ) hZ (hw _ (List.mem_of_getElem? (i := 25) rfl)) (hw _ (List.mem_of_getElem? (i := 3) rfl)) (by decide) (by decide)) (g := (mkF m 106 #[.val (.long P0), .second, .val (.long P1), .second, .val (.int P2), .val (.long (-7046029254386353131 : Int64)), .second, .val (.ref b1), .val (.long (own_mix ((P0 + (P1 * (-7046029254386353131 : Int64))) + (-7046029254386353131 : Int64)))), .second, .val (.int (1 : Int32)), .val (.ref b8), .val (.ref b13), .val (.int (P2 &&& (3 : Int32))), .unset] [(.long ((P2 &&& (3 : Int32)).toInt64)), (.long P0)])) rfl (by rw [hml]; rfl) (argsL := [(.long P0), (.long ((P2 &&& (3 : Int32)).toInt64))]) (rest := []) (lenOf pd_0_2 rfl) rfl (by show 2 * 0 + _ ≤ _; exact Nat.le_of_eq rfl) (hb hby at_106) (fun _ _ => ⟨rfl, e48, (by decide : 3 + 0 ≤ _), (by decide : 6 + 0 ≤ _)⟩)
  dsimp only [Pt.U, Pt.locs, Pt.cells, Pt.slots] at X50 l50 y50 z50 st50 hQ50
  subst l50 y50 z50
  obtain ⟨rfl, N50q, K50⟩ := hQ50
  have N50 := Fr.app N48 N50q
  obtain ⟨cl51, Ar51, q51, S51, N_51, H51, G51⟩ := V48
  have hin51 : ¬ ((P2 &&& (3 : Int32)) < 0 ∨ cl51.slots.size ≤ ((P2 &&& (3 : Int32))).toNatClampNeg) := inb_of S51 (own_in _ (own_and3 P2))
  have pre52 : ∀ t, Steps p.tables e below (T50.setTop (mkF m 140 #[.val (.long P0), .second, .val (.long P1), .second, .val (.int P2), .val (.long (-7046029254386353131 : Int64)), .second, .val (.ref b1), .val (.long (own_mix ((P0 + (P1 * (-7046029254386353131 : Int64))) + (-7046029254386353131 : Int64)))), .second, .val (.int (1 : Int32)), .val (.ref b8), .val (.ref b13), .val (.int (P2 &&& (3 : Int32))), .val (.int (1 : Int32))] [(.int (1 : Int32))])) t → Steps p.tables e below (s₁.setTop (entryFrame m #[(.long P0), (.long P1), (.int P2)] maxLocals)) t := fun t kt => pre0 t (by
      show Steps p.tables e below (s₁.setTop (mkF m 0 #[.val (.long P0), .second, .val (.long P1), .second, .val (.int P2), .unset, .unset, .unset, .unset, .unset, .unset, .unset, .unset, .unset, .unset] [])) _
      refine X0.ldc2Long hx hown (mvT hZ (hw _ (List.mem_of_getElem? (i := 0) rfl))) (g := (mkF m 0 #[.val (.long P0), .second, .val (.long P1), .second, .val (.int P2), .unset, .unset, .unset, .unset, .unset, .unset, .unset, .unset, .unset, .unset] [])) rfl (hb hby at_0) _ ?_
      show Steps p.tables e below (s₁.setTop (mkF m 3 #[.val (.long P0), .second, .val (.long P1), .second, .val (.int P2), .unset, .unset, .unset, .unset, .unset, .unset, .unset, .unset, .unset, .unset] [(.long (-7046029254386353131 : Int64))])) _
      refine XS.lstore X0.here hx rfl (hb hby at_3) rfl (l' := #[.val (.long P0), .second, .val (.long P1), .second, .val (.int P2), .val (.long (-7046029254386353131 : Int64)), .second, .unset, .unset, .unset, .unset, .unset, .unset, .unset, .unset]) rfl ?_
      show Steps p.tables e below (s₁.setTop (mkF m 5 #[.val (.long P0), .second, .val (.long P1), .second, .val (.int P2), .val (.long (-7046029254386353131 : Int64)), .second, .unset, .unset, .unset, .unset, .unset, .unset, .unset, .unset] [])) _
      refine st1 _ ?_
      show Steps p.tables e below (T1.setTop (mkF m 8 #[.val (.long P0), .second, .val (.long P1), .second, .val (.int P2), .val (.long (-7046029254386353131 : Int64)), .second, .unset, .unset, .unset, .unset, .unset, .unset, .unset, .unset] [(.ref b1)])) _
      refine XS.dup X1.here hx rfl (hb hby at_8) rfl rfl ?_
      show Steps p.tables e below (T1.setTop (mkF m 9 #[.val (.long P0), .second, .val (.long P1), .second, .val (.int P2), .val (.long (-7046029254386353131 : Int64)), .second, .unset, .unset, .unset, .unset, .unset, .unset, .unset, .unset] [(.ref b1), (.ref b1)])) _
      refine XS.lloadN X1.here hx rfl (hb hby at_9) rfl ?_
      show Steps p.tables e below (T1.setTop (mkF m 10 #[.val (.long P0), .second, .val (.long P1), .second, .val (.int P2), .val (.long (-7046029254386353131 : Int64)), .second, .unset, .unset, .unset, .unset, .unset, .unset, .unset, .unset] [(.long P0), (.ref b1), (.ref b1)])) _
      refine XS.lloadN X1.here hx rfl (hb hby at_10) rfl ?_
      show Steps p.tables e below (T1.setTop (mkF m 11 #[.val (.long P0), .second, .val (.long P1), .second, .val (.int P2), .val (.long (-7046029254386353131 : Int64)), .second, .unset, .unset, .unset, .unset, .unset, .unset, .unset, .unset] [(.long P1), (.long P0), (.ref b1), (.ref b1)])) _
      refine XS.lload X1.here hx rfl (hb hby at_11) rfl ?_
      show Steps p.tables e below (T1.setTop (mkF m 13 #[.val (.long P0), .second, .val (.long P1), .second, .val (.int P2), .val (.long (-7046029254386353131 : Int64)), .second, .unset, .unset, .unset, .unset, .unset, .unset, .unset, .unset] [(.long (-7046029254386353131 : Int64)), (.long P1), (.long P0), (.ref b1), (.ref b1)])) _
      refine XS.lmul X1.here hx rfl (hb hby at_13) rfl ?_
      show Steps p.tables e below (T1.setTop (mkF m 14 #[.val (.long P0), .second, .val (.long P1), .second, .val (.int P2), .val (.long (-7046029254386353131 : Int64)), .second, .unset, .unset, .unset, .unset, .unset, .unset, .unset, .unset] [(.long (P1 * (-7046029254386353131 : Int64))), (.long P0), (.ref b1), (.ref b1)])) _
      refine XS.ladd X1.here hx rfl (hb hby at_14) rfl ?_
      show Steps p.tables e below (T1.setTop (mkF m 15 #[.val (.long P0), .second, .val (.long P1), .second, .val (.int P2), .val (.long (-7046029254386353131 : Int64)), .second, .unset, .unset, .unset, .unset, .unset, .unset, .unset, .unset] [(.long (P0 + (P1 * (-7046029254386353131 : Int64)))), (.ref b1), (.ref b1)])) _
      refine st3.trans ?_
      show Steps p.tables e below (T3.setTop (mkF m 18 #[.val (.long P0), .second, .val (.long P1), .second, .val (.int P2), .val (.long (-7046029254386353131 : Int64)), .second, .unset, .unset, .unset, .unset, .unset, .unset, .unset, .unset] [(.ref b1)])) _
      refine XS.astore X3.here hx rfl (hb hby at_18) rfl rfl (l' := #[.val (.long P0), .second, .val (.long P1), .second, .val (.int P2), .val (.long (-7046029254386353131 : Int64)), .second, .val (.ref b1), .unset, .unset, .unset, .unset, .unset, .unset, .unset]) rfl ?_
      show Steps p.tables e below (T3.setTop (mkF m 20 #[.val (.long P0), .second, .val (.long P1), .second, .val (.int P2), .val (.long (-7046029254386353131 : Int64)), .second, .val (.ref b1), .unset, .unset, .unset, .unset, .unset, .unset, .unset] [])) _
      refine XS.aload X3.here hx rfl (hb hby at_20) rfl rfl ?_
      show Steps p.tables e below (T3.setTop (mkF m 22 #[.val (.long P0), .second, .val (.long P1), .second, .val (.int P2), .val (.long (-7046029254386353131 : Int64)), .second, .val (.ref b1), .unset, .unset, .unset, .unset, .unset, .unset, .unset] [(.ref b1)])) _
      refine st5.trans ?_
      show Steps p.tables e below (T5.setTop (mkF m 25 #[.val (.long P0), .second, .val (.long P1), .second, .val (.int P2), .val (.long (-7046029254386353131 : Int64)), .second, .val (.ref b1), .unset, .unset, .unset, .unset, .unset, .unset, .unset] [(.long (own_mix ((P0 + (P1 * (-7046029254386353131 : Int64))) + (-7046029254386353131 : Int64))))])) _
      refine XS.lstore X5.here hx rfl (hb hby at_25) rfl (l' := #[.val (.long P0), .second, .val (.long P1), .second, .val (.int P2), .val (.long (-7046029254386353131 : Int64)), .second, .val (.ref b1), .val (.long (own_mix ((P0 + (P1 * (-7046029254386353131 : Int64))) + (-7046029254386353131 : Int64)))), .second, .unset, .unset, .unset, .unset, .unset]) rfl ?_
      show Steps p.tables e below (T5.setTop (mkF m 27 #[.val (.long P0), .second, .val (.long P1), .second, .val (.int P2), .val (.long (-7046029254386353131 : Int64)), .second, .val (.ref b1), .val (.long (own_mix ((P0 + (P1 * (-7046029254386353131 : Int64))) + (-7046029254386353131 : Int64)))), .second, .unset, .unset, .unset, .unset, .unset] [])) _
      refine XS.lloadN X5.here hx rfl (hb hby at_27) rfl ?_
      show Steps p.tables e below (T5.setTop (mkF m 28 #[.val (.long P0), .second, .val (.long P1), .second, .val (.int P2), .val (.long (-7046029254386353131 : Int64)), .second, .val (.ref b1), .val (.long (own_mix ((P0 + (P1 * (-7046029254386353131 : Int64))) + (-7046029254386353131 : Int64)))), .second, .unset, .unset, .unset, .unset, .unset] [(.long P0)])) _
      refine XS.lloadN X5.here hx rfl (hb hby at_28) rfl ?_
      show Steps p.tables e below (T5.setTop (mkF m 29 #[.val (.long P0), .second, .val (.long P1), .second, .val (.int P2), .val (.long (-7046029254386353131 : Int64)), .second, .val (.ref b1), .val (.long (own_mix ((P0 + (P1 * (-7046029254386353131 : Int64))) + (-7046029254386353131 : Int64)))), .second, .unset, .unset, .unset, .unset, .unset] [(.long P1), (.long P0)])) _
      refine st7 _ ?_
      show Steps p.tables e below (T7.setTop (mkF m 32 #[.val (.long P0), .second, .val (.long P1), .second, .val (.int P2), .val (.long (-7046029254386353131 : Int64)), .second, .val (.ref b1), .val (.long (own_mix ((P0 + (P1 * (-7046029254386353131 : Int64))) + (-7046029254386353131 : Int64)))), .second, .unset, .unset, .unset, .unset, .unset] [(.long (own_mix (P0 + ((P1 + (1 : Int64)) * (-7046029254386353131 : Int64)))))])) _
      refine XS.lload X7.here hx rfl (hb hby at_32) rfl ?_
      show Steps p.tables e below (T7.setTop (mkF m 34 #[.val (.long P0), .second, .val (.long P1), .second, .val (.int P2), .val (.long (-7046029254386353131 : Int64)), .second, .val (.ref b1), .val (.long (own_mix ((P0 + (P1 * (-7046029254386353131 : Int64))) + (-7046029254386353131 : Int64)))), .second, .unset, .unset, .unset, .unset, .unset] [(.long (own_mix ((P0 + (P1 * (-7046029254386353131 : Int64))) + (-7046029254386353131 : Int64)))), (.long (own_mix (P0 + ((P1 + (1 : Int64)) * (-7046029254386353131 : Int64)))))])) _
      refine XS.lcmp X7.here hx rfl (hb hby at_34) rfl ?_
      show Steps p.tables e below (T7.setTop (mkF m 35 #[.val (.long P0), .second, .val (.long P1), .second, .val (.int P2), .val (.long (-7046029254386353131 : Int64)), .second, .val (.ref b1), .val (.long (own_mix ((P0 + (P1 * (-7046029254386353131 : Int64))) + (-7046029254386353131 : Int64)))), .second, .unset, .unset, .unset, .unset, .unset] [(.int (lcmpW (own_mix (P0 + ((P1 + (1 : Int64)) * (-7046029254386353131 : Int64)))) (own_mix ((P0 + (P1 * (-7046029254386353131 : Int64))) + (-7046029254386353131 : Int64)))))])) _
      refine XS.ifNo X7.here hx rfl (hb hby at_35) rfl ((if0 _ _).trans (teq ((lw_eq (own_mix (P0 + ((P1 + (1 : Int64)) * (-7046029254386353131 : Int64)))) (own_mix ((P0 + (P1 * (-7046029254386353131 : Int64))) + (-7046029254386353131 : Int64)))).mpr (show (own_mix (P0 + ((P1 + (1 : Int64)) * (-7046029254386353131 : Int64)))) = (own_mix ((P0 + (P1 * (-7046029254386353131 : Int64))) + (-7046029254386353131 : Int64))) from (own_far _ _)))).2) ?_
      show Steps p.tables e below (T7.setTop (mkF m 38 #[.val (.long P0), .second, .val (.long P1), .second, .val (.int P2), .val (.long (-7046029254386353131 : Int64)), .second, .val (.ref b1), .val (.long (own_mix ((P0 + (P1 * (-7046029254386353131 : Int64))) + (-7046029254386353131 : Int64)))), .second, .unset, .unset, .unset, .unset, .unset] [])) _
      refine XS.iconst X7.here hx rfl (hb hby at_38) ?_
      show Steps p.tables e below (T7.setTop (mkF m 39 #[.val (.long P0), .second, .val (.long P1), .second, .val (.int P2), .val (.long (-7046029254386353131 : Int64)), .second, .val (.ref b1), .val (.long (own_mix ((P0 + (P1 * (-7046029254386353131 : Int64))) + (-7046029254386353131 : Int64)))), .second, .unset, .unset, .unset, .unset, .unset] [(.int (1 : Int32))])) _
      refine XS.goto X7.here hx rfl (pc0 := 39) (pc' := 43) rfl (hb hby at_39) (by decide) (by decide) ?_
      show Steps p.tables e below (T7.setTop (mkF m 43 #[.val (.long P0), .second, .val (.long P1), .second, .val (.int P2), .val (.long (-7046029254386353131 : Int64)), .second, .val (.ref b1), .val (.long (own_mix ((P0 + (P1 * (-7046029254386353131 : Int64))) + (-7046029254386353131 : Int64)))), .second, .unset, .unset, .unset, .unset, .unset] [(.int (1 : Int32))])) _
      refine XS.istore X7.here hx rfl (hb hby at_43) rfl (l' := #[.val (.long P0), .second, .val (.long P1), .second, .val (.int P2), .val (.long (-7046029254386353131 : Int64)), .second, .val (.ref b1), .val (.long (own_mix ((P0 + (P1 * (-7046029254386353131 : Int64))) + (-7046029254386353131 : Int64)))), .second, .val (.int (1 : Int32)), .unset, .unset, .unset, .unset]) rfl ?_
      show Steps p.tables e below (T7.setTop (mkF m 45 #[.val (.long P0), .second, .val (.long P1), .second, .val (.int P2), .val (.long (-7046029254386353131 : Int64)), .second, .val (.ref b1), .val (.long (own_mix ((P0 + (P1 * (-7046029254386353131 : Int64))) + (-7046029254386353131 : Int64)))), .second, .val (.int (1 : Int32)), .unset, .unset, .unset, .unset] [])) _
      refine st8 _ ?_
      show Steps p.tables e below (T8.setTop (mkF m 48 #[.val (.long P0), .second, .val (.long P1), .second, .val (.int P2), .val (.long (-7046029254386353131 : Int64)), .second, .val (.ref b1), .val (.long (own_mix ((P0 + (P1 * (-7046029254386353131 : Int64))) + (-7046029254386353131 : Int64)))), .second, .val (.int (1 : Int32)), .unset, .unset, .unset, .unset] [(.ref b8)])) _
      refine XS.dup X8.here hx rfl (hb hby at_48) rfl rfl ?_
      show Steps p.tables e below (T8.setTop (mkF m 49 #[.val (.long P0), .second, .val (.long P1), .second, .val (.int P2), .val (.long (-7046029254386353131 : Int64)), .second, .val (.ref b1), .val (.long (own_mix ((P0 + (P1 * (-7046029254386353131 : Int64))) + (-7046029254386353131 : Int64)))), .second, .val (.int (1 : Int32)), .unset, .unset, .unset, .unset] [(.ref b8), (.ref b8)])) _
      refine XS.lloadN X8.here hx rfl (hb hby at_49) rfl ?_
      show Steps p.tables e below (T8.setTop (mkF m 50 #[.val (.long P0), .second, .val (.long P1), .second, .val (.int P2), .val (.long (-7046029254386353131 : Int64)), .second, .val (.ref b1), .val (.long (own_mix ((P0 + (P1 * (-7046029254386353131 : Int64))) + (-7046029254386353131 : Int64)))), .second, .val (.int (1 : Int32)), .unset, .unset, .unset, .unset] [(.long P0), (.ref b8), (.ref b8)])) _
      refine st11.trans ?_
      show Steps p.tables e below (T11.setTop (mkF m 53 #[.val (.long P0), .second, .val (.long P1), .second, .val (.int P2), .val (.long (-7046029254386353131 : Int64)), .second, .val (.ref b1), .val (.long (own_mix ((P0 + (P1 * (-7046029254386353131 : Int64))) + (-7046029254386353131 : Int64)))), .second, .val (.int (1 : Int32)), .unset, .unset, .unset, .unset] [(.ref b8)])) _
      refine XS.astore X11.here hx rfl (hb hby at_53) rfl rfl (l' := #[.val (.long P0), .second, .val (.long P1), .second, .val (.int P2), .val (.long (-7046029254386353131 : Int64)), .second, .val (.ref b1), .val (.long (own_mix ((P0 + (P1 * (-7046029254386353131 : Int64))) + (-7046029254386353131 : Int64)))), .second, .val (.int (1 : Int32)), .val (.ref b8), .unset, .unset, .unset]) rfl ?_
      show Steps p.tables e below (T11.setTop (mkF m 55 #[.val (.long P0), .second, .val (.long P1), .second, .val (.int P2), .val (.long (-7046029254386353131 : Int64)), .second, .val (.ref b1), .val (.long (own_mix ((P0 + (P1 * (-7046029254386353131 : Int64))) + (-7046029254386353131 : Int64)))), .second, .val (.int (1 : Int32)), .val (.ref b8), .unset, .unset, .unset] [])) _
      refine XS.iconst X11.here hx rfl (hb hby at_55) ?_
      show Steps p.tables e below (T11.setTop (mkF m 56 #[.val (.long P0), .second, .val (.long P1), .second, .val (.int P2), .val (.long (-7046029254386353131 : Int64)), .second, .val (.ref b1), .val (.long (own_mix ((P0 + (P1 * (-7046029254386353131 : Int64))) + (-7046029254386353131 : Int64)))), .second, .val (.int (1 : Int32)), .val (.ref b8), .unset, .unset, .unset] [(.int (4 : Int32))])) _
      refine st13 _ ?_
      show Steps p.tables e below (T13.setTop (mkF m 58 #[.val (.long P0), .second, .val (.long P1), .second, .val (.int P2), .val (.long (-7046029254386353131 : Int64)), .second, .val (.ref b1), .val (.long (own_mix ((P0 + (P1 * (-7046029254386353131 : Int64))) + (-7046029254386353131 : Int64)))), .second, .val (.int (1 : Int32)), .val (.ref b8), .unset, .unset, .unset] [(.ref b13)])) _
      refine XS.astore X13.here hx rfl (hb hby at_58) rfl rfl (l' := #[.val (.long P0), .second, .val (.long P1), .second, .val (.int P2), .val (.long (-7046029254386353131 : Int64)), .second, .val (.ref b1), .val (.long (own_mix ((P0 + (P1 * (-7046029254386353131 : Int64))) + (-7046029254386353131 : Int64)))), .second, .val (.int (1 : Int32)), .val (.ref b8), .val (.ref b13), .unset, .unset]) rfl ?_
      show Steps p.tables e below (T13.setTop (mkF m 60 #[.val (.long P0), .second, .val (.long P1), .second, .val (.int P2), .val (.long (-7046029254386353131 : Int64)), .second, .val (.ref b1), .val (.long (own_mix ((P0 + (P1 * (-7046029254386353131 : Int64))) + (-7046029254386353131 : Int64)))), .second, .val (.int (1 : Int32)), .val (.ref b8), .val (.ref b13), .unset, .unset] [])) _
      refine XS.aload X13.here hx rfl (hb hby at_60) rfl rfl ?_
      show Steps p.tables e below (T13.setTop (mkF m 62 #[.val (.long P0), .second, .val (.long P1), .second, .val (.int P2), .val (.long (-7046029254386353131 : Int64)), .second, .val (.ref b1), .val (.long (own_mix ((P0 + (P1 * (-7046029254386353131 : Int64))) + (-7046029254386353131 : Int64)))), .second, .val (.int (1 : Int32)), .val (.ref b8), .val (.ref b13), .unset, .unset] [(.ref b13)])) _
      refine XS.iconst X13.here hx rfl (hb hby at_62) ?_
      show Steps p.tables e below (T13.setTop (mkF m 63 #[.val (.long P0), .second, .val (.long P1), .second, .val (.int P2), .val (.long (-7046029254386353131 : Int64)), .second, .val (.ref b1), .val (.long (own_mix ((P0 + (P1 * (-7046029254386353131 : Int64))) + (-7046029254386353131 : Int64)))), .second, .val (.int (1 : Int32)), .val (.ref b8), .val (.ref b13), .unset, .unset] [(.int (0 : Int32)), (.ref b13)])) _
      refine XS.aload X13.here hx rfl (hb hby at_63) rfl rfl ?_
      show Steps p.tables e below (T13.setTop (mkF m 65 #[.val (.long P0), .second, .val (.long P1), .second, .val (.int P2), .val (.long (-7046029254386353131 : Int64)), .second, .val (.ref b1), .val (.long (own_mix ((P0 + (P1 * (-7046029254386353131 : Int64))) + (-7046029254386353131 : Int64)))), .second, .val (.int (1 : Int32)), .val (.ref b8), .val (.ref b13), .unset, .unset] [(.ref b8), (.int (0 : Int32)), (.ref b13)])) _
      refine st20.trans ?_
      show Steps p.tables e below (T20.setTop (mkF m 68 #[.val (.long P0), .second, .val (.long P1), .second, .val (.int P2), .val (.long (-7046029254386353131 : Int64)), .second, .val (.ref b1), .val (.long (own_mix ((P0 + (P1 * (-7046029254386353131 : Int64))) + (-7046029254386353131 : Int64)))), .second, .val (.int (1 : Int32)), .val (.ref b8), .val (.ref b13), .unset, .unset] [(.long (own_mix (P0 + (-7046029254386353131 : Int64)))), (.int (0 : Int32)), (.ref b13)])) _
      refine st24 _ ?_
      show Steps p.tables e below (T24.setTop (mkF m 69 #[.val (.long P0), .second, .val (.long P1), .second, .val (.int P2), .val (.long (-7046029254386353131 : Int64)), .second, .val (.ref b1), .val (.long (own_mix ((P0 + (P1 * (-7046029254386353131 : Int64))) + (-7046029254386353131 : Int64)))), .second, .val (.int (1 : Int32)), .val (.ref b8), .val (.ref b13), .unset, .unset] [])) _
      refine XS.aload X24.here hx rfl (hb hby at_69) rfl rfl ?_
      show Steps p.tables e below (T24.setTop (mkF m 71 #[.val (.long P0), .second, .val (.long P1), .second, .val (.int P2), .val (.long (-7046029254386353131 : Int64)), .second, .val (.ref b1), .val (.long (own_mix ((P0 + (P1 * (-7046029254386353131 : Int64))) + (-7046029254386353131 : Int64)))), .second, .val (.int (1 : Int32)), .val (.ref b8), .val (.ref b13), .unset, .unset] [(.ref b13)])) _
      refine XS.iconst X24.here hx rfl (hb hby at_71) ?_
      show Steps p.tables e below (T24.setTop (mkF m 72 #[.val (.long P0), .second, .val (.long P1), .second, .val (.int P2), .val (.long (-7046029254386353131 : Int64)), .second, .val (.ref b1), .val (.long (own_mix ((P0 + (P1 * (-7046029254386353131 : Int64))) + (-7046029254386353131 : Int64)))), .second, .val (.int (1 : Int32)), .val (.ref b8), .val (.ref b13), .unset, .unset] [(.int (1 : Int32)), (.ref b13)])) _
      refine XS.aload X24.here hx rfl (hb hby at_72) rfl rfl ?_
      show Steps p.tables e below (T24.setTop (mkF m 74 #[.val (.long P0), .second, .val (.long P1), .second, .val (.int P2), .val (.long (-7046029254386353131 : Int64)), .second, .val (.ref b1), .val (.long (own_mix ((P0 + (P1 * (-7046029254386353131 : Int64))) + (-7046029254386353131 : Int64)))), .second, .val (.int (1 : Int32)), .val (.ref b8), .val (.ref b13), .unset, .unset] [(.ref b8), (.int (1 : Int32)), (.ref b13)])) _
      refine st28.trans ?_
      show Steps p.tables e below (T28.setTop (mkF m 77 #[.val (.long P0), .second, .val (.long P1), .second, .val (.int P2), .val (.long (-7046029254386353131 : Int64)), .second, .val (.ref b1), .val (.long (own_mix ((P0 + (P1 * (-7046029254386353131 : Int64))) + (-7046029254386353131 : Int64)))), .second, .val (.int (1 : Int32)), .val (.ref b8), .val (.ref b13), .unset, .unset] [(.long (own_mix ((P0 + (-7046029254386353131 : Int64)) + (-7046029254386353131 : Int64)))), (.int (1 : Int32)), (.ref b13)])) _
      refine st32 _ ?_
      show Steps p.tables e below (T32.setTop (mkF m 78 #[.val (.long P0), .second, .val (.long P1), .second, .val (.int P2), .val (.long (-7046029254386353131 : Int64)), .second, .val (.ref b1), .val (.long (own_mix ((P0 + (P1 * (-7046029254386353131 : Int64))) + (-7046029254386353131 : Int64)))), .second, .val (.int (1 : Int32)), .val (.ref b8), .val (.ref b13), .unset, .unset] [])) _
      refine XS.aload X32.here hx rfl (hb hby at_78) rfl rfl ?_
      show Steps p.tables e below (T32.setTop (mkF m 80 #[.val (.long P0), .second, .val (.long P1), .second, .val (.int P2), .val (.long (-7046029254386353131 : Int64)), .second, .val (.ref b1), .val (.long (own_mix ((P0 + (P1 * (-7046029254386353131 : Int64))) + (-7046029254386353131 : Int64)))), .second, .val (.int (1 : Int32)), .val (.ref b8), .val (.ref b13), .unset, .unset] [(.ref b13)])) _
      refine XS.iconst X32.here hx rfl (hb hby at_80) ?_
      show Steps p.tables e below (T32.setTop (mkF m 81 #[.val (.long P0), .second, .val (.long P1), .second, .val (.int P2), .val (.long (-7046029254386353131 : Int64)), .second, .val (.ref b1), .val (.long (own_mix ((P0 + (P1 * (-7046029254386353131 : Int64))) + (-7046029254386353131 : Int64)))), .second, .val (.int (1 : Int32)), .val (.ref b8), .val (.ref b13), .unset, .unset] [(.int (2 : Int32)), (.ref b13)])) _
      refine XS.aload X32.here hx rfl (hb hby at_81) rfl rfl ?_
      show Steps p.tables e below (T32.setTop (mkF m 83 #[.val (.long P0), .second, .val (.long P1), .second, .val (.int P2), .val (.long (-7046029254386353131 : Int64)), .second, .val (.ref b1), .val (.long (own_mix ((P0 + (P1 * (-7046029254386353131 : Int64))) + (-7046029254386353131 : Int64)))), .second, .val (.int (1 : Int32)), .val (.ref b8), .val (.ref b13), .unset, .unset] [(.ref b8), (.int (2 : Int32)), (.ref b13)])) _
      refine st36.trans ?_
      show Steps p.tables e below (T36.setTop (mkF m 86 #[.val (.long P0), .second, .val (.long P1), .second, .val (.int P2), .val (.long (-7046029254386353131 : Int64)), .second, .val (.ref b1), .val (.long (own_mix ((P0 + (P1 * (-7046029254386353131 : Int64))) + (-7046029254386353131 : Int64)))), .second, .val (.int (1 : Int32)), .val (.ref b8), .val (.ref b13), .unset, .unset] [(.long (own_mix (((P0 + (-7046029254386353131 : Int64)) + (-7046029254386353131 : Int64)) + (-7046029254386353131 : Int64)))), (.int (2 : Int32)), (.ref b13)])) _
      refine st40 _ ?_
      show Steps p.tables e below (T40.setTop (mkF m 87 #[.val (.long P0), .second, .val (.long P1), .second, .val (.int P2), .val (.long (-7046029254386353131 : Int64)), .second, .val (.ref b1), .val (.long (own_mix ((P0 + (P1 * (-7046029254386353131 : Int64))) + (-7046029254386353131 : Int64)))), .second, .val (.int (1 : Int32)), .val (.ref b8), .val (.ref b13), .unset, .unset] [])) _
      refine XS.aload X40.here hx rfl (hb hby at_87) rfl rfl ?_
      show Steps p.tables e below (T40.setTop (mkF m 89 #[.val (.long P0), .second, .val (.long P1), .second, .val (.int P2), .val (.long (-7046029254386353131 : Int64)), .second, .val (.ref b1), .val (.long (own_mix ((P0 + (P1 * (-7046029254386353131 : Int64))) + (-7046029254386353131 : Int64)))), .second, .val (.int (1 : Int32)), .val (.ref b8), .val (.ref b13), .unset, .unset] [(.ref b13)])) _
      refine XS.iconst X40.here hx rfl (hb hby at_89) ?_
      show Steps p.tables e below (T40.setTop (mkF m 90 #[.val (.long P0), .second, .val (.long P1), .second, .val (.int P2), .val (.long (-7046029254386353131 : Int64)), .second, .val (.ref b1), .val (.long (own_mix ((P0 + (P1 * (-7046029254386353131 : Int64))) + (-7046029254386353131 : Int64)))), .second, .val (.int (1 : Int32)), .val (.ref b8), .val (.ref b13), .unset, .unset] [(.int (3 : Int32)), (.ref b13)])) _
      refine XS.aload X40.here hx rfl (hb hby at_90) rfl rfl ?_
      show Steps p.tables e below (T40.setTop (mkF m 92 #[.val (.long P0), .second, .val (.long P1), .second, .val (.int P2), .val (.long (-7046029254386353131 : Int64)), .second, .val (.ref b1), .val (.long (own_mix ((P0 + (P1 * (-7046029254386353131 : Int64))) + (-7046029254386353131 : Int64)))), .second, .val (.int (1 : Int32)), .val (.ref b8), .val (.ref b13), .unset, .unset] [(.ref b8), (.int (3 : Int32)), (.ref b13)])) _
      refine st44.trans ?_
      show Steps p.tables e below (T44.setTop (mkF m 95 #[.val (.long P0), .second, .val (.long P1), .second, .val (.int P2), .val (.long (-7046029254386353131 : Int64)), .second, .val (.ref b1), .val (.long (own_mix ((P0 + (P1 * (-7046029254386353131 : Int64))) + (-7046029254386353131 : Int64)))), .second, .val (.int (1 : Int32)), .val (.ref b8), .val (.ref b13), .unset, .unset] [(.long (own_mix ((((P0 + (-7046029254386353131 : Int64)) + (-7046029254386353131 : Int64)) + (-7046029254386353131 : Int64)) + (-7046029254386353131 : Int64)))), (.int (3 : Int32)), (.ref b13)])) _
      refine st48 _ ?_
      show Steps p.tables e below (T48.setTop (mkF m 96 #[.val (.long P0), .second, .val (.long P1), .second, .val (.int P2), .val (.long (-7046029254386353131 : Int64)), .second, .val (.ref b1), .val (.long (own_mix ((P0 + (P1 * (-7046029254386353131 : Int64))) + (-7046029254386353131 : Int64)))), .second, .val (.int (1 : Int32)), .val (.ref b8), .val (.ref b13), .unset, .unset] [])) _
      refine XS.iload X48.here hx rfl (hb hby at_96) rfl ?_
      show Steps p.tables e below (T48.setTop (mkF m 98 #[.val (.long P0), .second, .val (.long P1), .second, .val (.int P2), .val (.long (-7046029254386353131 : Int64)), .second, .val (.ref b1), .val (.long (own_mix ((P0 + (P1 * (-7046029254386353131 : Int64))) + (-7046029254386353131 : Int64)))), .second, .val (.int (1 : Int32)), .val (.ref b8), .val (.ref b13), .unset, .unset] [(.int P2)])) _
      refine XS.iconst X48.here hx rfl (hb hby at_98) ?_
      show Steps p.tables e below (T48.setTop (mkF m 99 #[.val (.long P0), .second, .val (.long P1), .second, .val (.int P2), .val (.long (-7046029254386353131 : Int64)), .second, .val (.ref b1), .val (.long (own_mix ((P0 + (P1 * (-7046029254386353131 : Int64))) + (-7046029254386353131 : Int64)))), .second, .val (.int (1 : Int32)), .val (.ref b8), .val (.ref b13), .unset, .unset] [(.int (3 : Int32)), (.int P2)])) _
      refine XS.iand X48.here hx rfl (hb hby at_99) rfl ?_
      show Steps p.tables e below (T48.setTop (mkF m 100 #[.val (.long P0), .second, .val (.long P1), .second, .val (.int P2), .val (.long (-7046029254386353131 : Int64)), .second, .val (.ref b1), .val (.long (own_mix ((P0 + (P1 * (-7046029254386353131 : Int64))) + (-7046029254386353131 : Int64)))), .second, .val (.int (1 : Int32)), .val (.ref b8), .val (.ref b13), .unset, .unset] [(.int (P2 &&& (3 : Int32)))])) _
      refine XS.istore X48.here hx rfl (hb hby at_100) rfl (l' := #[.val (.long P0), .second, .val (.long P1), .second, .val (.int P2), .val (.long (-7046029254386353131 : Int64)), .second, .val (.ref b1), .val (.long (own_mix ((P0 + (P1 * (-7046029254386353131 : Int64))) + (-7046029254386353131 : Int64)))), .second, .val (.int (1 : Int32)), .val (.ref b8), .val (.ref b13), .val (.int (P2 &&& (3 : Int32))), .unset]) rfl ?_
      show Steps p.tables e below (T48.setTop (mkF m 102 #[.val (.long P0), .second, .val (.long P1), .second, .val (.int P2), .val (.long (-7046029254386353131 : Int64)), .second, .val (.ref b1), .val (.long (own_mix ((P0 + (P1 * (-7046029254386353131 : Int64))) + (-7046029254386353131 : Int64)))), .second, .val (.int (1 : Int32)), .val (.ref b8), .val (.ref b13), .val (.int (P2 &&& (3 : Int32))), .unset] [])) _
      refine XS.lloadN X48.here hx rfl (hb hby at_102) rfl ?_
      show Steps p.tables e below (T48.setTop (mkF m 103 #[.val (.long P0), .second, .val (.long P1), .second, .val (.int P2), .val (.long (-7046029254386353131 : Int64)), .second, .val (.ref b1), .val (.long (own_mix ((P0 + (P1 * (-7046029254386353131 : Int64))) + (-7046029254386353131 : Int64)))), .second, .val (.int (1 : Int32)), .val (.ref b8), .val (.ref b13), .val (.int (P2 &&& (3 : Int32))), .unset] [(.long P0)])) _
      refine XS.iload X48.here hx rfl (hb hby at_103) rfl ?_
      show Steps p.tables e below (T48.setTop (mkF m 105 #[.val (.long P0), .second, .val (.long P1), .second, .val (.int P2), .val (.long (-7046029254386353131 : Int64)), .second, .val (.ref b1), .val (.long (own_mix ((P0 + (P1 * (-7046029254386353131 : Int64))) + (-7046029254386353131 : Int64)))), .second, .val (.int (1 : Int32)), .val (.ref b8), .val (.ref b13), .val (.int (P2 &&& (3 : Int32))), .unset] [(.int (P2 &&& (3 : Int32))), (.long P0)])) _
      refine XS.i2l X48.here hx rfl (hb hby at_105) rfl ?_
      show Steps p.tables e below (T48.setTop (mkF m 106 #[.val (.long P0), .second, .val (.long P1), .second, .val (.int P2), .val (.long (-7046029254386353131 : Int64)), .second, .val (.ref b1), .val (.long (own_mix ((P0 + (P1 * (-7046029254386353131 : Int64))) + (-7046029254386353131 : Int64)))), .second, .val (.int (1 : Int32)), .val (.ref b8), .val (.ref b13), .val (.int (P2 &&& (3 : Int32))), .unset] [(.long ((P2 &&& (3 : Int32)).toInt64)), (.long P0)])) _
      refine st50 _ ?_
      show Steps p.tables e below (T50.setTop (mkF m 109 #[.val (.long P0), .second, .val (.long P1), .second, .val (.int P2), .val (.long (-7046029254386353131 : Int64)), .second, .val (.ref b1), .val (.long (own_mix ((P0 + (P1 * (-7046029254386353131 : Int64))) + (-7046029254386353131 : Int64)))), .second, .val (.int (1 : Int32)), .val (.ref b8), .val (.ref b13), .val (.int (P2 &&& (3 : Int32))), .unset] [(.long (own_mix (P0 + ((((P2 &&& (3 : Int32)).toInt64) + (1 : Int64)) * (-7046029254386353131 : Int64)))))])) _
      refine XS.aload X50.here hx rfl (hb hby at_109) rfl rfl ?_
      show Steps p.tables e below (T50.setTop (mkF m 111 #[.val (.long P0), .second, .val (.long P1), .second, .val (.int P2), .val (.long (-7046029254386353131 : Int64)), .second, .val (.ref b1), .val (.long (own_mix ((P0 + (P1 * (-7046029254386353131 : Int64))) + (-7046029254386353131 : Int64)))), .second, .val (.int (1 : Int32)), .val (.ref b8), .val (.ref b13), .val (.int (P2 &&& (3 : Int32))), .unset] [(.ref b13), (.long (own_mix (P0 + ((((P2 &&& (3 : Int32)).toInt64) + (1 : Int64)) * (-7046029254386353131 : Int64)))))])) _
      refine XS.iload X50.here hx rfl (hb hby at_111) rfl ?_
      show Steps p.tables e below (T50.setTop (mkF m 113 #[.val (.long P0), .second, .val (.long P1), .second, .val (.int P2), .val (.long (-7046029254386353131 : Int64)), .second, .val (.ref b1), .val (.long (own_mix ((P0 + (P1 * (-7046029254386353131 : Int64))) + (-7046029254386353131 : Int64)))), .second, .val (.int (1 : Int32)), .val (.ref b8), .val (.ref b13), .val (.int (P2 &&& (3 : Int32))), .unset] [(.int (P2 &&& (3 : Int32))), (.ref b13), (.long (own_mix (P0 + ((((P2 &&& (3 : Int32)).toInt64) + (1 : Int64)) * (-7046029254386353131 : Int64)))))])) _
      refine X50.laload hx (j := (P2 &&& (3 : Int32))) (v := (.long (own_sel (own_mix (P0 + (-7046029254386353131 : Int64))) (own_mix ((P0 + (-7046029254386353131 : Int64)) + (-7046029254386353131 : Int64))) (own_mix (((P0 + (-7046029254386353131 : Int64)) + (-7046029254386353131 : Int64)) + (-7046029254386353131 : Int64))) (own_mix ((((P0 + (-7046029254386353131 : Int64)) + (-7046029254386353131 : Int64)) + (-7046029254386353131 : Int64)) + (-7046029254386353131 : Int64))) (P2 &&& (3 : Int32))))) (by rw [K50]; exact Ar51.1) (State.isArrayOf_alike hZ.alike Ar51.2.1) Ar51.2.2 hin51 (H51.at hin51 (own_get _ _ _ _ _ (own_and3 P2) _)) (g := (mkF m 113 #[.val (.long P0), .second, .val (.long P1), .second, .val (.int P2), .val (.long (-7046029254386353131 : Int64)), .second, .val (.ref b1), .val (.long (own_mix ((P0 + (P1 * (-7046029254386353131 : Int64))) + (-7046029254386353131 : Int64)))), .second, .val (.int (1 : Int32)), .val (.ref b8), .val (.ref b13), .val (.int (P2 &&& (3 : Int32))), .unset] [(.int (P2 &&& (3 : Int32))), (.ref b13), (.long (own_mix (P0 + ((((P2 &&& (3 : Int32)).toInt64) + (1 : Int64)) * (-7046029254386353131 : Int64)))))])) rfl rfl (hb hby at_113) _ ?_
      show Steps p.tables e below (T50.setTop (mkF m 114 #[.val (.long P0), .second, .val (.long P1), .second, .val (.int P2), .val (.long (-7046029254386353131 : Int64)), .second, .val (.ref b1), .val (.long (own_mix ((P0 + (P1 * (-7046029254386353131 : Int64))) + (-7046029254386353131 : Int64)))), .second, .val (.int (1 : Int32)), .val (.ref b8), .val (.ref b13), .val (.int (P2 &&& (3 : Int32))), .unset] [(.long (own_sel (own_mix (P0 + (-7046029254386353131 : Int64))) (own_mix ((P0 + (-7046029254386353131 : Int64)) + (-7046029254386353131 : Int64))) (own_mix (((P0 + (-7046029254386353131 : Int64)) + (-7046029254386353131 : Int64)) + (-7046029254386353131 : Int64))) (own_mix ((((P0 + (-7046029254386353131 : Int64)) + (-7046029254386353131 : Int64)) + (-7046029254386353131 : Int64)) + (-7046029254386353131 : Int64))) (P2 &&& (3 : Int32)))), (.long (own_mix (P0 + ((((P2 &&& (3 : Int32)).toInt64) + (1 : Int64)) * (-7046029254386353131 : Int64)))))])) _
      refine XS.lcmp X50.here hx rfl (hb hby at_114) rfl ?_
      show Steps p.tables e below (T50.setTop (mkF m 115 #[.val (.long P0), .second, .val (.long P1), .second, .val (.int P2), .val (.long (-7046029254386353131 : Int64)), .second, .val (.ref b1), .val (.long (own_mix ((P0 + (P1 * (-7046029254386353131 : Int64))) + (-7046029254386353131 : Int64)))), .second, .val (.int (1 : Int32)), .val (.ref b8), .val (.ref b13), .val (.int (P2 &&& (3 : Int32))), .unset] [(.int (lcmpW (own_mix (P0 + ((((P2 &&& (3 : Int32)).toInt64) + (1 : Int64)) * (-7046029254386353131 : Int64)))) (own_sel (own_mix (P0 + (-7046029254386353131 : Int64))) (own_mix ((P0 + (-7046029254386353131 : Int64)) + (-7046029254386353131 : Int64))) (own_mix (((P0 + (-7046029254386353131 : Int64)) + (-7046029254386353131 : Int64)) + (-7046029254386353131 : Int64))) (own_mix ((((P0 + (-7046029254386353131 : Int64)) + (-7046029254386353131 : Int64)) + (-7046029254386353131 : Int64)) + (-7046029254386353131 : Int64))) (P2 &&& (3 : Int32)))))])) _
      refine XS.ifNo X50.here hx rfl (hb hby at_115) rfl ((if0 _ _).trans (teq ((lw_eq (own_mix (P0 + ((((P2 &&& (3 : Int32)).toInt64) + (1 : Int64)) * (-7046029254386353131 : Int64)))) (own_sel (own_mix (P0 + (-7046029254386353131 : Int64))) (own_mix ((P0 + (-7046029254386353131 : Int64)) + (-7046029254386353131 : Int64))) (own_mix (((P0 + (-7046029254386353131 : Int64)) + (-7046029254386353131 : Int64)) + (-7046029254386353131 : Int64))) (own_mix ((((P0 + (-7046029254386353131 : Int64)) + (-7046029254386353131 : Int64)) + (-7046029254386353131 : Int64)) + (-7046029254386353131 : Int64))) (P2 &&& (3 : Int32)))).mpr (show (own_mix (P0 + ((((P2 &&& (3 : Int32)).toInt64) + (1 : Int64)) * (-7046029254386353131 : Int64)))) = (own_sel (own_mix (P0 + (-7046029254386353131 : Int64))) (own_mix ((P0 + (-7046029254386353131 : Int64)) + (-7046029254386353131 : Int64))) (own_mix (((P0 + (-7046029254386353131 : Int64)) + (-7046029254386353131 : Int64)) + (-7046029254386353131 : Int64))) (own_mix ((((P0 + (-7046029254386353131 : Int64)) + (-7046029254386353131 : Int64)) + (-7046029254386353131 : Int64)) + (-7046029254386353131 : Int64))) (P2 &&& (3 : Int32))) from (own_near _ _ (own_and3 P2))))).2) ?_
      show Steps p.tables e below (T50.setTop (mkF m 118 #[.val (.long P0), .second, .val (.long P1), .second, .val (.int P2), .val (.long (-7046029254386353131 : Int64)), .second, .val (.ref b1), .val (.long (own_mix ((P0 + (P1 * (-7046029254386353131 : Int64))) + (-7046029254386353131 : Int64)))), .second, .val (.int (1 : Int32)), .val (.ref b8), .val (.ref b13), .val (.int (P2 &&& (3 : Int32))), .unset] [])) _
      refine XS.iconst X50.here hx rfl (hb hby at_118) ?_
      show Steps p.tables e below (T50.setTop (mkF m 119 #[.val (.long P0), .second, .val (.long P1), .second, .val (.int P2), .val (.long (-7046029254386353131 : Int64)), .second, .val (.ref b1), .val (.long (own_mix ((P0 + (P1 * (-7046029254386353131 : Int64))) + (-7046029254386353131 : Int64)))), .second, .val (.int (1 : Int32)), .val (.ref b8), .val (.ref b13), .val (.int (P2 &&& (3 : Int32))), .unset] [(.int (1 : Int32))])) _
      refine XS.goto X50.here hx rfl (pc0 := 119) (pc' := 123) rfl (hb hby at_119) (by decide) (by decide) ?_
      show Steps p.tables e below (T50.setTop (mkF m 123 #[.val (.long P0), .second, .val (.long P1), .second, .val (.int P2), .val (.long (-7046029254386353131 : Int64)), .second, .val (.ref b1), .val (.long (own_mix ((P0 + (P1 * (-7046029254386353131 : Int64))) + (-7046029254386353131 : Int64)))), .second, .val (.int (1 : Int32)), .val (.ref b8), .val (.ref b13), .val (.int (P2 &&& (3 : Int32))), .unset] [(.int (1 : Int32))])) _
      refine XS.istore X50.here hx rfl (hb hby at_123) rfl (l' := #[.val (.long P0), .second, .val (.long P1), .second, .val (.int P2), .val (.long (-7046029254386353131 : Int64)), .second, .val (.ref b1), .val (.long (own_mix ((P0 + (P1 * (-7046029254386353131 : Int64))) + (-7046029254386353131 : Int64)))), .second, .val (.int (1 : Int32)), .val (.ref b8), .val (.ref b13), .val (.int (P2 &&& (3 : Int32))), .val (.int (1 : Int32))]) rfl ?_
      show Steps p.tables e below (T50.setTop (mkF m 125 #[.val (.long P0), .second, .val (.long P1), .second, .val (.int P2), .val (.long (-7046029254386353131 : Int64)), .second, .val (.ref b1), .val (.long (own_mix ((P0 + (P1 * (-7046029254386353131 : Int64))) + (-7046029254386353131 : Int64)))), .second, .val (.int (1 : Int32)), .val (.ref b8), .val (.ref b13), .val (.int (P2 &&& (3 : Int32))), .val (.int (1 : Int32))] [])) _
      refine XS.iload X50.here hx rfl (hb hby at_125) rfl ?_
      show Steps p.tables e below (T50.setTop (mkF m 127 #[.val (.long P0), .second, .val (.long P1), .second, .val (.int P2), .val (.long (-7046029254386353131 : Int64)), .second, .val (.ref b1), .val (.long (own_mix ((P0 + (P1 * (-7046029254386353131 : Int64))) + (-7046029254386353131 : Int64)))), .second, .val (.int (1 : Int32)), .val (.ref b8), .val (.ref b13), .val (.int (P2 &&& (3 : Int32))), .val (.int (1 : Int32))] [(.int (1 : Int32))])) _
      refine XS.ifNo X50.here hx rfl (hb hby at_127) rfl ((if0 _ _).trans (feq (show ¬ ((1 : Int32) = (0 : Int32)) from (by decide))).1) ?_
      show Steps p.tables e below (T50.setTop (mkF m 130 #[.val (.long P0), .second, .val (.long P1), .second, .val (.int P2), .val (.long (-7046029254386353131 : Int64)), .second, .val (.ref b1), .val (.long (own_mix ((P0 + (P1 * (-7046029254386353131 : Int64))) + (-7046029254386353131 : Int64)))), .second, .val (.int (1 : Int32)), .val (.ref b8), .val (.ref b13), .val (.int (P2 &&& (3 : Int32))), .val (.int (1 : Int32))] [])) _
      refine XS.iload X50.here hx rfl (hb hby at_130) rfl ?_
      show Steps p.tables e below (T50.setTop (mkF m 132 #[.val (.long P0), .second, .val (.long P1), .second, .val (.int P2), .val (.long (-7046029254386353131 : Int64)), .second, .val (.ref b1), .val (.long (own_mix ((P0 + (P1 * (-7046029254386353131 : Int64))) + (-7046029254386353131 : Int64)))), .second, .val (.int (1 : Int32)), .val (.ref b8), .val (.ref b13), .val (.int (P2 &&& (3 : Int32))), .val (.int (1 : Int32))] [(.int (1 : Int32))])) _
      refine XS.ifNo X50.here hx rfl (hb hby at_132) rfl ((if0 _ _).trans (feq (show ¬ ((1 : Int32) = (0 : Int32)) from (by decide))).1) ?_
      show Steps p.tables e below (T50.setTop (mkF m 135 #[.val (.long P0), .second, .val (.long P1), .second, .val (.int P2), .val (.long (-7046029254386353131 : Int64)), .second, .val (.ref b1), .val (.long (own_mix ((P0 + (P1 * (-7046029254386353131 : Int64))) + (-7046029254386353131 : Int64)))), .second, .val (.int (1 : Int32)), .val (.ref b8), .val (.ref b13), .val (.int (P2 &&& (3 : Int32))), .val (.int (1 : Int32))] [])) _
      refine XS.iconst X50.here hx rfl (hb hby at_135) ?_
      show Steps p.tables e below (T50.setTop (mkF m 136 #[.val (.long P0), .second, .val (.long P1), .second, .val (.int P2), .val (.long (-7046029254386353131 : Int64)), .second, .val (.ref b1), .val (.long (own_mix ((P0 + (P1 * (-7046029254386353131 : Int64))) + (-7046029254386353131 : Int64)))), .second, .val (.int (1 : Int32)), .val (.ref b8), .val (.ref b13), .val (.int (P2 &&& (3 : Int32))), .val (.int (1 : Int32))] [(.int (1 : Int32))])) _
      refine XS.goto X50.here hx rfl (pc0 := 136) (pc' := 140) rfl (hb hby at_136) (by decide) (by decide) ?_
      exact kt)
  obtain ⟨fs, hr, hrun, hended, hW, hsame⟩ := X50.leave (v := some (.int (1 : Int32))) (fun h => by rw [Bd.returns] at h; cases h)
  refine ⟨_, _, pre52 _ ?_, hrun, hended, _, _, rfl, ?_, ⟨_, rfl⟩, hW, hsame.mono (by decide) (by decide)⟩
  · show Steps p.tables e below (T50.setTop (mkF m 140 #[.val (.long P0), .second, .val (.long P1), .second, .val (.int P2), .val (.long (-7046029254386353131 : Int64)), .second, .val (.ref b1), .val (.long (own_mix ((P0 + (P1 * (-7046029254386353131 : Int64))) + (-7046029254386353131 : Int64)))), .second, .val (.int (1 : Int32)), .val (.ref b8), .val (.ref b13), .val (.int (P2 &&& (3 : Int32))), .val (.int (1 : Int32))] [(.int (1 : Int32))])) _
    exact retN X50 hx (t := .boolean) Bd.returns (by simp) (hb hby at_140) hr
  · show Q0 Z P0 P1 P2 h0 n0 _ T50.heap _
    rw [K50]
    exact ⟨rfl, N50⟩
set_option maxRecDepth 65536 in
set_option maxHeartbeats 40000000 in
theorem comes_1 {Post : Tables → Env → Array Value → State → Outcome → State → Prop} (hpost : ∀ tb e args s v u, (limb_1_1.after args s (.returned v) u = true ∧ limb_1_2.after args s (.returned v) u = true ∧ True) → FrameEnd s (.returned v) u (Jvm.fieldLocs frame_1_writes args s ++ Jvm.arrayLocs frame_1_arrays args s ++ Jvm.staticLocs frame_1_statics s) 16 128 → Post tb e args s (.returned v) u) :
    ArmFor flags0 classFile x code maxLocals ret World_1 tables_1 room_1 Calls_1 rest_1 Pre_1 Post := by
  intro l hfl _ _ p e ha hc hk s m args below hf hA hF happ hP
  obtain ⟨hcalls, hrest, hpre⟩ := hP
  obtain ⟨-, -, -, hnamed, -, -, -, hat⟩ := (Spec.applies_iff hf).mp happ
  obtain ⟨hg, hn⟩ := and_e (Cond.before_iff.mp (show (Jvm.Cond.and given_1 narrow_1).before args s = true from hpre))
  obtain ⟨gv1, gv2⟩ := and_e hg
  obtain ⟨gv3, gv4⟩ := and_e gv2
  obtain ⟨gv5, gv6⟩ := and_e gv4
  obtain ⟨w0, w1, w2, rfl⟩ : ∃ w0 w1 w2 : Value, args = #[w0, w1, w2] := by
    have hs : args.size = 3 := by simpa [Cond.value, given_1] using gv1
    obtain ⟨L⟩ := args
    match L, hs with
    | [w0, w1, w2], _ => exact ⟨w0, w1, w2, rfl⟩
  have hw := fun d (hd : d ∈ tables_1) => atoms_spec (ws := Jvm.Cond.code x code maxLocals ret :: tables_1) hat d (List.mem_cons_of_mem _ hd)
  have hfit : Fit s := fun {y c} hc i hi => by
    obtain ⟨ha, rfl⟩ := Array.getElem?_eq_some_iff.mp hc
    have q := List.all_eq_true.mp ((Array.all_eq_true_iff_forall_mem.mp hF) _ (Array.getElem_mem ha)) i (List.mem_range.mpr hi)
    simpa [Array.getElem?_eq_getElem hi] using q
  obtain ⟨i0, ei0⟩ := isL_v gv3
  obtain rfl : w0 = (.long i0) := Option.some.inj ei0
  obtain ⟨i1, ei1⟩ := isL_v gv5
  obtain rfl : w1 = (.long i1) := Option.some.inj ei1
  obtain ⟨i2, ei2⟩ := is_v gv6
  obtain rfl : w2 = (.int i2) := Option.some.inj ei2
  obtain ⟨n, o, h1, h2, h3, _, L, rfl, ⟨rfl, N⟩, hq⟩ := rm0 l s _ hw tables_1 i0 i1 i2  s.heap s.heap.size (Nat.le_refl _)  p e ha hc hk s m _ below hf ((Spec.applies_iff_loose hf).mp happ).1 ⟨rfl, State.Warmed39.refl s, rfl⟩ trivial
  refine ⟨n, _, h1, h2, h3, hpost _ _ _ _ _ _ ⟨Cond.after_iff.mpr rfl, Cond.after_iff.mpr (eq_i res_at (Term.int_eval (1)) rfl), trivial⟩ ⟨hq.1, hq.2.1, (hq.2.2.sift fun y hy => Or.inr (N y hy)).mono (by decide) (by decide)⟩⟩
theorem main_1_1 : Claimed_1_1 := comes_1 fun _ _ _ _ _ _ h hF => ⟨h.1, hF⟩
theorem main_1_2 : Claimed_1_2 := comes_1 fun _ _ _ _ _ _ h hF => ⟨h.2.1, hF⟩
end Jvm.Pilot.@@N@@
namespace Jvm.Pilot.@@N@@
open Jvm Jvm.ClassFile Sem Op Lib Jvm.Free Jvm.Stand Jvm.Pilot.@@N@@.Jvm.D
/-! MADE BY PROGRAM (witnessworld.py) out of the Statement's table words and the real class files: 11 classes; the members and pool entries that the words name. The judged class is class 1, her method 1. -/
namespace start1
open Jvm.ClassFile
def u (s : String) : CpInfo := .utf8 (stringToUtf16 s)
/-- a pool by its gaps: so many unusable entries, then the entry; so many at the end -/
def gap : Nat → List CpInfo → List CpInfo
  | 0, r => r
  | n + 1, r => .unusable :: gap n r
def poolList (es : List (Nat × CpInfo)) (last : Nat) : List CpInfo := es.foldr (fun e r => gap e.1 (e.2 :: r)) (gap last [])
def pool (es : List (Nat × CpInfo)) (last : Nat) : Array CpInfo := ⟨poolList es last⟩
def fileOf (pool : Array CpInfo) (this : Nat) (attrs : Array Attribute := #[]) (ms : Array MethodInfo := #[]) (fl : Nat := 33) (sup : Nat := 0) (ifs : Array Nat := #[]) (fds : Array FieldInfo := #[]) : ClassFile where
  minorVersion := 0
  majorVersion := 65
  constantPool := pool
  accessFlags := fl
  thisClass := this
  superClass := sup
  interfaces := ifs
  fields := fds
  methods := ms
  attributes := attrs
def plain (name : String) (sup : Option ClassId) : Class where
  name := name
  kind := .ordinary
  loader := none
  accessFlags := 33
  super := sup
  interfaces := #[]
  cf := none
  fields := #[]
  methods := #[]
  instanceTypes := #[]
  staticTypes := #[]
  resolved := #[]
  callSites := []
  init := .initialized
  statics := none
  mirror := none

def pool0 : Array CpInfo := pool [(5, u "<init>"), (0, u "()V"), (1, .class_ 10), (1, u "java/lang/Object")] 113

def k0c0 : Code := { maxStack := 0, maxLocals := 1, code := object_method_1_code, exceptionTable := #[], attributes := #[] }
def k0m0 : Method := { name := "<init>", desc := "()V", sig := { parameters := [], returnType := none }, accessFlags := 1, code := some k0c0 }
/-- java/lang/Object -/
def k0 : Class := { plain "java/lang/Object" none with
  accessFlags := 33
  interfaces := #[]
  cf := some (fileOf pool0 8 #[] #[{ accessFlags := 1, nameIndex := 5, descriptorIndex := 6, attributes := #[] }] 33 0 #[] #[])
  fields := #[]
  methods := #[k0m0]
  instanceTypes := #[]
  staticTypes := #[]
  resolved := Array.replicate 124 none
  statics := none }

def pool1 : Array CpInfo := pool [(2, .class_ 4), (1, u "java/lang/Object"), (0, u "<init>"), (0, u "()V"), (0, .long 11400714819323198485), (1, .class_ 10), (0, u "com/example/wedgewise/wedgewise/SeededRandom"), (0, .methodref 9 12), (0, .nameAndType 5 13), (0, u "(J)V"), (0, .methodref 9 15), (0, .nameAndType 16 17), (0, u "nextLong"), (0, u "()J"), (0, .methodref 9 19), (0, .nameAndType 20 21), (0, u "longAt"), (0, u "(JJ)J"), (0, .class_ 23), (0, u "com/example/wedgewise/wedgewise/SeededRandomLongAtPinLaw"), (2, u "law"), (0, u "(JJI)Z")] 5

def k1m0 : Method := { name := "<init>", desc := "()V", sig := { parameters := [], returnType := none }, accessFlags := 1, code := none }
def k1c1 : Code := { maxStack := 8, maxLocals := 15, code := code, exceptionTable := #[], attributes := #[] }
def k1m1 : Method := { name := "law", desc := "(JJI)Z", sig := { parameters := [.long, .long, .int], returnType := some .boolean }, accessFlags := 9, code := some k1c1 }
/-- com/example/wedgewise/wedgewise/SeededRandomLongAtPinLaw -/
def k1 : Class := { plain "com/example/wedgewise/wedgewise/SeededRandomLongAtPinLaw" (some 0) with
  accessFlags := 49
  interfaces := #[]
  cf := some (fileOf pool1 22 #[] #[{ accessFlags := 1, nameIndex := 5, descriptorIndex := 6, attributes := #[] }, { accessFlags := 9, nameIndex := 26, descriptorIndex := 27, attributes := #[] }] 49 2 #[] #[])
  fields := #[]
  methods := #[k1m0, k1m1]
  instanceTypes := #[]
  staticTypes := #[]
  resolved := Array.replicate 33 none
  statics := none }

def pool2 : Array CpInfo := pool [(1, .methodref 2 3), (0, .class_ 4), (0, .nameAndType 5 6), (0, u "java/lang/Object"), (0, u "<init>"), (0, u "()V"), (0, .fieldref 8 9), (0, .class_ 10), (0, .nameAndType 11 12), (0, u "com/example/wedgewise/wedgewise/SeededRandom"), (0, u "state"), (0, u "J"), (0, .long 11400714819323198485), (1, .methodref 8 16), (0, .nameAndType 17 18), (0, u "mix"), (0, u "(J)J"), (0, .long 13787848793156543929), (1, .long 10723151780598845931), (3, u "nextLong"), (0, u "()J"), (19, u "GOLDEN_GAMMA"), (1, u "MIX_1"), (0, u "MIX_2"), (0, u "DOUBLE_BITS"), (0, u "I"), (1, u "DOUBLE_UNIT"), (0, u "D"), (0, u "(J)V"), (2, u "longAt"), (0, u "(JJ)J")] 20

def k2c0 : Code := { maxStack := 3, maxLocals := 3, code := prog_39_method_1_code, exceptionTable := #[], attributes := #[] }
def k2m0 : Method := { name := "<init>", desc := "(J)V", sig := { parameters := [.long], returnType := none }, accessFlags := 0, code := some k2c0 }
def k2c1 : Code := { maxStack := 5, maxLocals := 1, code := prog_39_method_2_code, exceptionTable := #[], attributes := #[] }
def k2m1 : Method := { name := "nextLong", desc := "()J", sig := { parameters := [], returnType := some .long }, accessFlags := 0, code := some k2c1 }
def k2c2 : Code := { maxStack := 6, maxLocals := 4, code := prog_39_method_3_code, exceptionTable := #[], attributes := #[] }
def k2m2 : Method := { name := "longAt", desc := "(JJ)J", sig := { parameters := [.long, .long], returnType := some .long }, accessFlags := 8, code := some k2c2 }
def k2c3 : Code := { maxStack := 5, maxLocals := 4, code := prog_39_method_4_code, exceptionTable := #[], attributes := #[] }
def k2m3 : Method := { name := "mix", desc := "(J)J", sig := { parameters := [.long], returnType := some .long }, accessFlags := 10, code := some k2c3 }
/-- com/example/wedgewise/wedgewise/SeededRandom -/
def k2 : Class := { plain "com/example/wedgewise/wedgewise/SeededRandom" (some 0) with
  accessFlags := 48
  interfaces := #[]
  cf := some (fileOf pool2 8 #[] #[{ accessFlags := 0, nameIndex := 5, descriptorIndex := 55, attributes := #[] }, { accessFlags := 0, nameIndex := 25, descriptorIndex := 26, attributes := #[] }, { accessFlags := 8, nameIndex := 58, descriptorIndex := 59, attributes := #[] }, { accessFlags := 10, nameIndex := 17, descriptorIndex := 18, attributes := #[] }] 48 2 #[] #[{ accessFlags := 26, nameIndex := 46, descriptorIndex := 12, attributes := #[] }, { accessFlags := 26, nameIndex := 48, descriptorIndex := 12, attributes := #[] }, { accessFlags := 26, nameIndex := 49, descriptorIndex := 12, attributes := #[] }, { accessFlags := 26, nameIndex := 50, descriptorIndex := 51, attributes := #[] }, { accessFlags := 26, nameIndex := 53, descriptorIndex := 54, attributes := #[] }, { accessFlags := 2, nameIndex := 11, descriptorIndex := 12, attributes := #[] }])
  fields := #[{ name := "GOLDEN_GAMMA", type := .long, accessFlags := 26, slot := 0, constantValue := 0 }, { name := "MIX_1", type := .long, accessFlags := 26, slot := 1, constantValue := 0 }, { name := "MIX_2", type := .long, accessFlags := 26, slot := 2, constantValue := 0 }, { name := "DOUBLE_BITS", type := .int, accessFlags := 26, slot := 3, constantValue := 0 }, { name := "DOUBLE_UNIT", type := .double, accessFlags := 26, slot := 4, constantValue := 0 }, { name := "state", type := .long, accessFlags := 2, slot := 0, constantValue := 0 }]
  methods := #[k2m0, k2m1, k2m2, k2m3]
  instanceTypes := #[.long]
  staticTypes := #[.long, .long, .long, .int, .double]
  resolved := Array.replicate 80 none
  statics := none }

def pool3 : Array CpInfo := pool [(1, u "java/lang/Cloneable"), (0, .class_ 1), (0, u "java/lang/Object"), (0, .class_ 3)] 3

/-- java/lang/Cloneable -/
def k3 : Class := { plain "java/lang/Cloneable" (some 0) with
  accessFlags := 1537
  interfaces := #[]
  cf := some (fileOf pool3 2 #[] #[] 1537 4 #[] #[])
  fields := #[]
  methods := #[]
  instanceTypes := #[]
  staticTypes := #[]
  resolved := Array.replicate 8 none
  statics := none }

def pool4 : Array CpInfo := pool [(1, u "java/io/Serializable"), (0, .class_ 1), (0, u "java/lang/Object"), (0, .class_ 3)] 3

/-- java/io/Serializable -/
def k4 : Class := { plain "java/io/Serializable" (some 0) with
  accessFlags := 1537
  interfaces := #[]
  cf := some (fileOf pool4 2 #[] #[] 1537 4 #[] #[])
  fields := #[]
  methods := #[]
  instanceTypes := #[]
  staticTypes := #[]
  resolved := Array.replicate 8 none
  statics := none }

/-- the primitive byte -/
def k5 : Class := { plain "byte" none with kind := .primitive 'B', accessFlags := 0x411 }
/-- [B -/
def k6 : Class := { plain "[B" (some 0) with kind := .array 5 .byte, interfaces := #[3, 4], accessFlags := 1041 }

/-- the primitive int -/
def k7 : Class := { plain "int" none with kind := .primitive 'I', accessFlags := 0x411 }
/-- [I -/
def k8 : Class := { plain "[I" (some 0) with kind := .array 7 .int, interfaces := #[3, 4], accessFlags := 1041 }

/-- the primitive long -/
def k9 : Class := { plain "long" none with kind := .primitive 'J', accessFlags := 0x411 }
/-- [J -/
def k10 : Class := { plain "[J" (some 0) with kind := .array 9 .long, interfaces := #[3, 4], accessFlags := 1041 }

def heap : Heap := #[]
def classes : Array Class := #[k0, k1, k2, k3, k4, k5, k6, k7, k8, k9, k10]
def interned : List (Array UInt16 × Addr) := []
def slotsUsed : Nat := 0
def theMethod : MethodId := ⟨1, 1⟩
def args0 : Array Value := #[.long 5, .long 7, .int 1]
def aboutOver (below : List Frame) : State where
  vm := { classes := classes, interned := interned.toArray }
  heap := heap
  slotsUsed := slotsUsed
  threads := #[{ frames := .invoking theMethod args0 :: below }]
def below0 : List Frame := [.native { method := ⟨0, 0⟩, args := #[] }]
def about1 : State := aboutOver below0
def p0 : Program := .bare "" "" ""
def e0 : Env := launch0.env 0 0 0
theorem w_frames : about1.frames = Frame.invoking theMethod args0 :: below0 := rfl
set_option maxRecDepth 65536 in
theorem w_args : argsFit about1.vm theMethod args0 = true := by decide +kernel
set_option maxRecDepth 65536 in
theorem w_heap : heapFits about1 = true := by decide +kernel
set_option maxRecDepth 65536 in
theorem w_runnable : about1.curStatus? = some .runnable := by decide +kernel
set_option maxRecDepth 65536 in
theorem w_alone : about1.alone = true := by decide +kernel
set_option maxRecDepth 65536 in
theorem w_named : about1.methodNamed? x = some theMethod := by decide +kernel
set_option maxRecDepth 65536 in
theorem w_hears : about1.hears theMethod below0 = true := by decide +kernel
set_option maxRecDepth 65536 in
theorem w_ripe : about1.ripe theMethod args0 below0 = true := by decide +kernel
theorem w_running : about1.status = .running := rfl
set_option maxRecDepth 65536 in
theorem w_room : about1.hasRoom e0.platform room_1 = true :=
  launch0.hasRoom_least _ room_1 (by decide +kernel) (by decide +kernel) (by decide +kernel) (by decide +kernel) (by decide +kernel) (by decide +kernel)
theorem allAtoms_all (ts : List Jvm.Cond) (a : Array Jvm.Value) (st : Jvm.State) : (allAtoms ts).before a st = ts.all (fun c => c.before a st) := by
  induction ts with
  | nil => rfl
  | cons c t ih =>
    show (Jvm.Cond.and c (allAtoms t)).before a st = _
    rw [Jvm.Cond.before_and, ih, List.all_cons]
def words1 : List Jvm.Cond := Jvm.Cond.code x code maxLocals ret :: tables_1
/-- a 'code' word, met by the world's own term for the bytes: nothing is compared byte by byte -/
theorem code_word {y : MethodName} {bytes : ByteArray} {mx : Nat} {rt : Option FieldType} {a : Array Value} {s : State} {m : MethodId} {meth : Method} {c : Code} (h1 : s.methodNamed? y = some m) (h2 : s.vm.method? m = some meth) (h3 : meth.code = some c) (h4 : c.code = bytes)
    (h5 : (c.maxLocals == mx && c.exceptionTable.isEmpty && decide (c.maxStack ≤ mostOperands) && decide (meth.sig.returnType = rt) && !meth.locks && decide (parseMethodDescriptor y.desc = some meth.sig)) = true) : (Jvm.Cond.code y bytes mx rt).before a s = true := by
  simp only [Bool.and_eq_true, beq_iff_eq, Bool.not_eq_true', decide_eq_true_eq] at h5
  obtain ⟨⟨⟨⟨⟨g1, g2⟩, g3⟩, g4⟩, g5⟩, g6⟩ := h5
  simp [Cond.before, Cond.holds, Cond.value, h1, h2, h3, h4, g1, g2, g3, g4, g5, g6]
def isCode : Jvm.Cond → Bool
  | .code _ _ _ _ => true
  | _ => false
theorem all_split {L : List Jvm.Cond} {P : Jvm.Cond → Bool} (h1 : L.all (fun c => isCode c || P c) = true) (h2 : ∀ c ∈ L.filter isCode, P c = true) : L.all P = true := by
  refine List.all_eq_true.mpr fun c hc => ?_
  have h := List.all_eq_true.mp h1 c hc
  rcases Bool.eq_false_or_eq_true (isCode c) with hi | hi
  · exact h2 c (List.mem_filter.mpr ⟨hc, hi⟩)
  · simpa [hi] using h
set_option maxRecDepth 65536 in
theorem w_c0 : (Jvm.Cond.code x code maxLocals ret).before args0 about1 = true := code_word (m := ⟨1, 1⟩) (meth := k1m1) (c := k1c1) (by decide +kernel) rfl rfl rfl (by decide +kernel)
set_option maxRecDepth 65536 in
theorem w_c1 : (Jvm.Cond.code ({ cls := "com/example/wedgewise/wedgewise/SeededRandom", name := "<init>", desc := "(J)V" } : Jvm.MethodName) prog_39_method_1_code (3 : Nat) (Option.none : Option Jvm.ClassFile.FieldType)).before args0 about1 = true := code_word (m := ⟨2, 0⟩) (meth := k2m0) (c := k2c0) (by decide +kernel) rfl rfl rfl (by decide +kernel)
set_option maxRecDepth 65536 in
theorem w_c2 : (Jvm.Cond.code ({ cls := "java/lang/Object", name := "<init>", desc := "()V" } : Jvm.MethodName) object_method_1_code (1 : Nat) (Option.none : Option Jvm.ClassFile.FieldType)).before args0 about1 = true := code_word (m := ⟨0, 0⟩) (meth := k0m0) (c := k0c0) (by decide +kernel) rfl rfl rfl (by decide +kernel)
set_option maxRecDepth 65536 in
theorem w_c3 : (Jvm.Cond.code ({ cls := "com/example/wedgewise/wedgewise/SeededRandom", name := "nextLong", desc := "()J" } : Jvm.MethodName) prog_39_method_2_code (1 : Nat) (Option.some Jvm.ClassFile.FieldType.long)).before args0 about1 = true := code_word (m := ⟨2, 1⟩) (meth := k2m1) (c := k2c1) (by decide +kernel) rfl rfl rfl (by decide +kernel)
set_option maxRecDepth 65536 in
theorem w_c4 : (Jvm.Cond.code ({ cls := "com/example/wedgewise/wedgewise/SeededRandom", name := "mix", desc := "(J)J" } : Jvm.MethodName) prog_39_method_4_code (4 : Nat) (Option.some Jvm.ClassFile.FieldType.long)).before args0 about1 = true := code_word (m := ⟨2, 3⟩) (meth := k2m3) (c := k2c3) (by decide +kernel) rfl rfl rfl (by decide +kernel)
set_option maxRecDepth 65536 in
theorem w_c5 : (Jvm.Cond.code ({ cls := "com/example/wedgewise/wedgewise/SeededRandom", name := "longAt", desc := "(JJ)J" } : Jvm.MethodName) prog_39_method_3_code (4 : Nat) (Option.some Jvm.ClassFile.FieldType.long)).before args0 about1 = true := code_word (m := ⟨2, 2⟩) (meth := k2m2) (c := k2c2) (by decide +kernel) rfl rfl rfl (by decide +kernel)
def codes1 : List Jvm.Cond := [Jvm.Cond.code x code maxLocals ret, Jvm.Cond.code ({ cls := "com/example/wedgewise/wedgewise/SeededRandom", name := "<init>", desc := "(J)V" } : Jvm.MethodName) prog_39_method_1_code (3 : Nat) (Option.none : Option Jvm.ClassFile.FieldType), Jvm.Cond.code ({ cls := "java/lang/Object", name := "<init>", desc := "()V" } : Jvm.MethodName) object_method_1_code (1 : Nat) (Option.none : Option Jvm.ClassFile.FieldType), Jvm.Cond.code ({ cls := "com/example/wedgewise/wedgewise/SeededRandom", name := "nextLong", desc := "()J" } : Jvm.MethodName) prog_39_method_2_code (1 : Nat) (Option.some Jvm.ClassFile.FieldType.long), Jvm.Cond.code ({ cls := "com/example/wedgewise/wedgewise/SeededRandom", name := "mix", desc := "(J)J" } : Jvm.MethodName) prog_39_method_4_code (4 : Nat) (Option.some Jvm.ClassFile.FieldType.long), Jvm.Cond.code ({ cls := "com/example/wedgewise/wedgewise/SeededRandom", name := "longAt", desc := "(JJ)J" } : Jvm.MethodName) prog_39_method_3_code (4 : Nat) (Option.some Jvm.ClassFile.FieldType.long)]
set_option maxRecDepth 65536 in
theorem codes_eq : words1.filter isCode = codes1 := rfl
theorem w_codes : ∀ c ∈ words1.filter isCode, c.before args0 about1 = true := by
  rw [codes_eq]
  intro c hc
  simp only [codes1, List.mem_cons, List.not_mem_nil, or_false] at hc
  rcases hc with rfl | rfl | rfl | rfl | rfl | rfl
  · exact w_c0
  · exact w_c1
  · exact w_c2
  · exact w_c3
  · exact w_c4
  · exact w_c5
set_option maxRecDepth 65536 in
theorem w_t1 : (words1.take 24).all (fun c => isCode c || c.before args0 about1) = true := by decide +kernel
set_option maxRecDepth 65536 in
theorem w_t2 : (words1.drop 24).all (fun c => isCode c || c.before args0 about1) = true := by decide +kernel
theorem w_tables : (allAtoms (Jvm.Cond.code x code maxLocals ret :: tables_1)).before args0 about1 = true := by
  rw [allAtoms_all]
  show words1.all (fun c => c.before args0 about1) = true
  refine all_split ?_ w_codes
  rw [← List.take_append_drop 24 words1, List.all_append, w_t1, w_t2]
  rfl
set_option maxRecDepth 65536 in
theorem w_case : (Jvm.Cond.and given_1 narrow_1).before args0 about1 = true := by decide +kernel
theorem w_applies : (headSpec (Jvm.Cond.code x code maxLocals ret :: tables_1) room_1).applies x e0.platform about1 = true :=
  (Spec.applies_iff w_frames).mpr ⟨w_running, w_runnable, w_alone, w_named, w_hears, w_ripe, w_room, w_tables⟩
theorem atStart : AtStart classFile x code maxLocals ret World_1 tables_1 room_1 Calls_1 rest_1 Pre_1 launch0 p0 e0 about1 theMethod args0 below0 :=
  ⟨lists_1, trivial, launch0.admits_env _ _ _, launch0.least_env, fairChoices_fair.cas, fairChoices_fair.clock, w_frames, w_args, w_heap, w_applies, trivial, trivial, w_case⟩
end start1
theorem witness_1 : WitnessClaimed_1 := ⟨start1.p0, start1.e0, start1.about1, start1.theMethod, start1.args0, start1.below0, start1.atStart⟩
end Jvm.Pilot.@@N@@
