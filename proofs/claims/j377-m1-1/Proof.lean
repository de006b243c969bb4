import JvmDerived
import JvmDerived.Pilot.@@N@@Statement
import JvmDerived.Pilot.@@N@@Code
set_option linter.unusedVariables false
set_option linter.unusedSimpArgs false
@@BLOCK:HandJ.lean.txt@@
@@BLOCK:SymMore.lean.txt@@
namespace Jvm.RoadKit
open Sem ClassFile Op Lib Jvm.Stand Jvm.Free Jvm.LawKit
section New
variable {p : Program} {l : Launch} {e : Env} {R : Room} {s : State} {m : MethodId} {args : Array Value} {below : List Frame} {meth : Method} {c : Code} {T : State} {locs : List Loc} {cells slots : Nat}
theorem retI (X : Stand p l e R s m args below meth c T locs cells slots) (hx : p.tables.exec = Jvm.exec) {pc : Nat} {Ls : Array Slot} {z : Int32} {rest : List Value} (hret : meth.sig.returnType = some .int) (hd : decode c.code pc = .ok (.ireturn, 1)) {fs : List Frame}
    (hl : ∀ (f : JFrame) (acts : List Action), f.method = m → f.locked = none → f.entered = [] → (doReturn e (T.setTop f) acts (some (.int z))).1 = T.setFrames fs) : Steps p.tables e below (T.setTop (mkF m pc Ls (.int z :: rest))) (T.setFrames fs) := by
  have hm' : T.vm.method? m = some meth := X.method'
  have hn : narrow .int (.int z) = .int z := rfl
  show Steps p.tables e below (T.setTop { method := m, pc := pc, locals := Ls, stack := _ :: rest, locked := none }) _
  jvm_step X.here [X.here.top, hx, hd, hm', hret, hn]
  first | (intro acts; rw [hl _ acts rfl rfl rfl]) | rw [hl _ _ rfl rfl rfl]
  exact Steps.refl _
end New
end Jvm.RoadKit
namespace Jvm.Pilot.@@N@@
open Jvm Jvm.ClassFile Sem Op Lib Jvm.Free Jvm.Stand Jvm.LawKit Jvm.RoadKit Bundle Jvm.Pilot.@@N@@.Jvm.D
def own_d2 (m d : Int64) (n : Int32) : Int64 := if ((1 : Int32) + (1 : Int32)) < n then (if d < m then (if (m / (2 : Int64)) < d then m else (d * (2 : Int64))) else d) else d
def own_delay (f m : Int64) (n : Int32) : Int64 := if (1 : Int32) < n then (if f < m then (if (m / (2 : Int64)) < f then own_d2 m m n else own_d2 m (f * (2 : Int64)) n) else f) else f
theorem d1_0 : decode prog_12_method_1_code 0 = .ok (.aload_n 0, 1) := by decide +kernel
theorem d1_1 : decode prog_12_method_1_code 1 = .ok (.invokespecial 1, 3) := by decide +kernel
theorem d1_4 : decode prog_12_method_1_code 4 = .ok (.aload_n 0, 1) := by decide +kernel
theorem d1_5 : decode prog_12_method_1_code 5 = .ok (.lload_n 1, 1) := by decide +kernel
theorem d1_6 : decode prog_12_method_1_code 6 = .ok (.putfield 7, 3) := by decide +kernel
theorem d1_9 : decode prog_12_method_1_code 9 = .ok (.aload_n 0, 1) := by decide +kernel
theorem d1_10 : decode prog_12_method_1_code 10 = .ok (.lload_n 3, 1) := by decide +kernel
theorem d1_11 : decode prog_12_method_1_code 11 = .ok (.putfield 13, 3) := by decide +kernel
theorem d1_14 : decode prog_12_method_1_code 14 = .ok (.return_, 1) := by decide +kernel
theorem pn_1 : plainName "com/example/brigid/brigid/core/RetrySchedule" = true := by first | (simp [plainName, overriddenIn]; done) | decide +kernel
theorem ef_1 (m : MethodId) (A0 : Addr) (P1 : Int64) (P2 : Int64) : entryFrame m #[(.ref A0), (.long P1), (.long P2)] 5 = mkF m 0 #[.val (.ref A0), .val (.long P1), .second, .val (.long P2), .second] [] := by first | (simp [entryFrame, mkF, argsToLocals, Value.category]; done) | rfl
def Q1 (Z : State) (A0 : Addr) (P1 : Int64) (P2 : Int64) (W0 : Int64) (W1 : Int64) (W2 : Int32) (W3 : Int64) (W4 : Int64) (h0 : Heap) (n0 : Nat) (v : Option Value) (h : Heap) (L : List Loc) : Prop := (v = none) ∧ (Fr n0 L) ∧ (Keep h0 h [A0]) ∧ (Exa Z h A0 "com/example/brigid/brigid/core/RetrySchedule") ∧ (Fld Z h A0 "com/example/brigid/brigid/core/RetrySchedule" "firstDelayNanos" "J" (.long P1)) ∧ (Fld Z h A0 "com/example/brigid/brigid/core/RetrySchedule" "maxDelayNanos" "J" (.long P2)) ∧ (Fld Z h A0 "com/example/brigid/brigid/core/RetrySchedule" "failures" "I" (.int W2)) ∧ (Fld Z h A0 "com/example/brigid/brigid/core/RetrySchedule" "lastFailureAt" "J" (.long W3)) ∧ (Fld Z h A0 "com/example/brigid/brigid/core/RetrySchedule" "nextAttemptAt" "J" (.long W4))
set_option maxRecDepth 65536 in
set_option maxHeartbeats 40000000 in
theorem rm1 (l : Launch) (Z : State) (a0 : Array Value) (hw : ∀ d ∈ tables_1, d.before a0 Z = true) (ws : List Jvm.Cond) (A0 : Addr) (P1 : Int64) (P2 : Int64) (W0 : Int64) (W1 : Int64) (W2 : Int32) (W3 : Int64) (W4 : Int64) (h0 : Heap) (n0 : Nat) (Z0 : n0 ≤ h0.size) (pm0 : Fld Z h0 A0 "com/example/brigid/brigid/core/RetrySchedule" "firstDelayNanos" "J" (.long W0)) (pm1 : Fld Z h0 A0 "com/example/brigid/brigid/core/RetrySchedule" "maxDelayNanos" "J" (.long W1)) (pm2 : Fld Z h0 A0 "com/example/brigid/brigid/core/RetrySchedule" "failures" "I" (.int W2)) (pm3 : Fld Z h0 A0 "com/example/brigid/brigid/core/RetrySchedule" "lastFailureAt" "J" (.long W3)) (pm4 : Fld Z h0 A0 "com/example/brigid/brigid/core/RetrySchedule" "nextAttemptAt" "J" (.long W4)) (pm5 : Exa Z h0 A0 "com/example/brigid/brigid/core/RetrySchedule") (g_A0 : n0 ≤ A0) :
    MetFree l (⟨"com/example/brigid/brigid/core/RetrySchedule", "<init>", "(JJ)V"⟩ : MethodName) (head1 (Jvm.Cond.code (⟨"com/example/brigid/brigid/core/RetrySchedule", "<init>", "(JJ)V"⟩ : MethodName) prog_12_method_1_code 5 none :: ws) ({ frames := 1, cells := 0, slots := 0, locals := 12 } : Room)) (fun a U => a = #[(.ref A0), (.long P1), (.long P2)] ∧ Z.Warmed39 U.vm ∧ U.heap = h0) (fun _ _ _ _ _ => True) (fun _ U o U' => ∃ v L, o = .returned v ∧ Q1 Z A0 P1 P2 W0 W1 W2 W3 W4 h0 n0 v U'.heap L ∧ FrameEnd U o U' L ({ frames := 1, cells := 0, slots := 0, locals := 12 } : Room).cells ({ frames := 1, cells := 0, slots := 0, locals := 12 } : Room).slots) := by
  refine MetFree.of_bodySF (plainFor_of_name pn_1) hisR ?_
  intro p e s m args below meth c s₁ Bd hml0 hP hK
  obtain ⟨rfl, hZ, hh⟩ := hP
  have hx := Bd.exec
  have hby := Bd.bytes
  have hml : c.maxLocals = 5 := hml0
  have hown : s.vm.findClass "com/example/brigid/brigid/core/RetrySchedule" = some m.cls := findClass_of_methodNamed Bd.named
  have hnm := (name_of_methodNamed Bd.named Bd.method).1
  have X0 : Stand p l e ({ frames := 1, cells := 0, slots := 0, locals := 12 } : Room) s m #[(.ref A0), (.long P1), (.long P2)] below meth c s₁ [] 0 0 := Stand.of_body Bd
  have e0 : s₁.heap = h0 := by rw [← hh, Bd.state]; rfl
  have N0 := Fr.nil n0
  have pre0 : ∀ t, Steps p.tables e below (s₁.setTop (mkF m 0 #[.val (.ref A0), .val (.long P1), .second, .val (.long P2), .second] [])) t → Steps p.tables e below (s₁.setTop (entryFrame m #[(.ref A0), (.long P1), (.long P2)] 5)) t := fun t k => castTop (ef_1 m A0 P1 P2) k
  have K_0 : Keep h0 h0 [A0] := Keep.refl h0 _
  obtain ⟨T101, X101, e101, st101⟩ := initO X0 hx hZ hown (hw _ (List.mem_of_getElem? (i := 8) rfl)) (hw _ (List.mem_of_getElem? (i := 9) rfl)) (hw _ (List.mem_of_getElem? (i := 10) rfl)) e0 (g := (mkF m 1 #[.val (.ref A0), .val (.long P1), .second, .val (.long P2), .second] [(.ref A0)])) rfl (by rw [hml]; rfl) rfl (hb hby d1_1) (by decide) (W := 0) (by show 2 * 0 + _ ≤ _; exact Nat.le_of_eq rfl) (by decide)
  obtain ⟨T102, h102, X102, e102, W102, st102⟩ := putF X101 hx hZ hown (host := "") (Or.inl (hw _ (List.mem_of_getElem? (i := 11) rfl))) Via.refl e101 pm0 pm5 (Or.inr ⟨(hw _ (List.mem_of_getElem? (i := 12) rfl)), rfl, hnm⟩) (hw _ (List.mem_of_getElem? (i := 3) rfl)) (ty := .long) (by decide) rfl rfl (g := (mkF m 6 #[.val (.ref A0), .val (.long P1), .second, .val (.long P2), .second] [(.long P1), (.ref A0)])) rfl rfl (hb hby d1_6)
  have Z103 : n0 ≤ h102.size := Nat.le_trans Z0 (Nat.le_of_eq W102.size.symm)
  have K_103 : Keep h0 h102 [A0] := K_0.wr W102 (Or.inl (List.mem_of_getElem? (i := 0) rfl))
  have Fw102 : Fld Z h102 A0 "com/example/brigid/brigid/core/RetrySchedule" "firstDelayNanos" "J" (.long P1) := pm0.same W102
  have N102 := Fr.snoc X102 N0 g_A0
  have c104 : Exa Z h102 A0 "com/example/brigid/brigid/core/RetrySchedule" := (pm5.wr W102)
  have c105 : Fld Z h102 A0 "com/example/brigid/brigid/core/RetrySchedule" "maxDelayNanos" "J" (.long W1) := (pm1.other W102 (Or.inr (slot_ne (Or.inr (hw _ (List.mem_of_getElem? (i := 14) rfl))) (Or.inr (hw _ (List.mem_of_getElem? (i := 12) rfl))) (by decide) (t := .long) (t' := .long) (by decide) (by decide))))
  obtain ⟨T106, h106, X106, e106, W106, st106⟩ := putF X102 hx hZ hown (host := "") (Or.inl (hw _ (List.mem_of_getElem? (i := 13) rfl))) Via.refl e102 c105 c104 (Or.inr ⟨(hw _ (List.mem_of_getElem? (i := 14) rfl)), rfl, hnm⟩) (hw _ (List.mem_of_getElem? (i := 3) rfl)) (ty := .long) (by decide) rfl rfl (g := (mkF m 11 #[.val (.ref A0), .val (.long P1), .second, .val (.long P2), .second] [(.long P2), (.ref A0)])) rfl rfl (hb hby d1_11)
  have Z107 : n0 ≤ h106.size := Nat.le_trans Z103 (Nat.le_of_eq W106.size.symm)
  have K_107 : Keep h0 h106 [A0] := K_103.wr W106 (Or.inl (List.mem_of_getElem? (i := 0) rfl))
  have Fw106 : Fld Z h106 A0 "com/example/brigid/brigid/core/RetrySchedule" "maxDelayNanos" "J" (.long P2) := c105.same W106
  have N106 := Fr.snoc X106 N102 g_A0
  have pre108 : ∀ t, Steps p.tables e below (T106.setTop (mkF m 14 #[.val (.ref A0), .val (.long P1), .second, .val (.long P2), .second] [])) t → Steps p.tables e below (s₁.setTop (entryFrame m #[(.ref A0), (.long P1), (.long P2)] 5)) t := fun t kt => pre0 t (by
      show Steps p.tables e below (s₁.setTop (mkF m 0 #[.val (.ref A0), .val (.long P1), .second, .val (.long P2), .second] [])) _
      refine XS.aloadN X0.here hx rfl (hb hby d1_0) rfl rfl ?_
      show Steps p.tables e below (s₁.setTop (mkF m 1 #[.val (.ref A0), .val (.long P1), .second, .val (.long P2), .second] [(.ref A0)])) _
      refine st101 _ ?_
      show Steps p.tables e below (T101.setTop (mkF m 4 #[.val (.ref A0), .val (.long P1), .second, .val (.long P2), .second] [])) _
      refine XS.aloadN X101.here hx rfl (hb hby d1_4) rfl rfl ?_
      show Steps p.tables e below (T101.setTop (mkF m 5 #[.val (.ref A0), .val (.long P1), .second, .val (.long P2), .second] [(.ref A0)])) _
      refine XS.lloadN X101.here hx rfl (hb hby d1_5) rfl ?_
      show Steps p.tables e below (T101.setTop (mkF m 6 #[.val (.ref A0), .val (.long P1), .second, .val (.long P2), .second] [(.long P1), (.ref A0)])) _
      refine st102 _ ?_
      show Steps p.tables e below (T102.setTop (mkF m 9 #[.val (.ref A0), .val (.long P1), .second, .val (.long P2), .second] [])) _
      refine XS.aloadN X102.here hx rfl (hb hby d1_9) rfl rfl ?_
      show Steps p.tables e below (T102.setTop (mkF m 10 #[.val (.ref A0), .val (.long P1), .second, .val (.long P2), .second] [(.ref A0)])) _
      refine XS.lloadN X102.here hx rfl (hb hby d1_10) rfl ?_
      show Steps p.tables e below (T102.setTop (mkF m 11 #[.val (.ref A0), .val (.long P1), .second, .val (.long P2), .second] [(.long P2), (.ref A0)])) _
      refine st106 _ ?_
      exact kt)
  have c109 : Exa Z h106 A0 "com/example/brigid/brigid/core/RetrySchedule" := (c104.wr W106)
  have c110 : Fld Z h106 A0 "com/example/brigid/brigid/core/RetrySchedule" "firstDelayNanos" "J" (.long P1) := (Fw102.other W106 (Or.inr (slot_ne (Or.inr (hw _ (List.mem_of_getElem? (i := 12) rfl))) (Or.inr (hw _ (List.mem_of_getElem? (i := 14) rfl))) (by decide) (t := .long) (t' := .long) (by decide) (by decide))))
  have c111 : Fld Z h106 A0 "com/example/brigid/brigid/core/RetrySchedule" "failures" "I" (.int W2) := ((pm2.other W102 (Or.inr (slot_ne (Or.inl (hw _ (List.mem_of_getElem? (i := 21) rfl))) (Or.inr (hw _ (List.mem_of_getElem? (i := 12) rfl))) (by decide) (t := .int) (t' := .long) (by decide) (by decide)))).other W106 (Or.inr (slot_ne (Or.inl (hw _ (List.mem_of_getElem? (i := 21) rfl))) (Or.inr (hw _ (List.mem_of_getElem? (i := 14) rfl))) (by decide) (t := .int) (t' := .long) (by decide) (by decide))))
  have c112 : Fld Z h106 A0 "com/example/brigid/brigid/core/RetrySchedule" "lastFailureAt" "J" (.long W3) := ((pm3.other W102 (Or.inr (slot_ne (Or.inl (hw _ (List.mem_of_getElem? (i := 23) rfl))) (Or.inr (hw _ (List.mem_of_getElem? (i := 12) rfl))) (by decide) (t := .long) (t' := .long) (by decide) (by decide)))).other W106 (Or.inr (slot_ne (Or.inl (hw _ (List.mem_of_getElem? (i := 23) rfl))) (Or.inr (hw _ (List.mem_of_getElem? (i := 14) rfl))) (by decide) (t := .long) (t' := .long) (by decide) (by decide))))
  have c113 : Fld Z h106 A0 "com/example/brigid/brigid/core/RetrySchedule" "nextAttemptAt" "J" (.long W4) := ((pm4.other W102 (Or.inr (slot_ne (Or.inl (hw _ (List.mem_of_getElem? (i := 29) rfl))) (Or.inr (hw _ (List.mem_of_getElem? (i := 12) rfl))) (by decide) (t := .long) (t' := .long) (by decide) (by decide)))).other W106 (Or.inr (slot_ne (Or.inl (hw _ (List.mem_of_getElem? (i := 29) rfl))) (Or.inr (hw _ (List.mem_of_getElem? (i := 14) rfl))) (by decide) (t := .long) (t' := .long) (by decide) (by decide))))
  obtain ⟨fs, hr, hrun, hended, hW, hsame⟩ := X106.leave (v := none) (fun _ => rfl)
  refine ⟨_, _, pre108 _ ?_, hrun, hended, _, _, rfl, ?_, ⟨_, rfl⟩, hW, hsame.mono (by decide) (by decide)⟩
  · show Steps p.tables e below (T106.setTop (mkF m 14 #[.val (.ref A0), .val (.long P1), .second, .val (.long P2), .second] [])) _
    exact X106.returnOut hx Bd.returns (hb hby d1_14) hr
  · show Q1 Z A0 P1 P2 W0 W1 W2 W3 W4 h0 n0 _ T106.heap _
    rw [e106]
    exact ⟨rfl, N106, K_107, c109, c110, Fw106, c111, c112, c113⟩
theorem d4_0 : decode prog_12_method_8_code 0 = .ok (.aload_n 0, 1) := by decide +kernel
theorem d4_1 : decode prog_12_method_8_code 1 = .ok (.getfield 7, 3) := by decide +kernel
theorem d4_4 : decode prog_12_method_8_code 4 = .ok (.lstore_n 2, 1) := by decide +kernel
theorem d4_5 : decode prog_12_method_8_code 5 = .ok (.iconst 1, 1) := by decide +kernel
theorem d4_6 : decode prog_12_method_8_code 6 = .ok (.istore 4, 2) := by decide +kernel
theorem d4_8 : decode prog_12_method_8_code 8 = .ok (.iload 4, 2) := by decide +kernel
theorem d4_10 : decode prog_12_method_8_code 10 = .ok (.iload_n 1, 1) := by decide +kernel
theorem d4_11 : decode prog_12_method_8_code 11 = .ok (.if_icmp .ge 44, 3) := by decide +kernel
theorem d4_14 : decode prog_12_method_8_code 14 = .ok (.lload_n 2, 1) := by decide +kernel
theorem d4_15 : decode prog_12_method_8_code 15 = .ok (.aload_n 0, 1) := by decide +kernel
theorem d4_16 : decode prog_12_method_8_code 16 = .ok (.getfield 13, 3) := by decide +kernel
theorem d4_19 : decode prog_12_method_8_code 19 = .ok (.lcmp, 1) := by decide +kernel
theorem d4_20 : decode prog_12_method_8_code 20 = .ok (.ifCond .ge 35, 3) := by decide +kernel
theorem d4_23 : decode prog_12_method_8_code 23 = .ok (.lload_n 2, 1) := by decide +kernel
theorem d4_24 : decode prog_12_method_8_code 24 = .ok (.aload_n 0, 1) := by decide +kernel
theorem d4_25 : decode prog_12_method_8_code 25 = .ok (.getfield 13, 3) := by decide +kernel
theorem d4_28 : decode prog_12_method_8_code 28 = .ok (.ldc2_w 30, 3) := by decide +kernel
theorem d4_31 : decode prog_12_method_8_code 31 = .ok (.ldiv, 1) := by decide +kernel
theorem d4_32 : decode prog_12_method_8_code 32 = .ok (.lcmp, 1) := by decide +kernel
theorem d4_33 : decode prog_12_method_8_code 33 = .ok (.ifCond .le 10, 3) := by decide +kernel
theorem d4_36 : decode prog_12_method_8_code 36 = .ok (.aload_n 0, 1) := by decide +kernel
theorem d4_37 : decode prog_12_method_8_code 37 = .ok (.getfield 13, 3) := by decide +kernel
theorem d4_40 : decode prog_12_method_8_code 40 = .ok (.goto 8, 3) := by decide +kernel
theorem d4_43 : decode prog_12_method_8_code 43 = .ok (.lload_n 2, 1) := by decide +kernel
theorem d4_44 : decode prog_12_method_8_code 44 = .ok (.ldc2_w 30, 3) := by decide +kernel
theorem d4_47 : decode prog_12_method_8_code 47 = .ok (.lmul, 1) := by decide +kernel
theorem d4_48 : decode prog_12_method_8_code 48 = .ok (.lstore_n 2, 1) := by decide +kernel
theorem d4_49 : decode prog_12_method_8_code 49 = .ok (.iinc 4 1, 3) := by decide +kernel
theorem d4_52 : decode prog_12_method_8_code 52 = .ok (.goto (-44), 3) := by decide +kernel
theorem d4_55 : decode prog_12_method_8_code 55 = .ok (.lload_n 2, 1) := by decide +kernel
theorem d4_56 : decode prog_12_method_8_code 56 = .ok (.lreturn, 1) := by decide +kernel
theorem pn_4 : plainName "com/example/brigid/brigid/core/RetrySchedule" = true := by first | (simp [plainName, overriddenIn]; done) | decide +kernel
theorem ef_4 (m : MethodId) (A0 : Addr) (P1 : Int32) : entryFrame m #[(.ref A0), (.int P1)] 5 = mkF m 0 #[.val (.ref A0), .val (.int P1), .unset, .unset, .unset] [] := by first | (simp [entryFrame, mkF, argsToLocals, Value.category]; done) | rfl
def Q4 (Z : State) (A0 : Addr) (P1 : Int32) (W0 : Int64) (W1 : Int64) (h0 : Heap) (n0 : Nat) (v : Option Value) (h : Heap) (L : List Loc) : Prop := (v = some (.long (own_delay W0 W1 P1))) ∧ (Fr n0 L) ∧ (h = h0)
set_option maxRecDepth 65536 in
set_option maxHeartbeats 40000000 in
theorem rm4 (l : Launch) (Z : State) (a0 : Array Value) (hw : ∀ d ∈ tables_1, d.before a0 Z = true) (ws : List Jvm.Cond) (A0 : Addr) (P1 : Int32) (W0 : Int64) (W1 : Int64) (h0 : Heap) (n0 : Nat) (Z0 : n0 ≤ h0.size) (pm0 : Fld Z h0 A0 "com/example/brigid/brigid/core/RetrySchedule" "firstDelayNanos" "J" (.long W0)) (pm1 : Fld Z h0 A0 "com/example/brigid/brigid/core/RetrySchedule" "maxDelayNanos" "J" (.long W1)) (hle : ¬ ((((1 : Int32) + (1 : Int32)) + (1 : Int32)) < P1)) :
    MetFree l (⟨"com/example/brigid/brigid/core/RetrySchedule", "delay", "(I)J"⟩ : MethodName) (head1 (Jvm.Cond.code (⟨"com/example/brigid/brigid/core/RetrySchedule", "delay", "(I)J"⟩ : MethodName) prog_12_method_8_code 5 (some .long) :: ws) ({ frames := 0, cells := 0, slots := 0, locals := 0 } : Room)) (fun a U => a = #[(.ref A0), (.int P1)] ∧ Z.Warmed39 U.vm ∧ U.heap = h0) (fun _ _ _ _ _ => True) (fun _ U o U' => ∃ v L, o = .returned v ∧ Q4 Z A0 P1 W0 W1 h0 n0 v U'.heap L ∧ FrameEnd U o U' L ({ frames := 0, cells := 0, slots := 0, locals := 0 } : Room).cells ({ frames := 0, cells := 0, slots := 0, locals := 0 } : Room).slots) := by
  refine MetFree.of_bodySF (plainFor_of_name pn_4) hisR ?_
  intro p e s m args below meth c s₁ Bd hml0 hP hK
  obtain ⟨rfl, hZ, hh⟩ := hP
  have hx := Bd.exec
  have hby := Bd.bytes
  have hml : c.maxLocals = 5 := hml0
  have hown : s.vm.findClass "com/example/brigid/brigid/core/RetrySchedule" = some m.cls := findClass_of_methodNamed Bd.named
  have hnm := (name_of_methodNamed Bd.named Bd.method).1
  have X0 : Stand p l e ({ frames := 0, cells := 0, slots := 0, locals := 0 } : Room) s m #[(.ref A0), (.int P1)] below meth c s₁ [] 0 0 := Stand.of_body Bd
  have e0 : s₁.heap = h0 := by rw [← hh, Bd.state]; rfl
  have N0 := Fr.nil n0
  have pre0 : ∀ t, Steps p.tables e below (s₁.setTop (mkF m 0 #[.val (.ref A0), .val (.int P1), .unset, .unset, .unset] [])) t → Steps p.tables e below (s₁.setTop (entryFrame m #[(.ref A0), (.int P1)] 5)) t := fun t k => castTop (ef_4 m A0 P1) k
  obtain ⟨T101, X101, e101, st101⟩ := getF X0 hx hZ hown (host := "") (Or.inl (hw _ (List.mem_of_getElem? (i := 11) rfl))) Via.refl e0 pm0 (g := (mkF m 1 #[.val (.ref A0), .val (.int P1), .unset, .unset, .unset] [(.ref A0)])) rfl rfl (hb hby d4_1)
  have pre102 : ∀ t, Steps p.tables e below (T101.setTop (mkF m 11 #[.val (.ref A0), .val (.int P1), .val (.long W0), .second, .val (.int (1 : Int32))] [(.int P1), (.int (1 : Int32))])) t → Steps p.tables e below (s₁.setTop (entryFrame m #[(.ref A0), (.int P1)] 5)) t := fun t kt => pre0 t (by
      show Steps p.tables e below (s₁.setTop (mkF m 0 #[.val (.ref A0), .val (.int P1), .unset, .unset, .unset] [])) _
      refine XS.aloadN X0.here hx rfl (hb hby d4_0) rfl rfl ?_
      show Steps p.tables e below (s₁.setTop (mkF m 1 #[.val (.ref A0), .val (.int P1), .unset, .unset, .unset] [(.ref A0)])) _
      refine st101 _ ?_
      show Steps p.tables e below (T101.setTop (mkF m 4 #[.val (.ref A0), .val (.int P1), .unset, .unset, .unset] [(.long W0)])) _
      refine XS.lstoreN X101.here hx rfl (hb hby d4_4) rfl (l' := #[.val (.ref A0), .val (.int P1), .val (.long W0), .second, .unset]) rfl ?_
      show Steps p.tables e below (T101.setTop (mkF m 5 #[.val (.ref A0), .val (.int P1), .val (.long W0), .second, .unset] [])) _
      refine XS.iconst X101.here hx rfl (hb hby d4_5) ?_
      show Steps p.tables e below (T101.setTop (mkF m 6 #[.val (.ref A0), .val (.int P1), .val (.long W0), .second, .unset] [(.int (1 : Int32))])) _
      refine XS.istore X101.here hx rfl (hb hby d4_6) rfl (l' := #[.val (.ref A0), .val (.int P1), .val (.long W0), .second, .val (.int (1 : Int32))]) rfl ?_
      show Steps p.tables e below (T101.setTop (mkF m 8 #[.val (.ref A0), .val (.int P1), .val (.long W0), .second, .val (.int (1 : Int32))] [])) _
      refine XS.iload X101.here hx rfl (hb hby d4_8) rfl ?_
      show Steps p.tables e below (T101.setTop (mkF m 10 #[.val (.ref A0), .val (.int P1), .val (.long W0), .second, .val (.int (1 : Int32))] [(.int (1 : Int32))])) _
      refine XS.iloadN X101.here hx rfl (hb hby d4_10) rfl ?_
      exact kt)
  by_cases hc11 : (1 : Int32) < P1
  · obtain ⟨T103, X103, e103, st103⟩ := getF X101 hx hZ hown (host := "") (Or.inl (hw _ (List.mem_of_getElem? (i := 13) rfl))) Via.refl e101 pm1 (g := (mkF m 16 #[.val (.ref A0), .val (.int P1), .val (.long W0), .second, .val (.int (1 : Int32))] [(.ref A0), (.long W0)])) rfl rfl (hb hby d4_16)
    have pre104 : ∀ t, Steps p.tables e below (T103.setTop (mkF m 20 #[.val (.ref A0), .val (.int P1), .val (.long W0), .second, .val (.int (1 : Int32))] [(.int (lcmpW W0 W1))])) t → Steps p.tables e below (s₁.setTop (entryFrame m #[(.ref A0), (.int P1)] 5)) t := fun t kt => pre102 t (by
        show Steps p.tables e below (T101.setTop (mkF m 11 #[.val (.ref A0), .val (.int P1), .val (.long W0), .second, .val (.int (1 : Int32))] [(.int P1), (.int (1 : Int32))])) _
        refine XS.icmpNo X101.here hx rfl (hb hby d4_11) rfl (tlt hc11).2.1 ?_
        show Steps p.tables e below (T101.setTop (mkF m 14 #[.val (.ref A0), .val (.int P1), .val (.long W0), .second, .val (.int (1 : Int32))] [])) _
        refine XS.lloadN X101.here hx rfl (hb hby d4_14) rfl ?_
        show Steps p.tables e below (T101.setTop (mkF m 15 #[.val (.ref A0), .val (.int P1), .val (.long W0), .second, .val (.int (1 : Int32))] [(.long W0)])) _
        refine XS.aloadN X101.here hx rfl (hb hby d4_15) rfl rfl ?_
        show Steps p.tables e below (T101.setTop (mkF m 16 #[.val (.ref A0), .val (.int P1), .val (.long W0), .second, .val (.int (1 : Int32))] [(.ref A0), (.long W0)])) _
        refine st103 _ ?_
        show Steps p.tables e below (T103.setTop (mkF m 19 #[.val (.ref A0), .val (.int P1), .val (.long W0), .second, .val (.int (1 : Int32))] [(.long W1), (.long W0)])) _
        refine XS.lcmp X103.here hx rfl (hb hby d4_19) rfl ?_
        exact kt)
    by_cases hc20 : W0 < W1
    · obtain ⟨T105, X105, e105, st105⟩ := getF X103 hx hZ hown (host := "") (Or.inl (hw _ (List.mem_of_getElem? (i := 13) rfl))) Via.refl e103 pm1 (g := (mkF m 25 #[.val (.ref A0), .val (.int P1), .val (.long W0), .second, .val (.int (1 : Int32))] [(.ref A0), (.long W0)])) rfl rfl (hb hby d4_25)
      have pre106 : ∀ t, Steps p.tables e below (T105.setTop (mkF m 33 #[.val (.ref A0), .val (.int P1), .val (.long W0), .second, .val (.int (1 : Int32))] [(.int (lcmpW W0 (W1 / (2 : Int64))))])) t → Steps p.tables e below (s₁.setTop (entryFrame m #[(.ref A0), (.int P1)] 5)) t := fun t kt => pre104 t (by
          show Steps p.tables e below (T103.setTop (mkF m 20 #[.val (.ref A0), .val (.int P1), .val (.long W0), .second, .val (.int (1 : Int32))] [(.int (lcmpW W0 W1))])) _
          refine XS.ifNo X103.here hx rfl (hb hby d4_20) rfl ((if0 _ _).trans (tlt ((lw_lt W0 W1).mpr hc20)).2.1) ?_
          show Steps p.tables e below (T103.setTop (mkF m 23 #[.val (.ref A0), .val (.int P1), .val (.long W0), .second, .val (.int (1 : Int32))] [])) _
          refine XS.lloadN X103.here hx rfl (hb hby d4_23) rfl ?_
          show Steps p.tables e below (T103.setTop (mkF m 24 #[.val (.ref A0), .val (.int P1), .val (.long W0), .second, .val (.int (1 : Int32))] [(.long W0)])) _
          refine XS.aloadN X103.here hx rfl (hb hby d4_24) rfl rfl ?_
          show Steps p.tables e below (T103.setTop (mkF m 25 #[.val (.ref A0), .val (.int P1), .val (.long W0), .second, .val (.int (1 : Int32))] [(.ref A0), (.long W0)])) _
          refine st105 _ ?_
          show Steps p.tables e below (T105.setTop (mkF m 28 #[.val (.ref A0), .val (.int P1), .val (.long W0), .second, .val (.int (1 : Int32))] [(.long W1), (.long W0)])) _
          refine X105.ldc2Long hx hown (mvT hZ (hw _ (List.mem_of_getElem? (i := 40) rfl))) (g := (mkF m 28 #[.val (.ref A0), .val (.int P1), .val (.long W0), .second, .val (.int (1 : Int32))] [(.long W1), (.long W0)])) rfl (hb hby d4_28) _ ?_
          show Steps p.tables e below (T105.setTop (mkF m 31 #[.val (.ref A0), .val (.int P1), .val (.long W0), .second, .val (.int (1 : Int32))] [(.long (2 : Int64)), (.long W1), (.long W0)])) _
          refine XS.ldiv X105.here hx rfl (hb hby d4_31) rfl (by decide) ?_
          show Steps p.tables e below (T105.setTop (mkF m 32 #[.val (.ref A0), .val (.int P1), .val (.long W0), .second, .val (.int (1 : Int32))] [(.long (W1 / (2 : Int64))), (.long W0)])) _
          refine XS.lcmp X105.here hx rfl (hb hby d4_32) rfl ?_
          exact kt)
      by_cases hc33 : (W1 / (2 : Int64)) < W0
      · obtain ⟨T107, X107, e107, st107⟩ := getF X105 hx hZ hown (host := "") (Or.inl (hw _ (List.mem_of_getElem? (i := 13) rfl))) Via.refl e105 pm1 (g := (mkF m 37 #[.val (.ref A0), .val (.int P1), .val (.long W0), .second, .val (.int (1 : Int32))] [(.ref A0)])) rfl rfl (hb hby d4_37)
        have pre108 : ∀ t, Steps p.tables e below (T107.setTop (mkF m 11 #[.val (.ref A0), .val (.int P1), .val (.long W1), .second, .val (.int ((1 : Int32) + (1 : Int32)))] [(.int P1), (.int ((1 : Int32) + (1 : Int32)))])) t → Steps p.tables e below (s₁.setTop (entryFrame m #[(.ref A0), (.int P1)] 5)) t := fun t kt => pre106 t (by
            show Steps p.tables e below (T105.setTop (mkF m 33 #[.val (.ref A0), .val (.int P1), .val (.long W0), .second, .val (.int (1 : Int32))] [(.int (lcmpW W0 (W1 / (2 : Int64))))])) _
            refine XS.ifNo X105.here hx rfl (hb hby d4_33) rfl ((if0 _ _).trans (tlt ((lw_gt W0 (W1 / (2 : Int64))).mpr hc33)).2.2.2) ?_
            show Steps p.tables e below (T105.setTop (mkF m 36 #[.val (.ref A0), .val (.int P1), .val (.long W0), .second, .val (.int (1 : Int32))] [])) _
            refine XS.aloadN X105.here hx rfl (hb hby d4_36) rfl rfl ?_
            show Steps p.tables e below (T105.setTop (mkF m 37 #[.val (.ref A0), .val (.int P1), .val (.long W0), .second, .val (.int (1 : Int32))] [(.ref A0)])) _
            refine st107 _ ?_
            show Steps p.tables e below (T107.setTop (mkF m 40 #[.val (.ref A0), .val (.int P1), .val (.long W0), .second, .val (.int (1 : Int32))] [(.long W1)])) _
            refine XS.goto X107.here hx rfl (pc0 := 40) (pc' := 48) rfl (hb hby d4_40) (by decide) (by decide) ?_
            show Steps p.tables e below (T107.setTop (mkF m 48 #[.val (.ref A0), .val (.int P1), .val (.long W0), .second, .val (.int (1 : Int32))] [(.long W1)])) _
            refine XS.lstoreN X107.here hx rfl (hb hby d4_48) rfl (l' := #[.val (.ref A0), .val (.int P1), .val (.long W1), .second, .val (.int (1 : Int32))]) rfl ?_
            show Steps p.tables e below (T107.setTop (mkF m 49 #[.val (.ref A0), .val (.int P1), .val (.long W1), .second, .val (.int (1 : Int32))] [])) _
            refine XS.iinc X107.here hx rfl (hb hby d4_49) rfl (l' := #[.val (.ref A0), .val (.int P1), .val (.long W1), .second, .val (.int ((1 : Int32) + (1 : Int32)))]) rfl ?_
            show Steps p.tables e below (T107.setTop (mkF m 52 #[.val (.ref A0), .val (.int P1), .val (.long W1), .second, .val (.int ((1 : Int32) + (1 : Int32)))] [])) _
            refine XS.goto X107.here hx rfl (pc0 := 52) (pc' := 8) rfl (hb hby d4_52) (by decide) (by decide) ?_
            show Steps p.tables e below (T107.setTop (mkF m 8 #[.val (.ref A0), .val (.int P1), .val (.long W1), .second, .val (.int ((1 : Int32) + (1 : Int32)))] [])) _
            refine XS.iload X107.here hx rfl (hb hby d4_8) rfl ?_
            show Steps p.tables e below (T107.setTop (mkF m 10 #[.val (.ref A0), .val (.int P1), .val (.long W1), .second, .val (.int ((1 : Int32) + (1 : Int32)))] [(.int ((1 : Int32) + (1 : Int32)))])) _
            refine XS.iloadN X107.here hx rfl (hb hby d4_10) rfl ?_
            exact kt)
        by_cases hc11_1 : ((1 : Int32) + (1 : Int32)) < P1
        · obtain ⟨T109, X109, e109, st109⟩ := getF X107 hx hZ hown (host := "") (Or.inl (hw _ (List.mem_of_getElem? (i := 13) rfl))) Via.refl e107 pm1 (g := (mkF m 16 #[.val (.ref A0), .val (.int P1), .val (.long W1), .second, .val (.int ((1 : Int32) + (1 : Int32)))] [(.ref A0), (.long W1)])) rfl rfl (hb hby d4_16)
          have pre110 : ∀ t, Steps p.tables e below (T109.setTop (mkF m 20 #[.val (.ref A0), .val (.int P1), .val (.long W1), .second, .val (.int ((1 : Int32) + (1 : Int32)))] [(.int (lcmpW W1 W1))])) t → Steps p.tables e below (s₁.setTop (entryFrame m #[(.ref A0), (.int P1)] 5)) t := fun t kt => pre108 t (by
              show Steps p.tables e below (T107.setTop (mkF m 11 #[.val (.ref A0), .val (.int P1), .val (.long W1), .second, .val (.int ((1 : Int32) + (1 : Int32)))] [(.int P1), (.int ((1 : Int32) + (1 : Int32)))])) _
              refine XS.icmpNo X107.here hx rfl (hb hby d4_11) rfl (tlt hc11_1).2.1 ?_
              show Steps p.tables e below (T107.setTop (mkF m 14 #[.val (.ref A0), .val (.int P1), .val (.long W1), .second, .val (.int ((1 : Int32) + (1 : Int32)))] [])) _
              refine XS.lloadN X107.here hx rfl (hb hby d4_14) rfl ?_
              show Steps p.tables e below (T107.setTop (mkF m 15 #[.val (.ref A0), .val (.int P1), .val (.long W1), .second, .val (.int ((1 : Int32) + (1 : Int32)))] [(.long W1)])) _
              refine XS.aloadN X107.here hx rfl (hb hby d4_15) rfl rfl ?_
              show Steps p.tables e below (T107.setTop (mkF m 16 #[.val (.ref A0), .val (.int P1), .val (.long W1), .second, .val (.int ((1 : Int32) + (1 : Int32)))] [(.ref A0), (.long W1)])) _
              refine st109 _ ?_
              show Steps p.tables e below (T109.setTop (mkF m 19 #[.val (.ref A0), .val (.int P1), .val (.long W1), .second, .val (.int ((1 : Int32) + (1 : Int32)))] [(.long W1), (.long W1)])) _
              refine XS.lcmp X109.here hx rfl (hb hby d4_19) rfl ?_
              exact kt)
          by_cases hc20_1 : W1 < W1
          · obtain ⟨T111, X111, e111, st111⟩ := getF X109 hx hZ hown (host := "") (Or.inl (hw _ (List.mem_of_getElem? (i := 13) rfl))) Via.refl e109 pm1 (g := (mkF m 25 #[.val (.ref A0), .val (.int P1), .val (.long W1), .second, .val (.int ((1 : Int32) + (1 : Int32)))] [(.ref A0), (.long W1)])) rfl rfl (hb hby d4_25)
            have pre112 : ∀ t, Steps p.tables e below (T111.setTop (mkF m 33 #[.val (.ref A0), .val (.int P1), .val (.long W1), .second, .val (.int ((1 : Int32) + (1 : Int32)))] [(.int (lcmpW W1 (W1 / (2 : Int64))))])) t → Steps p.tables e below (s₁.setTop (entryFrame m #[(.ref A0), (.int P1)] 5)) t := fun t kt => pre110 t (by
                show Steps p.tables e below (T109.setTop (mkF m 20 #[.val (.ref A0), .val (.int P1), .val (.long W1), .second, .val (.int ((1 : Int32) + (1 : Int32)))] [(.int (lcmpW W1 W1))])) _
                refine XS.ifNo X109.here hx rfl (hb hby d4_20) rfl ((if0 _ _).trans (tlt ((lw_lt W1 W1).mpr hc20_1)).2.1) ?_
                show Steps p.tables e below (T109.setTop (mkF m 23 #[.val (.ref A0), .val (.int P1), .val (.long W1), .second, .val (.int ((1 : Int32) + (1 : Int32)))] [])) _
                refine XS.lloadN X109.here hx rfl (hb hby d4_23) rfl ?_
                show Steps p.tables e below (T109.setTop (mkF m 24 #[.val (.ref A0), .val (.int P1), .val (.long W1), .second, .val (.int ((1 : Int32) + (1 : Int32)))] [(.long W1)])) _
                refine XS.aloadN X109.here hx rfl (hb hby d4_24) rfl rfl ?_
                show Steps p.tables e below (T109.setTop (mkF m 25 #[.val (.ref A0), .val (.int P1), .val (.long W1), .second, .val (.int ((1 : Int32) + (1 : Int32)))] [(.ref A0), (.long W1)])) _
                refine st111 _ ?_
                show Steps p.tables e below (T111.setTop (mkF m 28 #[.val (.ref A0), .val (.int P1), .val (.long W1), .second, .val (.int ((1 : Int32) + (1 : Int32)))] [(.long W1), (.long W1)])) _
                refine X111.ldc2Long hx hown (mvT hZ (hw _ (List.mem_of_getElem? (i := 40) rfl))) (g := (mkF m 28 #[.val (.ref A0), .val (.int P1), .val (.long W1), .second, .val (.int ((1 : Int32) + (1 : Int32)))] [(.long W1), (.long W1)])) rfl (hb hby d4_28) _ ?_
                show Steps p.tables e below (T111.setTop (mkF m 31 #[.val (.ref A0), .val (.int P1), .val (.long W1), .second, .val (.int ((1 : Int32) + (1 : Int32)))] [(.long (2 : Int64)), (.long W1), (.long W1)])) _
                refine XS.ldiv X111.here hx rfl (hb hby d4_31) rfl (by decide) ?_
                show Steps p.tables e below (T111.setTop (mkF m 32 #[.val (.ref A0), .val (.int P1), .val (.long W1), .second, .val (.int ((1 : Int32) + (1 : Int32)))] [(.long (W1 / (2 : Int64))), (.long W1)])) _
                refine XS.lcmp X111.here hx rfl (hb hby d4_32) rfl ?_
                exact kt)
            by_cases hc33_1 : (W1 / (2 : Int64)) < W1
            · obtain ⟨T113, X113, e113, st113⟩ := getF X111 hx hZ hown (host := "") (Or.inl (hw _ (List.mem_of_getElem? (i := 13) rfl))) Via.refl e111 pm1 (g := (mkF m 37 #[.val (.ref A0), .val (.int P1), .val (.long W1), .second, .val (.int ((1 : Int32) + (1 : Int32)))] [(.ref A0)])) rfl rfl (hb hby d4_37)
              have pre114 : ∀ t, Steps p.tables e below (T113.setTop (mkF m 56 #[.val (.ref A0), .val (.int P1), .val (.long W1), .second, .val (.int (((1 : Int32) + (1 : Int32)) + (1 : Int32)))] [(.long W1)])) t → Steps p.tables e below (s₁.setTop (entryFrame m #[(.ref A0), (.int P1)] 5)) t := fun t kt => pre112 t (by
                  show Steps p.tables e below (T111.setTop (mkF m 33 #[.val (.ref A0), .val (.int P1), .val (.long W1), .second, .val (.int ((1 : Int32) + (1 : Int32)))] [(.int (lcmpW W1 (W1 / (2 : Int64))))])) _
                  refine XS.ifNo X111.here hx rfl (hb hby d4_33) rfl ((if0 _ _).trans (tlt ((lw_gt W1 (W1 / (2 : Int64))).mpr hc33_1)).2.2.2) ?_
                  show Steps p.tables e below (T111.setTop (mkF m 36 #[.val (.ref A0), .val (.int P1), .val (.long W1), .second, .val (.int ((1 : Int32) + (1 : Int32)))] [])) _
                  refine XS.aloadN X111.here hx rfl (hb hby d4_36) rfl rfl ?_
                  show Steps p.tables e below (T111.setTop (mkF m 37 #[.val (.ref A0), .val (.int P1), .val (.long W1), .second, .val (.int ((1 : Int32) + (1 : Int32)))] [(.ref A0)])) _
                  refine st113 _ ?_
                  show Steps p.tables e below (T113.setTop (mkF m 40 #[.val (.ref A0), .val (.int P1), .val (.long W1), .second, .val (.int ((1 : Int32) + (1 : Int32)))] [(.long W1)])) _
                  refine XS.goto X113.here hx rfl (pc0 := 40) (pc' := 48) rfl (hb hby d4_40) (by decide) (by decide) ?_
                  show Steps p.tables e below (T113.setTop (mkF m 48 #[.val (.ref A0), .val (.int P1), .val (.long W1), .second, .val (.int ((1 : Int32) + (1 : Int32)))] [(.long W1)])) _
                  refine XS.lstoreN X113.here hx rfl (hb hby d4_48) rfl (l' := #[.val (.ref A0), .val (.int P1), .val (.long W1), .second, .val (.int ((1 : Int32) + (1 : Int32)))]) rfl ?_
                  show Steps p.tables e below (T113.setTop (mkF m 49 #[.val (.ref A0), .val (.int P1), .val (.long W1), .second, .val (.int ((1 : Int32) + (1 : Int32)))] [])) _
                  refine XS.iinc X113.here hx rfl (hb hby d4_49) rfl (l' := #[.val (.ref A0), .val (.int P1), .val (.long W1), .second, .val (.int (((1 : Int32) + (1 : Int32)) + (1 : Int32)))]) rfl ?_
                  show Steps p.tables e below (T113.setTop (mkF m 52 #[.val (.ref A0), .val (.int P1), .val (.long W1), .second, .val (.int (((1 : Int32) + (1 : Int32)) + (1 : Int32)))] [])) _
                  refine XS.goto X113.here hx rfl (pc0 := 52) (pc' := 8) rfl (hb hby d4_52) (by decide) (by decide) ?_
                  show Steps p.tables e below (T113.setTop (mkF m 8 #[.val (.ref A0), .val (.int P1), .val (.long W1), .second, .val (.int (((1 : Int32) + (1 : Int32)) + (1 : Int32)))] [])) _
                  refine XS.iload X113.here hx rfl (hb hby d4_8) rfl ?_
                  show Steps p.tables e below (T113.setTop (mkF m 10 #[.val (.ref A0), .val (.int P1), .val (.long W1), .second, .val (.int (((1 : Int32) + (1 : Int32)) + (1 : Int32)))] [(.int (((1 : Int32) + (1 : Int32)) + (1 : Int32)))])) _
                  refine XS.iloadN X113.here hx rfl (hb hby d4_10) rfl ?_
                  show Steps p.tables e below (T113.setTop (mkF m 11 #[.val (.ref A0), .val (.int P1), .val (.long W1), .second, .val (.int (((1 : Int32) + (1 : Int32)) + (1 : Int32)))] [(.int P1), (.int (((1 : Int32) + (1 : Int32)) + (1 : Int32)))])) _
                  refine XS.icmpYes X113.here hx rfl (pc0 := 11) (pc' := 55) rfl (hb hby d4_11) rfl (flt (show ¬ ((((1 : Int32) + (1 : Int32)) + (1 : Int32)) < P1) from hle)).2.1 (by decide) (by decide) ?_
                  show Steps p.tables e below (T113.setTop (mkF m 55 #[.val (.ref A0), .val (.int P1), .val (.long W1), .second, .val (.int (((1 : Int32) + (1 : Int32)) + (1 : Int32)))] [])) _
                  refine XS.lloadN X113.here hx rfl (hb hby d4_55) rfl ?_
                  exact kt)
              obtain ⟨fs, hr, hrun, hended, hW, hsame⟩ := X113.leave (v := some (.long W1)) (fun h => by rw [Bd.returns] at h; cases h)
              refine ⟨_, _, pre114 _ ?_, hrun, hended, _, _, rfl, ?_, ⟨_, rfl⟩, hW, hsame.mono (by decide) (by decide)⟩
              · show Steps p.tables e below (T113.setTop (mkF m 56 #[.val (.ref A0), .val (.int P1), .val (.long W1), .second, .val (.int (((1 : Int32) + (1 : Int32)) + (1 : Int32)))] [(.long W1)])) _
                exact retOut X113 hx Bd.returns rfl (Or.inr (Or.inl ⟨rfl, rfl, _, rfl⟩)) (hb hby d4_56) hr
              · show Q4 Z A0 P1 W0 W1 h0 n0 _ T113.heap _
                rw [e113]
                exact ⟨(congrArg (fun z => some (Value.long z)) (show W1 = (own_delay W0 W1 P1) from by unfold own_delay own_d2; rw [if_pos hc11, if_pos hc20, if_pos hc33, if_pos hc11_1, if_pos hc20_1, if_pos hc33_1])), N0, rfl⟩
            · have pre115 : ∀ t, Steps p.tables e below (T111.setTop (mkF m 56 #[.val (.ref A0), .val (.int P1), .val (.long (W1 * (2 : Int64))), .second, .val (.int (((1 : Int32) + (1 : Int32)) + (1 : Int32)))] [(.long (W1 * (2 : Int64)))])) t → Steps p.tables e below (s₁.setTop (entryFrame m #[(.ref A0), (.int P1)] 5)) t := fun t kt => pre112 t (by
                  show Steps p.tables e below (T111.setTop (mkF m 33 #[.val (.ref A0), .val (.int P1), .val (.long W1), .second, .val (.int ((1 : Int32) + (1 : Int32)))] [(.int (lcmpW W1 (W1 / (2 : Int64))))])) _
                  refine XS.ifYes X111.here hx rfl (pc0 := 33) (pc' := 43) rfl (hb hby d4_33) rfl ((if0 _ _).trans (flt (fun q => hc33_1 ((lw_gt W1 (W1 / (2 : Int64))).mp q))).2.2.2) (by decide) (by decide) ?_
                  show Steps p.tables e below (T111.setTop (mkF m 43 #[.val (.ref A0), .val (.int P1), .val (.long W1), .second, .val (.int ((1 : Int32) + (1 : Int32)))] [])) _
                  refine XS.lloadN X111.here hx rfl (hb hby d4_43) rfl ?_
                  show Steps p.tables e below (T111.setTop (mkF m 44 #[.val (.ref A0), .val (.int P1), .val (.long W1), .second, .val (.int ((1 : Int32) + (1 : Int32)))] [(.long W1)])) _
                  refine X111.ldc2Long hx hown (mvT hZ (hw _ (List.mem_of_getElem? (i := 40) rfl))) (g := (mkF m 44 #[.val (.ref A0), .val (.int P1), .val (.long W1), .second, .val (.int ((1 : Int32) + (1 : Int32)))] [(.long W1)])) rfl (hb hby d4_44) _ ?_
                  show Steps p.tables e below (T111.setTop (mkF m 47 #[.val (.ref A0), .val (.int P1), .val (.long W1), .second, .val (.int ((1 : Int32) + (1 : Int32)))] [(.long (2 : Int64)), (.long W1)])) _
                  refine XS.lmul X111.here hx rfl (hb hby d4_47) rfl ?_
                  show Steps p.tables e below (T111.setTop (mkF m 48 #[.val (.ref A0), .val (.int P1), .val (.long W1), .second, .val (.int ((1 : Int32) + (1 : Int32)))] [(.long (W1 * (2 : Int64)))])) _
                  refine XS.lstoreN X111.here hx rfl (hb hby d4_48) rfl (l' := #[.val (.ref A0), .val (.int P1), .val (.long (W1 * (2 : Int64))), .second, .val (.int ((1 : Int32) + (1 : Int32)))]) rfl ?_
                  show Steps p.tables e below (T111.setTop (mkF m 49 #[.val (.ref A0), .val (.int P1), .val (.long (W1 * (2 : Int64))), .second, .val (.int ((1 : Int32) + (1 : Int32)))] [])) _
                  refine XS.iinc X111.here hx rfl (hb hby d4_49) rfl (l' := #[.val (.ref A0), .val (.int P1), .val (.long (W1 * (2 : Int64))), .second, .val (.int (((1 : Int32) + (1 : Int32)) + (1 : Int32)))]) rfl ?_
                  show Steps p.tables e below (T111.setTop (mkF m 52 #[.val (.ref A0), .val (.int P1), .val (.long (W1 * (2 : Int64))), .second, .val (.int (((1 : Int32) + (1 : Int32)) + (1 : Int32)))] [])) _
                  refine XS.goto X111.here hx rfl (pc0 := 52) (pc' := 8) rfl (hb hby d4_52) (by decide) (by decide) ?_
                  show Steps p.tables e below (T111.setTop (mkF m 8 #[.val (.ref A0), .val (.int P1), .val (.long (W1 * (2 : Int64))), .second, .val (.int (((1 : Int32) + (1 : Int32)) + (1 : Int32)))] [])) _
                  refine XS.iload X111.here hx rfl (hb hby d4_8) rfl ?_
                  show Steps p.tables e below (T111.setTop (mkF m 10 #[.val (.ref A0), .val (.int P1), .val (.long (W1 * (2 : Int64))), .second, .val (.int (((1 : Int32) + (1 : Int32)) + (1 : Int32)))] [(.int (((1 : Int32) + (1 : Int32)) + (1 : Int32)))])) _
                  refine XS.iloadN X111.here hx rfl (hb hby d4_10) rfl ?_
                  show Steps p.tables e below (T111.setTop (mkF m 11 #[.val (.ref A0), .val (.int P1), .val (.long (W1 * (2 : Int64))), .second, .val (.int (((1 : Int32) + (1 : Int32)) + (1 : Int32)))] [(.int P1), (.int (((1 : Int32) + (1 : Int32)) + (1 : Int32)))])) _
                  refine XS.icmpYes X111.here hx rfl (pc0 := 11) (pc' := 55) rfl (hb hby d4_11) rfl (flt (show ¬ ((((1 : Int32) + (1 : Int32)) + (1 : Int32)) < P1) from hle)).2.1 (by decide) (by decide) ?_
                  show Steps p.tables e below (T111.setTop (mkF m 55 #[.val (.ref A0), .val (.int P1), .val (.long (W1 * (2 : Int64))), .second, .val (.int (((1 : Int32) + (1 : Int32)) + (1 : Int32)))] [])) _
                  refine XS.lloadN X111.here hx rfl (hb hby d4_55) rfl ?_
                  exact kt)
              obtain ⟨fs, hr, hrun, hended, hW, hsame⟩ := X111.leave (v := some (.long (W1 * (2 : Int64)))) (fun h => by rw [Bd.returns] at h; cases h)
              refine ⟨_, _, pre115 _ ?_, hrun, hended, _, _, rfl, ?_, ⟨_, rfl⟩, hW, hsame.mono (by decide) (by decide)⟩
              · show Steps p.tables e below (T111.setTop (mkF m 56 #[.val (.ref A0), .val (.int P1), .val (.long (W1 * (2 : Int64))), .second, .val (.int (((1 : Int32) + (1 : Int32)) + (1 : Int32)))] [(.long (W1 * (2 : Int64)))])) _
                exact retOut X111 hx Bd.returns rfl (Or.inr (Or.inl ⟨rfl, rfl, _, rfl⟩)) (hb hby d4_56) hr
              · show Q4 Z A0 P1 W0 W1 h0 n0 _ T111.heap _
                rw [e111]
                exact ⟨(congrArg (fun z => some (Value.long z)) (show (W1 * (2 : Int64)) = (own_delay W0 W1 P1) from by unfold own_delay own_d2; rw [if_pos hc11, if_pos hc20, if_pos hc33, if_pos hc11_1, if_pos hc20_1, if_neg hc33_1])), N0, rfl⟩
          · have pre116 : ∀ t, Steps p.tables e below (T109.setTop (mkF m 56 #[.val (.ref A0), .val (.int P1), .val (.long W1), .second, .val (.int ((1 : Int32) + (1 : Int32)))] [(.long W1)])) t → Steps p.tables e below (s₁.setTop (entryFrame m #[(.ref A0), (.int P1)] 5)) t := fun t kt => pre110 t (by
                show Steps p.tables e below (T109.setTop (mkF m 20 #[.val (.ref A0), .val (.int P1), .val (.long W1), .second, .val (.int ((1 : Int32) + (1 : Int32)))] [(.int (lcmpW W1 W1))])) _
                refine XS.ifYes X109.here hx rfl (pc0 := 20) (pc' := 55) rfl (hb hby d4_20) rfl ((if0 _ _).trans (flt (fun q => hc20_1 ((lw_lt W1 W1).mp q))).2.1) (by decide) (by decide) ?_
                show Steps p.tables e below (T109.setTop (mkF m 55 #[.val (.ref A0), .val (.int P1), .val (.long W1), .second, .val (.int ((1 : Int32) + (1 : Int32)))] [])) _
                refine XS.lloadN X109.here hx rfl (hb hby d4_55) rfl ?_
                exact kt)
            obtain ⟨fs, hr, hrun, hended, hW, hsame⟩ := X109.leave (v := some (.long W1)) (fun h => by rw [Bd.returns] at h; cases h)
            refine ⟨_, _, pre116 _ ?_, hrun, hended, _, _, rfl, ?_, ⟨_, rfl⟩, hW, hsame.mono (by decide) (by decide)⟩
            · show Steps p.tables e below (T109.setTop (mkF m 56 #[.val (.ref A0), .val (.int P1), .val (.long W1), .second, .val (.int ((1 : Int32) + (1 : Int32)))] [(.long W1)])) _
              exact retOut X109 hx Bd.returns rfl (Or.inr (Or.inl ⟨rfl, rfl, _, rfl⟩)) (hb hby d4_56) hr
            · show Q4 Z A0 P1 W0 W1 h0 n0 _ T109.heap _
              rw [e109]
              exact ⟨(congrArg (fun z => some (Value.long z)) (show W1 = (own_delay W0 W1 P1) from by unfold own_delay own_d2; rw [if_pos hc11, if_pos hc20, if_pos hc33, if_pos hc11_1, if_neg hc20_1])), N0, rfl⟩
        · have pre117 : ∀ t, Steps p.tables e below (T107.setTop (mkF m 56 #[.val (.ref A0), .val (.int P1), .val (.long W1), .second, .val (.int ((1 : Int32) + (1 : Int32)))] [(.long W1)])) t → Steps p.tables e below (s₁.setTop (entryFrame m #[(.ref A0), (.int P1)] 5)) t := fun t kt => pre108 t (by
              show Steps p.tables e below (T107.setTop (mkF m 11 #[.val (.ref A0), .val (.int P1), .val (.long W1), .second, .val (.int ((1 : Int32) + (1 : Int32)))] [(.int P1), (.int ((1 : Int32) + (1 : Int32)))])) _
              refine XS.icmpYes X107.here hx rfl (pc0 := 11) (pc' := 55) rfl (hb hby d4_11) rfl (flt hc11_1).2.1 (by decide) (by decide) ?_
              show Steps p.tables e below (T107.setTop (mkF m 55 #[.val (.ref A0), .val (.int P1), .val (.long W1), .second, .val (.int ((1 : Int32) + (1 : Int32)))] [])) _
              refine XS.lloadN X107.here hx rfl (hb hby d4_55) rfl ?_
              exact kt)
          obtain ⟨fs, hr, hrun, hended, hW, hsame⟩ := X107.leave (v := some (.long W1)) (fun h => by rw [Bd.returns] at h; cases h)
          refine ⟨_, _, pre117 _ ?_, hrun, hended, _, _, rfl, ?_, ⟨_, rfl⟩, hW, hsame.mono (by decide) (by decide)⟩
          · show Steps p.tables e below (T107.setTop (mkF m 56 #[.val (.ref A0), .val (.int P1), .val (.long W1), .second, .val (.int ((1 : Int32) + (1 : Int32)))] [(.long W1)])) _
            exact retOut X107 hx Bd.returns rfl (Or.inr (Or.inl ⟨rfl, rfl, _, rfl⟩)) (hb hby d4_56) hr
          · show Q4 Z A0 P1 W0 W1 h0 n0 _ T107.heap _
            rw [e107]
            exact ⟨(congrArg (fun z => some (Value.long z)) (show W1 = (own_delay W0 W1 P1) from by unfold own_delay own_d2; rw [if_pos hc11, if_pos hc20, if_pos hc33, if_neg hc11_1])), N0, rfl⟩
      · have pre118 : ∀ t, Steps p.tables e below (T105.setTop (mkF m 11 #[.val (.ref A0), .val (.int P1), .val (.long (W0 * (2 : Int64))), .second, .val (.int ((1 : Int32) + (1 : Int32)))] [(.int P1), (.int ((1 : Int32) + (1 : Int32)))])) t → Steps p.tables e below (s₁.setTop (entryFrame m #[(.ref A0), (.int P1)] 5)) t := fun t kt => pre106 t (by
            show Steps p.tables e below (T105.setTop (mkF m 33 #[.val (.ref A0), .val (.int P1), .val (.long W0), .second, .val (.int (1 : Int32))] [(.int (lcmpW W0 (W1 / (2 : Int64))))])) _
            refine XS.ifYes X105.here hx rfl (pc0 := 33) (pc' := 43) rfl (hb hby d4_33) rfl ((if0 _ _).trans (flt (fun q => hc33 ((lw_gt W0 (W1 / (2 : Int64))).mp q))).2.2.2) (by decide) (by decide) ?_
            show Steps p.tables e below (T105.setTop (mkF m 43 #[.val (.ref A0), .val (.int P1), .val (.long W0), .second, .val (.int (1 : Int32))] [])) _
            refine XS.lloadN X105.here hx rfl (hb hby d4_43) rfl ?_
            show Steps p.tables e below (T105.setTop (mkF m 44 #[.val (.ref A0), .val (.int P1), .val (.long W0), .second, .val (.int (1 : Int32))] [(.long W0)])) _
            refine X105.ldc2Long hx hown (mvT hZ (hw _ (List.mem_of_getElem? (i := 40) rfl))) (g := (mkF m 44 #[.val (.ref A0), .val (.int P1), .val (.long W0), .second, .val (.int (1 : Int32))] [(.long W0)])) rfl (hb hby d4_44) _ ?_
            show Steps p.tables e below (T105.setTop (mkF m 47 #[.val (.ref A0), .val (.int P1), .val (.long W0), .second, .val (.int (1 : Int32))] [(.long (2 : Int64)), (.long W0)])) _
            refine XS.lmul X105.here hx rfl (hb hby d4_47) rfl ?_
            show Steps p.tables e below (T105.setTop (mkF m 48 #[.val (.ref A0), .val (.int P1), .val (.long W0), .second, .val (.int (1 : Int32))] [(.long (W0 * (2 : Int64)))])) _
            refine XS.lstoreN X105.here hx rfl (hb hby d4_48) rfl (l' := #[.val (.ref A0), .val (.int P1), .val (.long (W0 * (2 : Int64))), .second, .val (.int (1 : Int32))]) rfl ?_
            show Steps p.tables e below (T105.setTop (mkF m 49 #[.val (.ref A0), .val (.int P1), .val (.long (W0 * (2 : Int64))), .second, .val (.int (1 : Int32))] [])) _
            refine XS.iinc X105.here hx rfl (hb hby d4_49) rfl (l' := #[.val (.ref A0), .val (.int P1), .val (.long (W0 * (2 : Int64))), .second, .val (.int ((1 : Int32) + (1 : Int32)))]) rfl ?_
            show Steps p.tables e below (T105.setTop (mkF m 52 #[.val (.ref A0), .val (.int P1), .val (.long (W0 * (2 : Int64))), .second, .val (.int ((1 : Int32) + (1 : Int32)))] [])) _
            refine XS.goto X105.here hx rfl (pc0 := 52) (pc' := 8) rfl (hb hby d4_52) (by decide) (by decide) ?_
            show Steps p.tables e below (T105.setTop (mkF m 8 #[.val (.ref A0), .val (.int P1), .val (.long (W0 * (2 : Int64))), .second, .val (.int ((1 : Int32) + (1 : Int32)))] [])) _
            refine XS.iload X105.here hx rfl (hb hby d4_8) rfl ?_
            show Steps p.tables e below (T105.setTop (mkF m 10 #[.val (.ref A0), .val (.int P1), .val (.long (W0 * (2 : Int64))), .second, .val (.int ((1 : Int32) + (1 : Int32)))] [(.int ((1 : Int32) + (1 : Int32)))])) _
            refine XS.iloadN X105.here hx rfl (hb hby d4_10) rfl ?_
            exact kt)
        by_cases hc11_1 : ((1 : Int32) + (1 : Int32)) < P1
        · obtain ⟨T119, X119, e119, st119⟩ := getF X105 hx hZ hown (host := "") (Or.inl (hw _ (List.mem_of_getElem? (i := 13) rfl))) Via.refl e105 pm1 (g := (mkF m 16 #[.val (.ref A0), .val (.int P1), .val (.long (W0 * (2 : Int64))), .second, .val (.int ((1 : Int32) + (1 : Int32)))] [(.ref A0), (.long (W0 * (2 : Int64)))])) rfl rfl (hb hby d4_16)
          have pre120 : ∀ t, Steps p.tables e below (T119.setTop (mkF m 20 #[.val (.ref A0), .val (.int P1), .val (.long (W0 * (2 : Int64))), .second, .val (.int ((1 : Int32) + (1 : Int32)))] [(.int (lcmpW (W0 * (2 : Int64)) W1))])) t → Steps p.tables e below (s₁.setTop (entryFrame m #[(.ref A0), (.int P1)] 5)) t := fun t kt => pre118 t (by
              show Steps p.tables e below (T105.setTop (mkF m 11 #[.val (.ref A0), .val (.int P1), .val (.long (W0 * (2 : Int64))), .second, .val (.int ((1 : Int32) + (1 : Int32)))] [(.int P1), (.int ((1 : Int32) + (1 : Int32)))])) _
              refine XS.icmpNo X105.here hx rfl (hb hby d4_11) rfl (tlt hc11_1).2.1 ?_
              show Steps p.tables e below (T105.setTop (mkF m 14 #[.val (.ref A0), .val (.int P1), .val (.long (W0 * (2 : Int64))), .second, .val (.int ((1 : Int32) + (1 : Int32)))] [])) _
              refine XS.lloadN X105.here hx rfl (hb hby d4_14) rfl ?_
              show Steps p.tables e below (T105.setTop (mkF m 15 #[.val (.ref A0), .val (.int P1), .val (.long (W0 * (2 : Int64))), .second, .val (.int ((1 : Int32) + (1 : Int32)))] [(.long (W0 * (2 : Int64)))])) _
              refine XS.aloadN X105.here hx rfl (hb hby d4_15) rfl rfl ?_
              show Steps p.tables e below (T105.setTop (mkF m 16 #[.val (.ref A0), .val (.int P1), .val (.long (W0 * (2 : Int64))), .second, .val (.int ((1 : Int32) + (1 : Int32)))] [(.ref A0), (.long (W0 * (2 : Int64)))])) _
              refine st119 _ ?_
              show Steps p.tables e below (T119.setTop (mkF m 19 #[.val (.ref A0), .val (.int P1), .val (.long (W0 * (2 : Int64))), .second, .val (.int ((1 : Int32) + (1 : Int32)))] [(.long W1), (.long (W0 * (2 : Int64)))])) _
              refine XS.lcmp X119.here hx rfl (hb hby d4_19) rfl ?_
              exact kt)
          by_cases hc20_1 : (W0 * (2 : Int64)) < W1
          · obtain ⟨T121, X121, e121, st121⟩ := getF X119 hx hZ hown (host := "") (Or.inl (hw _ (List.mem_of_getElem? (i := 13) rfl))) Via.refl e119 pm1 (g := (mkF m 25 #[.val (.ref A0), .val (.int P1), .val (.long (W0 * (2 : Int64))), .second, .val (.int ((1 : Int32) + (1 : Int32)))] [(.ref A0), (.long (W0 * (2 : Int64)))])) rfl rfl (hb hby d4_25)
            have pre122 : ∀ t, Steps p.tables e below (T121.setTop (mkF m 33 #[.val (.ref A0), .val (.int P1), .val (.long (W0 * (2 : Int64))), .second, .val (.int ((1 : Int32) + (1 : Int32)))] [(.int (lcmpW (W0 * (2 : Int64)) (W1 / (2 : Int64))))])) t → Steps p.tables e below (s₁.setTop (entryFrame m #[(.ref A0), (.int P1)] 5)) t := fun t kt => pre120 t (by
                show Steps p.tables e below (T119.setTop (mkF m 20 #[.val (.ref A0), .val (.int P1), .val (.long (W0 * (2 : Int64))), .second, .val (.int ((1 : Int32) + (1 : Int32)))] [(.int (lcmpW (W0 * (2 : Int64)) W1))])) _
                refine XS.ifNo X119.here hx rfl (hb hby d4_20) rfl ((if0 _ _).trans (tlt ((lw_lt (W0 * (2 : Int64)) W1).mpr hc20_1)).2.1) ?_
                show Steps p.tables e below (T119.setTop (mkF m 23 #[.val (.ref A0), .val (.int P1), .val (.long (W0 * (2 : Int64))), .second, .val (.int ((1 : Int32) + (1 : Int32)))] [])) _
                refine XS.lloadN X119.here hx rfl (hb hby d4_23) rfl ?_
                show Steps p.tables e below (T119.setTop (mkF m 24 #[.val (.ref A0), .val (.int P1), .val (.long (W0 * (2 : Int64))), .second, .val (.int ((1 : Int32) + (1 : Int32)))] [(.long (W0 * (2 : Int64)))])) _
                refine XS.aloadN X119.here hx rfl (hb hby d4_24) rfl rfl ?_
                show Steps p.tables e below (T119.setTop (mkF m 25 #[.val (.ref A0), .val (.int P1), .val (.long (W0 * (2 : Int64))), .second, .val (.int ((1 : Int32) + (1 : Int32)))] [(.ref A0), (.long (W0 * (2 : Int64)))])) _
                refine st121 _ ?_
                show Steps p.tables e below (T121.setTop (mkF m 28 #[.val (.ref A0), .val (.int P1), .val (.long (W0 * (2 : Int64))), .second, .val (.int ((1 : Int32) + (1 : Int32)))] [(.long W1), (.long (W0 * (2 : Int64)))])) _
                refine X121.ldc2Long hx hown (mvT hZ (hw _ (List.mem_of_getElem? (i := 40) rfl))) (g := (mkF m 28 #[.val (.ref A0), .val (.int P1), .val (.long (W0 * (2 : Int64))), .second, .val (.int ((1 : Int32) + (1 : Int32)))] [(.long W1), (.long (W0 * (2 : Int64)))])) rfl (hb hby d4_28) _ ?_
                show Steps p.tables e below (T121.setTop (mkF m 31 #[.val (.ref A0), .val (.int P1), .val (.long (W0 * (2 : Int64))), .second, .val (.int ((1 : Int32) + (1 : Int32)))] [(.long (2 : Int64)), (.long W1), (.long (W0 * (2 : Int64)))])) _
                refine XS.ldiv X121.here hx rfl (hb hby d4_31) rfl (by decide) ?_
                show Steps p.tables e below (T121.setTop (mkF m 32 #[.val (.ref A0), .val (.int P1), .val (.long (W0 * (2 : Int64))), .second, .val (.int ((1 : Int32) + (1 : Int32)))] [(.long (W1 / (2 : Int64))), (.long (W0 * (2 : Int64)))])) _
                refine XS.lcmp X121.here hx rfl (hb hby d4_32) rfl ?_
                exact kt)
            by_cases hc33_1 : (W1 / (2 : Int64)) < (W0 * (2 : Int64))
            · obtain ⟨T123, X123, e123, st123⟩ := getF X121 hx hZ hown (host := "") (Or.inl (hw _ (List.mem_of_getElem? (i := 13) rfl))) Via.refl e121 pm1 (g := (mkF m 37 #[.val (.ref A0), .val (.int P1), .val (.long (W0 * (2 : Int64))), .second, .val (.int ((1 : Int32) + (1 : Int32)))] [(.ref A0)])) rfl rfl (hb hby d4_37)
              have pre124 : ∀ t, Steps p.tables e below (T123.setTop (mkF m 56 #[.val (.ref A0), .val (.int P1), .val (.long W1), .second, .val (.int (((1 : Int32) + (1 : Int32)) + (1 : Int32)))] [(.long W1)])) t → Steps p.tables e below (s₁.setTop (entryFrame m #[(.ref A0), (.int P1)] 5)) t := fun t kt => pre122 t (by
                  show Steps p.tables e below (T121.setTop (mkF m 33 #[.val (.ref A0), .val (.int P1), .val (.long (W0 * (2 : Int64))), .second, .val (.int ((1 : Int32) + (1 : Int32)))] [(.int (lcmpW (W0 * (2 : Int64)) (W1 / (2 : Int64))))])) _
                  refine XS.ifNo X121.here hx rfl (hb hby d4_33) rfl ((if0 _ _).trans (tlt ((lw_gt (W0 * (2 : Int64)) (W1 / (2 : Int64))).mpr hc33_1)).2.2.2) ?_
                  show Steps p.tables e below (T121.setTop (mkF m 36 #[.val (.ref A0), .val (.int P1), .val (.long (W0 * (2 : Int64))), .second, .val (.int ((1 : Int32) + (1 : Int32)))] [])) _
                  refine XS.aloadN X121.here hx rfl (hb hby d4_36) rfl rfl ?_
                  show Steps p.tables e below (T121.setTop (mkF m 37 #[.val (.ref A0), .val (.int P1), .val (.long (W0 * (2 : Int64))), .second, .val (.int ((1 : Int32) + (1 : Int32)))] [(.ref A0)])) _
                  refine st123 _ ?_
                  show Steps p.tables e below (T123.setTop (mkF m 40 #[.val (.ref A0), .val (.int P1), .val (.long (W0 * (2 : Int64))), .second, .val (.int ((1 : Int32) + (1 : Int32)))] [(.long W1)])) _
                  refine XS.goto X123.here hx rfl (pc0 := 40) (pc' := 48) rfl (hb hby d4_40) (by decide) (by decide) ?_
                  show Steps p.tables e below (T123.setTop (mkF m 48 #[.val (.ref A0), .val (.int P1), .val (.long (W0 * (2 : Int64))), .second, .val (.int ((1 : Int32) + (1 : Int32)))] [(.long W1)])) _
                  refine XS.lstoreN X123.here hx rfl (hb hby d4_48) rfl (l' := #[.val (.ref A0), .val (.int P1), .val (.long W1), .second, .val (.int ((1 : Int32) + (1 : Int32)))]) rfl ?_
                  show Steps p.tables e below (T123.setTop (mkF m 49 #[.val (.ref A0), .val (.int P1), .val (.long W1), .second, .val (.int ((1 : Int32) + (1 : Int32)))] [])) _
                  refine XS.iinc X123.here hx rfl (hb hby d4_49) rfl (l' := #[.val (.ref A0), .val (.int P1), .val (.long W1), .second, .val (.int (((1 : Int32) + (1 : Int32)) + (1 : Int32)))]) rfl ?_
                  show Steps p.tables e below (T123.setTop (mkF m 52 #[.val (.ref A0), .val (.int P1), .val (.long W1), .second, .val (.int (((1 : Int32) + (1 : Int32)) + (1 : Int32)))] [])) _
                  refine XS.goto X123.here hx rfl (pc0 := 52) (pc' := 8) rfl (hb hby d4_52) (by decide) (by decide) ?_
                  show Steps p.tables e below (T123.setTop (mkF m 8 #[.val (.ref A0), .val (.int P1), .val (.long W1), .second, .val (.int (((1 : Int32) + (1 : Int32)) + (1 : Int32)))] [])) _
                  refine XS.iload X123.here hx rfl (hb hby d4_8) rfl ?_
                  show Steps p.tables e below (T123.setTop (mkF m 10 #[.val (.ref A0), .val (.int P1), .val (.long W1), .second, .val (.int (((1 : Int32) + (1 : Int32)) + (1 : Int32)))] [(.int (((1 : Int32) + (1 : Int32)) + (1 : Int32)))])) _
                  refine XS.iloadN X123.here hx rfl (hb hby d4_10) rfl ?_
                  show Steps p.tables e below (T123.setTop (mkF m 11 #[.val (.ref A0), .val (.int P1), .val (.long W1), .second, .val (.int (((1 : Int32) + (1 : Int32)) + (1 : Int32)))] [(.int P1), (.int (((1 : Int32) + (1 : Int32)) + (1 : Int32)))])) _
                  refine XS.icmpYes X123.here hx rfl (pc0 := 11) (pc' := 55) rfl (hb hby d4_11) rfl (flt (show ¬ ((((1 : Int32) + (1 : Int32)) + (1 : Int32)) < P1) from hle)).2.1 (by decide) (by decide) ?_
                  show Steps p.tables e below (T123.setTop (mkF m 55 #[.val (.ref A0), .val (.int P1), .val (.long W1), .second, .val (.int (((1 : Int32) + (1 : Int32)) + (1 : Int32)))] [])) _
                  refine XS.lloadN X123.here hx rfl (hb hby d4_55) rfl ?_
                  exact kt)
              obtain ⟨fs, hr, hrun, hended, hW, hsame⟩ := X123.leave (v := some (.long W1)) (fun h => by rw [Bd.returns] at h; cases h)
              refine ⟨_, _, pre124 _ ?_, hrun, hended, _, _, rfl, ?_, ⟨_, rfl⟩, hW, hsame.mono (by decide) (by decide)⟩
              · show Steps p.tables e below (T123.setTop (mkF m 56 #[.val (.ref A0), .val (.int P1), .val (.long W1), .second, .val (.int (((1 : Int32) + (1 : Int32)) + (1 : Int32)))] [(.long W1)])) _
                exact retOut X123 hx Bd.returns rfl (Or.inr (Or.inl ⟨rfl, rfl, _, rfl⟩)) (hb hby d4_56) hr
              · show Q4 Z A0 P1 W0 W1 h0 n0 _ T123.heap _
                rw [e123]
                exact ⟨(congrArg (fun z => some (Value.long z)) (show W1 = (own_delay W0 W1 P1) from by unfold own_delay own_d2; rw [if_pos hc11, if_pos hc20, if_neg hc33, if_pos hc11_1, if_pos hc20_1, if_pos hc33_1])), N0, rfl⟩
            · have pre125 : ∀ t, Steps p.tables e below (T121.setTop (mkF m 56 #[.val (.ref A0), .val (.int P1), .val (.long ((W0 * (2 : Int64)) * (2 : Int64))), .second, .val (.int (((1 : Int32) + (1 : Int32)) + (1 : Int32)))] [(.long ((W0 * (2 : Int64)) * (2 : Int64)))])) t → Steps p.tables e below (s₁.setTop (entryFrame m #[(.ref A0), (.int P1)] 5)) t := fun t kt => pre122 t (by
                  show Steps p.tables e below (T121.setTop (mkF m 33 #[.val (.ref A0), .val (.int P1), .val (.long (W0 * (2 : Int64))), .second, .val (.int ((1 : Int32) + (1 : Int32)))] [(.int (lcmpW (W0 * (2 : Int64)) (W1 / (2 : Int64))))])) _
                  refine XS.ifYes X121.here hx rfl (pc0 := 33) (pc' := 43) rfl (hb hby d4_33) rfl ((if0 _ _).trans (flt (fun q => hc33_1 ((lw_gt (W0 * (2 : Int64)) (W1 / (2 : Int64))).mp q))).2.2.2) (by decide) (by decide) ?_
                  show Steps p.tables e below (T121.setTop (mkF m 43 #[.val (.ref A0), .val (.int P1), .val (.long (W0 * (2 : Int64))), .second, .val (.int ((1 : Int32) + (1 : Int32)))] [])) _
                  refine XS.lloadN X121.here hx rfl (hb hby d4_43) rfl ?_
                  show Steps p.tables e below (T121.setTop (mkF m 44 #[.val (.ref A0), .val (.int P1), .val (.long (W0 * (2 : Int64))), .second, .val (.int ((1 : Int32) + (1 : Int32)))] [(.long (W0 * (2 : Int64)))])) _
                  refine X121.ldc2Long hx hown (mvT hZ (hw _ (List.mem_of_getElem? (i := 40) rfl))) (g := (mkF m 44 #[.val (.ref A0), .val (.int P1), .val (.long (W0 * (2 : Int64))), .second, .val (.int ((1 : Int32) + (1 : Int32)))] [(.long (W0 * (2 : Int64)))])) rfl (hb hby d4_44) _ ?_
                  show Steps p.tables e below (T121.setTop (mkF m 47 #[.val (.ref A0), .val (.int P1), .val (.long (W0 * (2 : Int64))), .second, .val (.int ((1 : Int32) + (1 : Int32)))] [(.long (2 : Int64)), (.long (W0 * (2 : Int64)))])) _
                  refine XS.lmul X121.here hx rfl (hb hby d4_47) rfl ?_
                  show Steps p.tables e below (T121.setTop (mkF m 48 #[.val (.ref A0), .val (.int P1), .val (.long (W0 * (2 : Int64))), .second, .val (.int ((1 : Int32) + (1 : Int32)))] [(.long ((W0 * (2 : Int64)) * (2 : Int64)))])) _
                  refine XS.lstoreN X121.here hx rfl (hb hby d4_48) rfl (l' := #[.val (.ref A0), .val (.int P1), .val (.long ((W0 * (2 : Int64)) * (2 : Int64))), .second, .val (.int ((1 : Int32) + (1 : Int32)))]) rfl ?_
                  show Steps p.tables e below (T121.setTop (mkF m 49 #[.val (.ref A0), .val (.int P1), .val (.long ((W0 * (2 : Int64)) * (2 : Int64))), .second, .val (.int ((1 : Int32) + (1 : Int32)))] [])) _
                  refine XS.iinc X121.here hx rfl (hb hby d4_49) rfl (l' := #[.val (.ref A0), .val (.int P1), .val (.long ((W0 * (2 : Int64)) * (2 : Int64))), .second, .val (.int (((1 : Int32) + (1 : Int32)) + (1 : Int32)))]) rfl ?_
                  show Steps p.tables e below (T121.setTop (mkF m 52 #[.val (.ref A0), .val (.int P1), .val (.long ((W0 * (2 : Int64)) * (2 : Int64))), .second, .val (.int (((1 : Int32) + (1 : Int32)) + (1 : Int32)))] [])) _
                  refine XS.goto X121.here hx rfl (pc0 := 52) (pc' := 8) rfl (hb hby d4_52) (by decide) (by decide) ?_
                  show Steps p.tables e below (T121.setTop (mkF m 8 #[.val (.ref A0), .val (.int P1), .val (.long ((W0 * (2 : Int64)) * (2 : Int64))), .second, .val (.int (((1 : Int32) + (1 : Int32)) + (1 : Int32)))] [])) _
                  refine XS.iload X121.here hx rfl (hb hby d4_8) rfl ?_
                  show Steps p.tables e below (T121.setTop (mkF m 10 #[.val (.ref A0), .val (.int P1), .val (.long ((W0 * (2 : Int64)) * (2 : Int64))), .second, .val (.int (((1 : Int32) + (1 : Int32)) + (1 : Int32)))] [(.int (((1 : Int32) + (1 : Int32)) + (1 : Int32)))])) _
                  refine XS.iloadN X121.here hx rfl (hb hby d4_10) rfl ?_
                  show Steps p.tables e below (T121.setTop (mkF m 11 #[.val (.ref A0), .val (.int P1), .val (.long ((W0 * (2 : Int64)) * (2 : Int64))), .second, .val (.int (((1 : Int32) + (1 : Int32)) + (1 : Int32)))] [(.int P1), (.int (((1 : Int32) + (1 : Int32)) + (1 : Int32)))])) _
                  refine XS.icmpYes X121.here hx rfl (pc0 := 11) (pc' := 55) rfl (hb hby d4_11) rfl (flt (show ¬ ((((1 : Int32) + (1 : Int32)) + (1 : Int32)) < P1) from hle)).2.1 (by decide) (by decide) ?_
                  show Steps p.tables e below (T121.setTop (mkF m 55 #[.val (.ref A0), .val (.int P1), .val (.long ((W0 * (2 : Int64)) * (2 : Int64))), .second, .val (.int (((1 : Int32) + (1 : Int32)) + (1 : Int32)))] [])) _
                  refine XS.lloadN X121.here hx rfl (hb hby d4_55) rfl ?_
                  exact kt)
              obtain ⟨fs, hr, hrun, hended, hW, hsame⟩ := X121.leave (v := some (.long ((W0 * (2 : Int64)) * (2 : Int64)))) (fun h => by rw [Bd.returns] at h; cases h)
              refine ⟨_, _, pre125 _ ?_, hrun, hended, _, _, rfl, ?_, ⟨_, rfl⟩, hW, hsame.mono (by decide) (by decide)⟩
              · show Steps p.tables e below (T121.setTop (mkF m 56 #[.val (.ref A0), .val (.int P1), .val (.long ((W0 * (2 : Int64)) * (2 : Int64))), .second, .val (.int (((1 : Int32) + (1 : Int32)) + (1 : Int32)))] [(.long ((W0 * (2 : Int64)) * (2 : Int64)))])) _
                exact retOut X121 hx Bd.returns rfl (Or.inr (Or.inl ⟨rfl, rfl, _, rfl⟩)) (hb hby d4_56) hr
              · show Q4 Z A0 P1 W0 W1 h0 n0 _ T121.heap _
                rw [e121]
                exact ⟨(congrArg (fun z => some (Value.long z)) (show ((W0 * (2 : Int64)) * (2 : Int64)) = (own_delay W0 W1 P1) from by unfold own_delay own_d2; rw [if_pos hc11, if_pos hc20, if_neg hc33, if_pos hc11_1, if_pos hc20_1, if_neg hc33_1])), N0, rfl⟩
          · have pre126 : ∀ t, Steps p.tables e below (T119.setTop (mkF m 56 #[.val (.ref A0), .val (.int P1), .val (.long (W0 * (2 : Int64))), .second, .val (.int ((1 : Int32) + (1 : Int32)))] [(.long (W0 * (2 : Int64)))])) t → Steps p.tables e below (s₁.setTop (entryFrame m #[(.ref A0), (.int P1)] 5)) t := fun t kt => pre120 t (by
                show Steps p.tables e below (T119.setTop (mkF m 20 #[.val (.ref A0), .val (.int P1), .val (.long (W0 * (2 : Int64))), .second, .val (.int ((1 : Int32) + (1 : Int32)))] [(.int (lcmpW (W0 * (2 : Int64)) W1))])) _
                refine XS.ifYes X119.here hx rfl (pc0 := 20) (pc' := 55) rfl (hb hby d4_20) rfl ((if0 _ _).trans (flt (fun q => hc20_1 ((lw_lt (W0 * (2 : Int64)) W1).mp q))).2.1) (by decide) (by decide) ?_
                show Steps p.tables e below (T119.setTop (mkF m 55 #[.val (.ref A0), .val (.int P1), .val (.long (W0 * (2 : Int64))), .second, .val (.int ((1 : Int32) + (1 : Int32)))] [])) _
                refine XS.lloadN X119.here hx rfl (hb hby d4_55) rfl ?_
                exact kt)
            obtain ⟨fs, hr, hrun, hended, hW, hsame⟩ := X119.leave (v := some (.long (W0 * (2 : Int64)))) (fun h => by rw [Bd.returns] at h; cases h)
            refine ⟨_, _, pre126 _ ?_, hrun, hended, _, _, rfl, ?_, ⟨_, rfl⟩, hW, hsame.mono (by decide) (by decide)⟩
            · show Steps p.tables e below (T119.setTop (mkF m 56 #[.val (.ref A0), .val (.int P1), .val (.long (W0 * (2 : Int64))), .second, .val (.int ((1 : Int32) + (1 : Int32)))] [(.long (W0 * (2 : Int64)))])) _
              exact retOut X119 hx Bd.returns rfl (Or.inr (Or.inl ⟨rfl, rfl, _, rfl⟩)) (hb hby d4_56) hr
            · show Q4 Z A0 P1 W0 W1 h0 n0 _ T119.heap _
              rw [e119]
              exact ⟨(congrArg (fun z => some (Value.long z)) (show (W0 * (2 : Int64)) = (own_delay W0 W1 P1) from by unfold own_delay own_d2; rw [if_pos hc11, if_pos hc20, if_neg hc33, if_pos hc11_1, if_neg hc20_1])), N0, rfl⟩
        · have pre127 : ∀ t, Steps p.tables e below (T105.setTop (mkF m 56 #[.val (.ref A0), .val (.int P1), .val (.long (W0 * (2 : Int64))), .second, .val (.int ((1 : Int32) + (1 : Int32)))] [(.long (W0 * (2 : Int64)))])) t → Steps p.tables e below (s₁.setTop (entryFrame m #[(.ref A0), (.int P1)] 5)) t := fun t kt => pre118 t (by
              show Steps p.tables e below (T105.setTop (mkF m 11 #[.val (.ref A0), .val (.int P1), .val (.long (W0 * (2 : Int64))), .second, .val (.int ((1 : Int32) + (1 : Int32)))] [(.int P1), (.int ((1 : Int32) + (1 : Int32)))])) _
              refine XS.icmpYes X105.here hx rfl (pc0 := 11) (pc' := 55) rfl (hb hby d4_11) rfl (flt hc11_1).2.1 (by decide) (by decide) ?_
              show Steps p.tables e below (T105.setTop (mkF m 55 #[.val (.ref A0), .val (.int P1), .val (.long (W0 * (2 : Int64))), .second, .val (.int ((1 : Int32) + (1 : Int32)))] [])) _
              refine XS.lloadN X105.here hx rfl (hb hby d4_55) rfl ?_
              exact kt)
          obtain ⟨fs, hr, hrun, hended, hW, hsame⟩ := X105.leave (v := some (.long (W0 * (2 : Int64)))) (fun h => by rw [Bd.returns] at h; cases h)
          refine ⟨_, _, pre127 _ ?_, hrun, hended, _, _, rfl, ?_, ⟨_, rfl⟩, hW, hsame.mono (by decide) (by decide)⟩
          · show Steps p.tables e below (T105.setTop (mkF m 56 #[.val (.ref A0), .val (.int P1), .val (.long (W0 * (2 : Int64))), .second, .val (.int ((1 : Int32) + (1 : Int32)))] [(.long (W0 * (2 : Int64)))])) _
            exact retOut X105 hx Bd.returns rfl (Or.inr (Or.inl ⟨rfl, rfl, _, rfl⟩)) (hb hby d4_56) hr
          · show Q4 Z A0 P1 W0 W1 h0 n0 _ T105.heap _
            rw [e105]
            exact ⟨(congrArg (fun z => some (Value.long z)) (show (W0 * (2 : Int64)) = (own_delay W0 W1 P1) from by unfold own_delay own_d2; rw [if_pos hc11, if_pos hc20, if_neg hc33, if_neg hc11_1])), N0, rfl⟩
    · have pre128 : ∀ t, Steps p.tables e below (T103.setTop (mkF m 56 #[.val (.ref A0), .val (.int P1), .val (.long W0), .second, .val (.int (1 : Int32))] [(.long W0)])) t → Steps p.tables e below (s₁.setTop (entryFrame m #[(.ref A0), (.int P1)] 5)) t := fun t kt => pre104 t (by
          show Steps p.tables e below (T103.setTop (mkF m 20 #[.val (.ref A0), .val (.int P1), .val (.long W0), .second, .val (.int (1 : Int32))] [(.int (lcmpW W0 W1))])) _
          refine XS.ifYes X103.here hx rfl (pc0 := 20) (pc' := 55) rfl (hb hby d4_20) rfl ((if0 _ _).trans (flt (fun q => hc20 ((lw_lt W0 W1).mp q))).2.1) (by decide) (by decide) ?_
          show Steps p.tables e below (T103.setTop (mkF m 55 #[.val (.ref A0), .val (.int P1), .val (.long W0), .second, .val (.int (1 : Int32))] [])) _
          refine XS.lloadN X103.here hx rfl (hb hby d4_55) rfl ?_
          exact kt)
      obtain ⟨fs, hr, hrun, hended, hW, hsame⟩ := X103.leave (v := some (.long W0)) (fun h => by rw [Bd.returns] at h; cases h)
      refine ⟨_, _, pre128 _ ?_, hrun, hended, _, _, rfl, ?_, ⟨_, rfl⟩, hW, hsame.mono (by decide) (by decide)⟩
      · show Steps p.tables e below (T103.setTop (mkF m 56 #[.val (.ref A0), .val (.int P1), .val (.long W0), .second, .val (.int (1 : Int32))] [(.long W0)])) _
        exact retOut X103 hx Bd.returns rfl (Or.inr (Or.inl ⟨rfl, rfl, _, rfl⟩)) (hb hby d4_56) hr
      · show Q4 Z A0 P1 W0 W1 h0 n0 _ T103.heap _
        rw [e103]
        exact ⟨(congrArg (fun z => some (Value.long z)) (show W0 = (own_delay W0 W1 P1) from by unfold own_delay own_d2; rw [if_pos hc11, if_neg hc20])), N0, rfl⟩
  · have pre129 : ∀ t, Steps p.tables e below (T101.setTop (mkF m 56 #[.val (.ref A0), .val (.int P1), .val (.long W0), .second, .val (.int (1 : Int32))] [(.long W0)])) t → Steps p.tables e below (s₁.setTop (entryFrame m #[(.ref A0), (.int P1)] 5)) t := fun t kt => pre102 t (by
        show Steps p.tables e below (T101.setTop (mkF m 11 #[.val (.ref A0), .val (.int P1), .val (.long W0), .second, .val (.int (1 : Int32))] [(.int P1), (.int (1 : Int32))])) _
        refine XS.icmpYes X101.here hx rfl (pc0 := 11) (pc' := 55) rfl (hb hby d4_11) rfl (flt hc11).2.1 (by decide) (by decide) ?_
        show Steps p.tables e below (T101.setTop (mkF m 55 #[.val (.ref A0), .val (.int P1), .val (.long W0), .second, .val (.int (1 : Int32))] [])) _
        refine XS.lloadN X101.here hx rfl (hb hby d4_55) rfl ?_
        exact kt)
    obtain ⟨fs, hr, hrun, hended, hW, hsame⟩ := X101.leave (v := some (.long W0)) (fun h => by rw [Bd.returns] at h; cases h)
    refine ⟨_, _, pre129 _ ?_, hrun, hended, _, _, rfl, ?_, ⟨_, rfl⟩, hW, hsame.mono (by decide) (by decide)⟩
    · show Steps p.tables e below (T101.setTop (mkF m 56 #[.val (.ref A0), .val (.int P1), .val (.long W0), .second, .val (.int (1 : Int32))] [(.long W0)])) _
      exact retOut X101 hx Bd.returns rfl (Or.inr (Or.inl ⟨rfl, rfl, _, rfl⟩)) (hb hby d4_56) hr
    · show Q4 Z A0 P1 W0 W1 h0 n0 _ T101.heap _
      rw [e101]
      exact ⟨(congrArg (fun z => some (Value.long z)) (show W0 = (own_delay W0 W1 P1) from by unfold own_delay own_d2; rw [if_neg hc11])), N0, rfl⟩
theorem d3_0 : decode prog_12_method_6_code 0 = .ok (.aload_n 0, 1) := by decide +kernel
theorem d3_1 : decode prog_12_method_6_code 1 = .ok (.getfield 16, 3) := by decide +kernel
theorem d3_4 : decode prog_12_method_6_code 4 = .ok (.ifCond .le 15, 3) := by decide +kernel
theorem d3_7 : decode prog_12_method_6_code 7 = .ok (.lload_n 1, 1) := by decide +kernel
theorem d3_8 : decode prog_12_method_6_code 8 = .ok (.aload_n 0, 1) := by decide +kernel
theorem d3_9 : decode prog_12_method_6_code 9 = .ok (.getfield 27, 3) := by decide +kernel
theorem d3_12 : decode prog_12_method_6_code 12 = .ok (.lsub, 1) := by decide +kernel
theorem d3_13 : decode prog_12_method_6_code 13 = .ok (.lconst 0, 1) := by decide +kernel
theorem d3_14 : decode prog_12_method_6_code 14 = .ok (.lcmp, 1) := by decide +kernel
theorem d3_15 : decode prog_12_method_6_code 15 = .ok (.ifCond .ge 4, 3) := by decide +kernel
theorem d3_19 : decode prog_12_method_6_code 19 = .ok (.aload_n 0, 1) := by decide +kernel
theorem d3_20 : decode prog_12_method_6_code 20 = .ok (.dup, 1) := by decide +kernel
theorem d3_21 : decode prog_12_method_6_code 21 = .ok (.getfield 16, 3) := by decide +kernel
theorem d3_24 : decode prog_12_method_6_code 24 = .ok (.iconst 1, 1) := by decide +kernel
theorem d3_25 : decode prog_12_method_6_code 25 = .ok (.iadd, 1) := by decide +kernel
theorem d3_26 : decode prog_12_method_6_code 26 = .ok (.putfield 16, 3) := by decide +kernel
theorem d3_29 : decode prog_12_method_6_code 29 = .ok (.aload_n 0, 1) := by decide +kernel
theorem d3_30 : decode prog_12_method_6_code 30 = .ok (.lload_n 3, 1) := by decide +kernel
theorem d3_31 : decode prog_12_method_6_code 31 = .ok (.putfield 27, 3) := by decide +kernel
theorem d3_34 : decode prog_12_method_6_code 34 = .ok (.aload_n 0, 1) := by decide +kernel
theorem d3_35 : decode prog_12_method_6_code 35 = .ok (.lload_n 3, 1) := by decide +kernel
theorem d3_36 : decode prog_12_method_6_code 36 = .ok (.aload_n 0, 1) := by decide +kernel
theorem d3_37 : decode prog_12_method_6_code 37 = .ok (.aload_n 0, 1) := by decide +kernel
theorem d3_38 : decode prog_12_method_6_code 38 = .ok (.getfield 16, 3) := by decide +kernel
theorem d3_41 : decode prog_12_method_6_code 41 = .ok (.invokevirtual 23, 3) := by decide +kernel
theorem d3_44 : decode prog_12_method_6_code 44 = .ok (.ladd, 1) := by decide +kernel
theorem d3_45 : decode prog_12_method_6_code 45 = .ok (.putfield 20, 3) := by decide +kernel
theorem d3_48 : decode prog_12_method_6_code 48 = .ok (.return_, 1) := by decide +kernel
theorem pn_3 : plainName "com/example/brigid/brigid/core/RetrySchedule" = true := by first | (simp [plainName, overriddenIn]; done) | decide +kernel
theorem pd_3_0 : parseMethodDescriptor "(I)J" = some ⟨[.int], some .long⟩ := by decide +kernel
theorem ef_3 (m : MethodId) (A0 : Addr) (P1 : Int64) (P2 : Int64) : entryFrame m #[(.ref A0), (.long P1), (.long P2)] 5 = mkF m 0 #[.val (.ref A0), .val (.long P1), .second, .val (.long P2), .second] [] := by first | (simp [entryFrame, mkF, argsToLocals, Value.category]; done) | rfl
def Q3 (Z : State) (A0 : Addr) (P1 : Int64) (P2 : Int64) (W0 : Int64) (W1 : Int64) (W2 : Int32) (W3 : Int64) (W4 : Int64) (h0 : Heap) (n0 : Nat) (v : Option Value) (h : Heap) (L : List Loc) : Prop := (v = none) ∧ (Fr n0 L) ∧ (Keep h0 h [A0]) ∧ (Exa Z h A0 "com/example/brigid/brigid/core/RetrySchedule") ∧ (Fld Z h A0 "com/example/brigid/brigid/core/RetrySchedule" "firstDelayNanos" "J" (.long W0)) ∧ (Fld Z h A0 "com/example/brigid/brigid/core/RetrySchedule" "maxDelayNanos" "J" (.long W1)) ∧ (Fld Z h A0 "com/example/brigid/brigid/core/RetrySchedule" "failures" "I" (.int (W2 + (1 : Int32)))) ∧ (Fld Z h A0 "com/example/brigid/brigid/core/RetrySchedule" "lastFailureAt" "J" (.long P2)) ∧ (Fld Z h A0 "com/example/brigid/brigid/core/RetrySchedule" "nextAttemptAt" "J" (.long (P2 + (own_delay W0 W1 (W2 + (1 : Int32))))))
set_option maxRecDepth 65536 in
set_option maxHeartbeats 40000000 in
theorem rm3 (l : Launch) (Z : State) (a0 : Array Value) (hw : ∀ d ∈ tables_1, d.before a0 Z = true) (ws : List Jvm.Cond) (A0 : Addr) (P1 : Int64) (P2 : Int64) (W0 : Int64) (W1 : Int64) (W2 : Int32) (W3 : Int64) (W4 : Int64) (h0 : Heap) (n0 : Nat) (Z0 : n0 ≤ h0.size) (pm0 : Fld Z h0 A0 "com/example/brigid/brigid/core/RetrySchedule" "firstDelayNanos" "J" (.long W0)) (pm1 : Fld Z h0 A0 "com/example/brigid/brigid/core/RetrySchedule" "maxDelayNanos" "J" (.long W1)) (pm2 : Fld Z h0 A0 "com/example/brigid/brigid/core/RetrySchedule" "failures" "I" (.int W2)) (pm3 : Fld Z h0 A0 "com/example/brigid/brigid/core/RetrySchedule" "lastFailureAt" "J" (.long W3)) (pm4 : Fld Z h0 A0 "com/example/brigid/brigid/core/RetrySchedule" "nextAttemptAt" "J" (.long W4)) (pm5 : Exa Z h0 A0 "com/example/brigid/brigid/core/RetrySchedule") (hgo : ¬ ((0 : Int32) < W2) ∨ ¬ ((P1 - W3) < (0 : Int64))) (hle : ¬ ((((1 : Int32) + (1 : Int32)) + (1 : Int32)) < (W2 + (1 : Int32)))) (g_A0 : n0 ≤ A0) :
    MetFree l (⟨"com/example/brigid/brigid/core/RetrySchedule", "failed", "(JJ)V"⟩ : MethodName) (head1 (Jvm.Cond.code (⟨"com/example/brigid/brigid/core/RetrySchedule", "failed", "(JJ)V"⟩ : MethodName) prog_12_method_6_code 5 none :: ws) ({ frames := 1, cells := 0, slots := 0, locals := 19 } : Room)) (fun a U => a = #[(.ref A0), (.long P1), (.long P2)] ∧ Z.Warmed39 U.vm ∧ U.heap = h0) (fun _ _ _ _ _ => True) (fun _ U o U' => ∃ v L, o = .returned v ∧ Q3 Z A0 P1 P2 W0 W1 W2 W3 W4 h0 n0 v U'.heap L ∧ FrameEnd U o U' L ({ frames := 1, cells := 0, slots := 0, locals := 19 } : Room).cells ({ frames := 1, cells := 0, slots := 0, locals := 19 } : Room).slots) := by
  refine MetFree.of_bodySF (plainFor_of_name pn_3) hisR ?_
  intro p e s m args below meth c s₁ Bd hml0 hP hK
  obtain ⟨rfl, hZ, hh⟩ := hP
  have hx := Bd.exec
  have hby := Bd.bytes
  have hml : c.maxLocals = 5 := hml0
  have hown : s.vm.findClass "com/example/brigid/brigid/core/RetrySchedule" = some m.cls := findClass_of_methodNamed Bd.named
  have hnm := (name_of_methodNamed Bd.named Bd.method).1
  have X0 : Stand p l e ({ frames := 1, cells := 0, slots := 0, locals := 19 } : Room) s m #[(.ref A0), (.long P1), (.long P2)] below meth c s₁ [] 0 0 := Stand.of_body Bd
  have e0 : s₁.heap = h0 := by rw [← hh, Bd.state]; rfl
  have N0 := Fr.nil n0
  have pre0 : ∀ t, Steps p.tables e below (s₁.setTop (mkF m 0 #[.val (.ref A0), .val (.long P1), .second, .val (.long P2), .second] [])) t → Steps p.tables e below (s₁.setTop (entryFrame m #[(.ref A0), (.long P1), (.long P2)] 5)) t := fun t k => castTop (ef_3 m A0 P1 P2) k
  have K_0 : Keep h0 h0 [A0] := Keep.refl h0 _
  obtain ⟨T101, X101, e101, st101⟩ := getF X0 hx hZ hown (host := "") (Or.inl (hw _ (List.mem_of_getElem? (i := 20) rfl))) Via.refl e0 pm2 (g := (mkF m 1 #[.val (.ref A0), .val (.long P1), .second, .val (.long P2), .second] [(.ref A0)])) rfl rfl (hb hby d3_1)
  have pre102 : ∀ t, Steps p.tables e below (T101.setTop (mkF m 4 #[.val (.ref A0), .val (.long P1), .second, .val (.long P2), .second] [(.int W2)])) t → Steps p.tables e below (s₁.setTop (entryFrame m #[(.ref A0), (.long P1), (.long P2)] 5)) t := fun t kt => pre0 t (by
      show Steps p.tables e below (s₁.setTop (mkF m 0 #[.val (.ref A0), .val (.long P1), .second, .val (.long P2), .second] [])) _
      refine XS.aloadN X0.here hx rfl (hb hby d3_0) rfl rfl ?_
      show Steps p.tables e below (s₁.setTop (mkF m 1 #[.val (.ref A0), .val (.long P1), .second, .val (.long P2), .second] [(.ref A0)])) _
      refine st101 _ ?_
      exact kt)
  by_cases hc4 : (0 : Int32) < W2
  · obtain ⟨T103, X103, e103, st103⟩ := getF X101 hx hZ hown (host := "") (Or.inl (hw _ (List.mem_of_getElem? (i := 22) rfl))) Via.refl e101 pm3 (g := (mkF m 9 #[.val (.ref A0), .val (.long P1), .second, .val (.long P2), .second] [(.ref A0), (.long P1)])) rfl rfl (hb hby d3_9)
    obtain ⟨T104, X104, e104, st104⟩ := getF X103 hx hZ hown (host := "") (Or.inl (hw _ (List.mem_of_getElem? (i := 20) rfl))) Via.refl e103 pm2 (g := (mkF m 21 #[.val (.ref A0), .val (.long P1), .second, .val (.long P2), .second] [(.ref A0), (.ref A0)])) rfl rfl (hb hby d3_21)
    obtain ⟨T105, h105, X105, e105, W105, st105⟩ := putF X104 hx hZ hown (host := "") (Or.inl (hw _ (List.mem_of_getElem? (i := 20) rfl))) Via.refl e104 pm2 pm5 (Or.inl (hw _ (List.mem_of_getElem? (i := 21) rfl))) (hw _ (List.mem_of_getElem? (i := 3) rfl)) (ty := .int) (by decide) rfl rfl (g := (mkF m 26 #[.val (.ref A0), .val (.long P1), .second, .val (.long P2), .second] [(.int (W2 + (1 : Int32))), (.ref A0)])) rfl rfl (hb hby d3_26)
    have Z106 : n0 ≤ h105.size := Nat.le_trans Z0 (Nat.le_of_eq W105.size.symm)
    have K_106 : Keep h0 h105 [A0] := K_0.wr W105 (Or.inl (List.mem_of_getElem? (i := 0) rfl))
    have Fw105 : Fld Z h105 A0 "com/example/brigid/brigid/core/RetrySchedule" "failures" "I" (.int (W2 + (1 : Int32))) := pm2.same W105
    have N105 := Fr.snoc X105 N0 g_A0
    have c107 : Exa Z h105 A0 "com/example/brigid/brigid/core/RetrySchedule" := (pm5.wr W105)
    have c108 : Fld Z h105 A0 "com/example/brigid/brigid/core/RetrySchedule" "lastFailureAt" "J" (.long W3) := (pm3.other W105 (Or.inr (slot_ne (Or.inl (hw _ (List.mem_of_getElem? (i := 23) rfl))) (Or.inl (hw _ (List.mem_of_getElem? (i := 21) rfl))) (by decide) (t := .long) (t' := .int) (by decide) (by decide))))
    obtain ⟨T109, h109, X109, e109, W109, st109⟩ := putF X105 hx hZ hown (host := "") (Or.inl (hw _ (List.mem_of_getElem? (i := 22) rfl))) Via.refl e105 c108 c107 (Or.inl (hw _ (List.mem_of_getElem? (i := 23) rfl))) (hw _ (List.mem_of_getElem? (i := 3) rfl)) (ty := .long) (by decide) rfl rfl (g := (mkF m 31 #[.val (.ref A0), .val (.long P1), .second, .val (.long P2), .second] [(.long P2), (.ref A0)])) rfl rfl (hb hby d3_31)
    have Z110 : n0 ≤ h109.size := Nat.le_trans Z106 (Nat.le_of_eq W109.size.symm)
    have K_110 : Keep h0 h109 [A0] := K_106.wr W109 (Or.inl (List.mem_of_getElem? (i := 0) rfl))
    have Fw109 : Fld Z h109 A0 "com/example/brigid/brigid/core/RetrySchedule" "lastFailureAt" "J" (.long P2) := c108.same W109
    have N109 := Fr.snoc X109 N105 g_A0
    have c111 : Fld Z h109 A0 "com/example/brigid/brigid/core/RetrySchedule" "failures" "I" (.int (W2 + (1 : Int32))) := (Fw105.other W109 (Or.inr (slot_ne (Or.inl (hw _ (List.mem_of_getElem? (i := 21) rfl))) (Or.inl (hw _ (List.mem_of_getElem? (i := 23) rfl))) (by decide) (t := .int) (t' := .long) (by decide) (by decide))))
    obtain ⟨T112, X112, e112, st112⟩ := getF X109 hx hZ hown (host := "") (Or.inl (hw _ (List.mem_of_getElem? (i := 20) rfl))) Via.refl e109 c111 (g := (mkF m 38 #[.val (.ref A0), .val (.long P1), .second, .val (.long P2), .second] [(.ref A0), (.ref A0), (.long P2), (.ref A0)])) rfl rfl (hb hby d3_38)
    have c113 : Fld Z h109 A0 "com/example/brigid/brigid/core/RetrySchedule" "firstDelayNanos" "J" (.long W0) := ((pm0.other W105 (Or.inr (slot_ne (Or.inr (hw _ (List.mem_of_getElem? (i := 12) rfl))) (Or.inl (hw _ (List.mem_of_getElem? (i := 21) rfl))) (by decide) (t := .long) (t' := .int) (by decide) (by decide)))).other W109 (Or.inr (slot_ne (Or.inr (hw _ (List.mem_of_getElem? (i := 12) rfl))) (Or.inl (hw _ (List.mem_of_getElem? (i := 23) rfl))) (by decide) (t := .long) (t' := .long) (by decide) (by decide))))
    have c114 : Fld Z h109 A0 "com/example/brigid/brigid/core/RetrySchedule" "maxDelayNanos" "J" (.long W1) := ((pm1.other W105 (Or.inr (slot_ne (Or.inr (hw _ (List.mem_of_getElem? (i := 14) rfl))) (Or.inl (hw _ (List.mem_of_getElem? (i := 21) rfl))) (by decide) (t := .long) (t' := .int) (by decide) (by decide)))).other W109 (Or.inr (slot_ne (Or.inr (hw _ (List.mem_of_getElem? (i := 14) rfl))) (Or.inl (hw _ (List.mem_of_getElem? (i := 23) rfl))) (by decide) (t := .long) (t' := .long) (by decide) (by decide))))
    have c116 : Exa Z h109 A0 "com/example/brigid/brigid/core/RetrySchedule" := (c107.wr W109)
    obtain ⟨cq115, q115, q115'⟩ := c116.cell
    obtain ⟨_, _, ⟨T115, L115, k115, n115⟩, -, X115, ⟨Lc115, hQ115, l115, y115, z115⟩, st115⟩ := X112.privateBack hx (y := (⟨"com/example/brigid/brigid/core/RetrySchedule", "delay", "(I)J"⟩ : MethodName)) hown (mvT hZ (hw _ (List.mem_of_getElem? (i := 24) rfl))) (mvT hZ (hw _ (List.mem_of_getElem? (i := 25) rfl))) (Jvm.Kit.selects_private (by decide) (mvT hZ (hw _ (List.mem_of_getElem? (i := 3) rfl))) (mvP hZ (hw _ (List.mem_of_getElem? (i := 26) rfl))) (mvT hZ (hw _ (List.mem_of_getElem? (i := 25) rfl)))) (Cond.privateMethod_at (mvP hZ (hw _ (List.mem_of_getElem? (i := 26) rfl)) (args := #[]))) (mvT hZ (hw _ (List.mem_of_getElem? (i := 27) rfl))) (by decide) (backOf (W := 3) (rm4 l Z a0 hw [] A0 (W2 + (1 : Int32)) W0 W1 h109 n0 Z110 c113 c114 (show ¬ ((((1 : Int32) + (1 : Int32)) + (1 : Int32)) < (W2 + (1 : Int32))) from hle)) hZ (hw _ (List.mem_of_getElem? (i := 27) rfl)) (hw _ (List.mem_of_getElem? (i := 4) rfl)) (by decide) (by decide)) (g := (mkF m 41 #[.val (.ref A0), .val (.long P1), .second, .val (.long P2), .second] [(.int (W2 + (1 : Int32))), (.ref A0), (.long P2), (.ref A0)])) rfl (by rw [hml]; rfl) (Steps.refl _) (a := A0) (by rw [e112]; exact q115) q115' (argsL := [(.int (W2 + (1 : Int32)))]) (rest := [(.long P2), (.ref A0)]) (lenOf pd_3_0 rfl) rfl (by show 2 * 0 + _ ≤ _; exact Nat.le_of_eq rfl) (hb hby d3_41) (fun _ _ => ⟨rfl, e112, (by decide : 0 + 0 ≤ _), (by decide : 0 + 0 ≤ _)⟩)
    dsimp only [Pt.U, Pt.locs, Pt.cells, Pt.slots] at X115 l115 y115 z115 st115 hQ115
    subst l115 y115 z115
    obtain ⟨rfl, N115q, K115⟩ := hQ115
    have N115 := Fr.app N109 N115q
    have c117 : Fld Z h109 A0 "com/example/brigid/brigid/core/RetrySchedule" "nextAttemptAt" "J" (.long W4) := ((pm4.other W105 (Or.inr (slot_ne (Or.inl (hw _ (List.mem_of_getElem? (i := 29) rfl))) (Or.inl (hw _ (List.mem_of_getElem? (i := 21) rfl))) (by decide) (t := .long) (t' := .int) (by decide) (by decide)))).other W109 (Or.inr (slot_ne (Or.inl (hw _ (List.mem_of_getElem? (i := 29) rfl))) (Or.inl (hw _ (List.mem_of_getElem? (i := 23) rfl))) (by decide) (t := .long) (t' := .long) (by decide) (by decide))))
    obtain ⟨T118, h118, X118, e118, W118, st118⟩ := putF X115 hx hZ hown (host := "") (Or.inl (hw _ (List.mem_of_getElem? (i := 28) rfl))) Via.refl K115 c117 c116 (Or.inl (hw _ (List.mem_of_getElem? (i := 29) rfl))) (hw _ (List.mem_of_getElem? (i := 3) rfl)) (ty := .long) (by decide) rfl rfl (g := (mkF m 45 #[.val (.ref A0), .val (.long P1), .second, .val (.long P2), .second] [(.long (P2 + (own_delay W0 W1 (W2 + (1 : Int32))))), (.ref A0)])) rfl rfl (hb hby d3_45)
    have Z119 : n0 ≤ h118.size := Nat.le_trans Z110 (Nat.le_of_eq W118.size.symm)
    have K_119 : Keep h0 h118 [A0] := K_110.wr W118 (Or.inl (List.mem_of_getElem? (i := 0) rfl))
    have Fw118 : Fld Z h118 A0 "com/example/brigid/brigid/core/RetrySchedule" "nextAttemptAt" "J" (.long (P2 + (own_delay W0 W1 (W2 + (1 : Int32))))) := c117.same W118
    have N118 := Fr.snoc X118 N115 g_A0
    have pre120 : ∀ t, Steps p.tables e below (T118.setTop (mkF m 48 #[.val (.ref A0), .val (.long P1), .second, .val (.long P2), .second] [])) t → Steps p.tables e below (s₁.setTop (entryFrame m #[(.ref A0), (.long P1), (.long P2)] 5)) t := fun t kt => pre102 t (by
        show Steps p.tables e below (T101.setTop (mkF m 4 #[.val (.ref A0), .val (.long P1), .second, .val (.long P2), .second] [(.int W2)])) _
        refine XS.ifNo X101.here hx rfl (hb hby d3_4) rfl ((if0 _ _).trans (tlt hc4).2.2.2) ?_
        show Steps p.tables e below (T101.setTop (mkF m 7 #[.val (.ref A0), .val (.long P1), .second, .val (.long P2), .second] [])) _
        refine XS.lloadN X101.here hx rfl (hb hby d3_7) rfl ?_
        show Steps p.tables e below (T101.setTop (mkF m 8 #[.val (.ref A0), .val (.long P1), .second, .val (.long P2), .second] [(.long P1)])) _
        refine XS.aloadN X101.here hx rfl (hb hby d3_8) rfl rfl ?_
        show Steps p.tables e below (T101.setTop (mkF m 9 #[.val (.ref A0), .val (.long P1), .second, .val (.long P2), .second] [(.ref A0), (.long P1)])) _
        refine st103 _ ?_
        show Steps p.tables e below (T103.setTop (mkF m 12 #[.val (.ref A0), .val (.long P1), .second, .val (.long P2), .second] [(.long W3), (.long P1)])) _
        refine XS.lsub X103.here hx rfl (hb hby d3_12) rfl ?_
        show Steps p.tables e below (T103.setTop (mkF m 13 #[.val (.ref A0), .val (.long P1), .second, .val (.long P2), .second] [(.long (P1 - W3))])) _
        refine XS.lconst X103.here hx rfl (hb hby d3_13) ?_
        show Steps p.tables e below (T103.setTop (mkF m 14 #[.val (.ref A0), .val (.long P1), .second, .val (.long P2), .second] [(.long (0 : Int64)), (.long (P1 - W3))])) _
        refine XS.lcmp X103.here hx rfl (hb hby d3_14) rfl ?_
        show Steps p.tables e below (T103.setTop (mkF m 15 #[.val (.ref A0), .val (.long P1), .second, .val (.long P2), .second] [(.int (lcmpW (P1 - W3) (0 : Int64)))])) _
        refine XS.ifYes X103.here hx rfl (pc0 := 15) (pc' := 19) rfl (hb hby d3_15) rfl ((if0 _ _).trans (flt (fun q => (show ¬ ((P1 - W3) < (0 : Int64)) from (hgo.resolve_left (fun q => q hc4))) ((lw_lt (P1 - W3) (0 : Int64)).mp q))).2.1) (by decide) (by decide) ?_
        show Steps p.tables e below (T103.setTop (mkF m 19 #[.val (.ref A0), .val (.long P1), .second, .val (.long P2), .second] [])) _
        refine XS.aloadN X103.here hx rfl (hb hby d3_19) rfl rfl ?_
        show Steps p.tables e below (T103.setTop (mkF m 20 #[.val (.ref A0), .val (.long P1), .second, .val (.long P2), .second] [(.ref A0)])) _
        refine XS.dup X103.here hx rfl (hb hby d3_20) rfl rfl ?_
        show Steps p.tables e below (T103.setTop (mkF m 21 #[.val (.ref A0), .val (.long P1), .second, .val (.long P2), .second] [(.ref A0), (.ref A0)])) _
        refine st104 _ ?_
        show Steps p.tables e below (T104.setTop (mkF m 24 #[.val (.ref A0), .val (.long P1), .second, .val (.long P2), .second] [(.int W2), (.ref A0)])) _
        refine XS.iconst X104.here hx rfl (hb hby d3_24) ?_
        show Steps p.tables e below (T104.setTop (mkF m 25 #[.val (.ref A0), .val (.long P1), .second, .val (.long P2), .second] [(.int (1 : Int32)), (.int W2), (.ref A0)])) _
        refine XS.iadd X104.here hx rfl (hb hby d3_25) rfl ?_
        show Steps p.tables e below (T104.setTop (mkF m 26 #[.val (.ref A0), .val (.long P1), .second, .val (.long P2), .second] [(.int (W2 + (1 : Int32))), (.ref A0)])) _
        refine st105 _ ?_
        show Steps p.tables e below (T105.setTop (mkF m 29 #[.val (.ref A0), .val (.long P1), .second, .val (.long P2), .second] [])) _
        refine XS.aloadN X105.here hx rfl (hb hby d3_29) rfl rfl ?_
        show Steps p.tables e below (T105.setTop (mkF m 30 #[.val (.ref A0), .val (.long P1), .second, .val (.long P2), .second] [(.ref A0)])) _
        refine XS.lloadN X105.here hx rfl (hb hby d3_30) rfl ?_
        show Steps p.tables e below (T105.setTop (mkF m 31 #[.val (.ref A0), .val (.long P1), .second, .val (.long P2), .second] [(.long P2), (.ref A0)])) _
        refine st109 _ ?_
        show Steps p.tables e below (T109.setTop (mkF m 34 #[.val (.ref A0), .val (.long P1), .second, .val (.long P2), .second] [])) _
        refine XS.aloadN X109.here hx rfl (hb hby d3_34) rfl rfl ?_
        show Steps p.tables e below (T109.setTop (mkF m 35 #[.val (.ref A0), .val (.long P1), .second, .val (.long P2), .second] [(.ref A0)])) _
        refine XS.lloadN X109.here hx rfl (hb hby d3_35) rfl ?_
        show Steps p.tables e below (T109.setTop (mkF m 36 #[.val (.ref A0), .val (.long P1), .second, .val (.long P2), .second] [(.long P2), (.ref A0)])) _
        refine XS.aloadN X109.here hx rfl (hb hby d3_36) rfl rfl ?_
        show Steps p.tables e below (T109.setTop (mkF m 37 #[.val (.ref A0), .val (.long P1), .second, .val (.long P2), .second] [(.ref A0), (.long P2), (.ref A0)])) _
        refine XS.aloadN X109.here hx rfl (hb hby d3_37) rfl rfl ?_
        show Steps p.tables e below (T109.setTop (mkF m 38 #[.val (.ref A0), .val (.long P1), .second, .val (.long P2), .second] [(.ref A0), (.ref A0), (.long P2), (.ref A0)])) _
        refine st112 _ ?_
        show Steps p.tables e below (T112.setTop (mkF m 41 #[.val (.ref A0), .val (.long P1), .second, .val (.long P2), .second] [(.int (W2 + (1 : Int32))), (.ref A0), (.long P2), (.ref A0)])) _
        refine st115.trans ?_
        show Steps p.tables e below (T115.setTop (mkF m 44 #[.val (.ref A0), .val (.long P1), .second, .val (.long P2), .second] [(.long (own_delay W0 W1 (W2 + (1 : Int32)))), (.long P2), (.ref A0)])) _
        refine XS.ladd X115.here hx rfl (hb hby d3_44) rfl ?_
        show Steps p.tables e below (T115.setTop (mkF m 45 #[.val (.ref A0), .val (.long P1), .second, .val (.long P2), .second] [(.long (P2 + (own_delay W0 W1 (W2 + (1 : Int32))))), (.ref A0)])) _
        refine st118 _ ?_
        exact kt)
    have c121 : Exa Z h118 A0 "com/example/brigid/brigid/core/RetrySchedule" := (c116.wr W118)
    have c122 : Fld Z h118 A0 "com/example/brigid/brigid/core/RetrySchedule" "firstDelayNanos" "J" (.long W0) := (c113.other W118 (Or.inr (slot_ne (Or.inr (hw _ (List.mem_of_getElem? (i := 12) rfl))) (Or.inl (hw _ (List.mem_of_getElem? (i := 29) rfl))) (by decide) (t := .long) (t' := .long) (by decide) (by decide))))
    have c123 : Fld Z h118 A0 "com/example/brigid/brigid/core/RetrySchedule" "maxDelayNanos" "J" (.long W1) := (c114.other W118 (Or.inr (slot_ne (Or.inr (hw _ (List.mem_of_getElem? (i := 14) rfl))) (Or.inl (hw _ (List.mem_of_getElem? (i := 29) rfl))) (by decide) (t := .long) (t' := .long) (by decide) (by decide))))
    have c124 : Fld Z h118 A0 "com/example/brigid/brigid/core/RetrySchedule" "failures" "I" (.int (W2 + (1 : Int32))) := (c111.other W118 (Or.inr (slot_ne (Or.inl (hw _ (List.mem_of_getElem? (i := 21) rfl))) (Or.inl (hw _ (List.mem_of_getElem? (i := 29) rfl))) (by decide) (t := .int) (t' := .long) (by decide) (by decide))))
    have c125 : Fld Z h118 A0 "com/example/brigid/brigid/core/RetrySchedule" "lastFailureAt" "J" (.long P2) := (Fw109.other W118 (Or.inr (slot_ne (Or.inl (hw _ (List.mem_of_getElem? (i := 23) rfl))) (Or.inl (hw _ (List.mem_of_getElem? (i := 29) rfl))) (by decide) (t := .long) (t' := .long) (by decide) (by decide))))
    obtain ⟨fs, hr, hrun, hended, hW, hsame⟩ := X118.leave (v := none) (fun _ => rfl)
    refine ⟨_, _, pre120 _ ?_, hrun, hended, _, _, rfl, ?_, ⟨_, rfl⟩, hW, hsame.mono (by decide) (by decide)⟩
    · show Steps p.tables e below (T118.setTop (mkF m 48 #[.val (.ref A0), .val (.long P1), .second, .val (.long P2), .second] [])) _
      exact X118.returnOut hx Bd.returns (hb hby d3_48) hr
    · show Q3 Z A0 P1 P2 W0 W1 W2 W3 W4 h0 n0 _ T118.heap _
      rw [e118]
      exact ⟨rfl, N118, K_119, c121, c122, c123, c124, c125, Fw118⟩
  · obtain ⟨T126, X126, e126, st126⟩ := getF X101 hx hZ hown (host := "") (Or.inl (hw _ (List.mem_of_getElem? (i := 20) rfl))) Via.refl e101 pm2 (g := (mkF m 21 #[.val (.ref A0), .val (.long P1), .second, .val (.long P2), .second] [(.ref A0), (.ref A0)])) rfl rfl (hb hby d3_21)
    obtain ⟨T127, h127, X127, e127, W127, st127⟩ := putF X126 hx hZ hown (host := "") (Or.inl (hw _ (List.mem_of_getElem? (i := 20) rfl))) Via.refl e126 pm2 pm5 (Or.inl (hw _ (List.mem_of_getElem? (i := 21) rfl))) (hw _ (List.mem_of_getElem? (i := 3) rfl)) (ty := .int) (by decide) rfl rfl (g := (mkF m 26 #[.val (.ref A0), .val (.long P1), .second, .val (.long P2), .second] [(.int (W2 + (1 : Int32))), (.ref A0)])) rfl rfl (hb hby d3_26)
    have Z128 : n0 ≤ h127.size := Nat.le_trans Z0 (Nat.le_of_eq W127.size.symm)
    have K_128 : Keep h0 h127 [A0] := K_0.wr W127 (Or.inl (List.mem_of_getElem? (i := 0) rfl))
    have Fw127 : Fld Z h127 A0 "com/example/brigid/brigid/core/RetrySchedule" "failures" "I" (.int (W2 + (1 : Int32))) := pm2.same W127
    have N127 := Fr.snoc X127 N0 g_A0
    have c129 : Exa Z h127 A0 "com/example/brigid/brigid/core/RetrySchedule" := (pm5.wr W127)
    have c130 : Fld Z h127 A0 "com/example/brigid/brigid/core/RetrySchedule" "lastFailureAt" "J" (.long W3) := (pm3.other W127 (Or.inr (slot_ne (Or.inl (hw _ (List.mem_of_getElem? (i := 23) rfl))) (Or.inl (hw _ (List.mem_of_getElem? (i := 21) rfl))) (by decide) (t := .long) (t' := .int) (by decide) (by decide))))
    obtain ⟨T131, h131, X131, e131, W131, st131⟩ := putF X127 hx hZ hown (host := "") (Or.inl (hw _ (List.mem_of_getElem? (i := 22) rfl))) Via.refl e127 c130 c129 (Or.inl (hw _ (List.mem_of_getElem? (i := 23) rfl))) (hw _ (List.mem_of_getElem? (i := 3) rfl)) (ty := .long) (by decide) rfl rfl (g := (mkF m 31 #[.val (.ref A0), .val (.long P1), .second, .val (.long P2), .second] [(.long P2), (.ref A0)])) rfl rfl (hb hby d3_31)
    have Z132 : n0 ≤ h131.size := Nat.le_trans Z128 (Nat.le_of_eq W131.size.symm)
    have K_132 : Keep h0 h131 [A0] := K_128.wr W131 (Or.inl (List.mem_of_getElem? (i := 0) rfl))
    have Fw131 : Fld Z h131 A0 "com/example/brigid/brigid/core/RetrySchedule" "lastFailureAt" "J" (.long P2) := c130.same W131
    have N131 := Fr.snoc X131 N127 g_A0
    have c133 : Fld Z h131 A0 "com/example/brigid/brigid/core/RetrySchedule" "failures" "I" (.int (W2 + (1 : Int32))) := (Fw127.other W131 (Or.inr (slot_ne (Or.inl (hw _ (List.mem_of_getElem? (i := 21) rfl))) (Or.inl (hw _ (List.mem_of_getElem? (i := 23) rfl))) (by decide) (t := .int) (t' := .long) (by decide) (by decide))))
    obtain ⟨T134, X134, e134, st134⟩ := getF X131 hx hZ hown (host := "") (Or.inl (hw _ (List.mem_of_getElem? (i := 20) rfl))) Via.refl e131 c133 (g := (mkF m 38 #[.val (.ref A0), .val (.long P1), .second, .val (.long P2), .second] [(.ref A0), (.ref A0), (.long P2), (.ref A0)])) rfl rfl (hb hby d3_38)
    have c135 : Fld Z h131 A0 "com/example/brigid/brigid/core/RetrySchedule" "firstDelayNanos" "J" (.long W0) := ((pm0.other W127 (Or.inr (slot_ne (Or.inr (hw _ (List.mem_of_getElem? (i := 12) rfl))) (Or.inl (hw _ (List.mem_of_getElem? (i := 21) rfl))) (by decide) (t := .long) (t' := .int) (by decide) (by decide)))).other W131 (Or.inr (slot_ne (Or.inr (hw _ (List.mem_of_getElem? (i := 12) rfl))) (Or.inl (hw _ (List.mem_of_getElem? (i := 23) rfl))) (by decide) (t := .long) (t' := .long) (by decide) (by decide))))
    have c136 : Fld Z h131 A0 "com/example/brigid/brigid/core/RetrySchedule" "maxDelayNanos" "J" (.long W1) := ((pm1.other W127 (Or.inr (slot_ne (Or.inr (hw _ (List.mem_of_getElem? (i := 14) rfl))) (Or.inl (hw _ (List.mem_of_getElem? (i := 21) rfl))) (by decide) (t := .long) (t' := .int) (by decide) (by decide)))).other W131 (Or.inr (slot_ne (Or.inr (hw _ (List.mem_of_getElem? (i := 14) rfl))) (Or.inl (hw _ (List.mem_of_getElem? (i := 23) rfl))) (by decide) (t := .long) (t' := .long) (by decide) (by decide))))
    have c138 : Exa Z h131 A0 "com/example/brigid/brigid/core/RetrySchedule" := (c129.wr W131)
    obtain ⟨cq137, q137, q137'⟩ := c138.cell
    obtain ⟨_, _, ⟨T137, L137, k137, n137⟩, -, X137, ⟨Lc137, hQ137, l137, y137, z137⟩, st137⟩ := X134.privateBack hx (y := (⟨"com/example/brigid/brigid/core/RetrySchedule", "delay", "(I)J"⟩ : MethodName)) hown (mvT hZ (hw _ (List.mem_of_getElem? (i := 24) rfl))) (mvT hZ (hw _ (List.mem_of_getElem? (i := 25) rfl))) (Jvm.Kit.selects_private (by decide) (mvT hZ (hw _ (List.mem_of_getElem? (i := 3) rfl))) (mvP hZ (hw _ (List.mem_of_getElem? (i := 26) rfl))) (mvT hZ (hw _ (List.mem_of_getElem? (i := 25) rfl)))) (Cond.privateMethod_at (mvP hZ (hw _ (List.mem_of_getElem? (i := 26) rfl)) (args := #[]))) (mvT hZ (hw _ (List.mem_of_getElem? (i := 27) rfl))) (by decide) (backOf (W := 3) (rm4 l Z a0 hw [] A0 (W2 + (1 : Int32)) W0 W1 h131 n0 Z132 c135 c136 (show ¬ ((((1 : Int32) + (1 : Int32)) + (1 : Int32)) < (W2 + (1 : Int32))) from hle)) hZ (hw _ (List.mem_of_getElem? (i := 27) rfl)) (hw _ (List.mem_of_getElem? (i := 4) rfl)) (by decide) (by decide)) (g := (mkF m 41 #[.val (.ref A0), .val (.long P1), .second, .val (.long P2), .second] [(.int (W2 + (1 : Int32))), (.ref A0), (.long P2), (.ref A0)])) rfl (by rw [hml]; rfl) (Steps.refl _) (a := A0) (by rw [e134]; exact q137) q137' (argsL := [(.int (W2 + (1 : Int32)))]) (rest := [(.long P2), (.ref A0)]) (lenOf pd_3_0 rfl) rfl (by show 2 * 0 + _ ≤ _; exact Nat.le_of_eq rfl) (hb hby d3_41) (fun _ _ => ⟨rfl, e134, (by decide : 0 + 0 ≤ _), (by decide : 0 + 0 ≤ _)⟩)
    dsimp only [Pt.U, Pt.locs, Pt.cells, Pt.slots] at X137 l137 y137 z137 st137 hQ137
    subst l137 y137 z137
    obtain ⟨rfl, N137q, K137⟩ := hQ137
    have N137 := Fr.app N131 N137q
    have c139 : Fld Z h131 A0 "com/example/brigid/brigid/core/RetrySchedule" "nextAttemptAt" "J" (.long W4) := ((pm4.other W127 (Or.inr (slot_ne (Or.inl (hw _ (List.mem_of_getElem? (i := 29) rfl))) (Or.inl (hw _ (List.mem_of_getElem? (i := 21) rfl))) (by decide) (t := .long) (t' := .int) (by decide) (by decide)))).other W131 (Or.inr (slot_ne (Or.inl (hw _ (List.mem_of_getElem? (i := 29) rfl))) (Or.inl (hw _ (List.mem_of_getElem? (i := 23) rfl))) (by decide) (t := .long) (t' := .long) (by decide) (by decide))))
    obtain ⟨T140, h140, X140, e140, W140, st140⟩ := putF X137 hx hZ hown (host := "") (Or.inl (hw _ (List.mem_of_getElem? (i := 28) rfl))) Via.refl K137 c139 c138 (Or.inl (hw _ (List.mem_of_getElem? (i := 29) rfl))) (hw _ (List.mem_of_getElem? (i := 3) rfl)) (ty := .long) (by decide) rfl rfl (g := (mkF m 45 #[.val (.ref A0), .val (.long P1), .second, .val (.long P2), .second] [(.long (P2 + (own_delay W0 W1 (W2 + (1 : Int32))))), (.ref A0)])) rfl rfl (hb hby d3_45)
    have Z141 : n0 ≤ h140.size := Nat.le_trans Z132 (Nat.le_of_eq W140.size.symm)
    have K_141 : Keep h0 h140 [A0] := K_132.wr W140 (Or.inl (List.mem_of_getElem? (i := 0) rfl))
    have Fw140 : Fld Z h140 A0 "com/example/brigid/brigid/core/RetrySchedule" "nextAttemptAt" "J" (.long (P2 + (own_delay W0 W1 (W2 + (1 : Int32))))) := c139.same W140
    have N140 := Fr.snoc X140 N137 g_A0
    have pre142 : ∀ t, Steps p.tables e below (T140.setTop (mkF m 48 #[.val (.ref A0), .val (.long P1), .second, .val (.long P2), .second] [])) t → Steps p.tables e below (s₁.setTop (entryFrame m #[(.ref A0), (.long P1), (.long P2)] 5)) t := fun t kt => pre102 t (by
        show Steps p.tables e below (T101.setTop (mkF m 4 #[.val (.ref A0), .val (.long P1), .second, .val (.long P2), .second] [(.int W2)])) _
        refine XS.ifYes X101.here hx rfl (pc0 := 4) (pc' := 19) rfl (hb hby d3_4) rfl ((if0 _ _).trans (flt hc4).2.2.2) (by decide) (by decide) ?_
        show Steps p.tables e below (T101.setTop (mkF m 19 #[.val (.ref A0), .val (.long P1), .second, .val (.long P2), .second] [])) _
        refine XS.aloadN X101.here hx rfl (hb hby d3_19) rfl rfl ?_
        show Steps p.tables e below (T101.setTop (mkF m 20 #[.val (.ref A0), .val (.long P1), .second, .val (.long P2), .second] [(.ref A0)])) _
        refine XS.dup X101.here hx rfl (hb hby d3_20) rfl rfl ?_
        show Steps p.tables e below (T101.setTop (mkF m 21 #[.val (.ref A0), .val (.long P1), .second, .val (.long P2), .second] [(.ref A0), (.ref A0)])) _
        refine st126 _ ?_
        show Steps p.tables e below (T126.setTop (mkF m 24 #[.val (.ref A0), .val (.long P1), .second, .val (.long P2), .second] [(.int W2), (.ref A0)])) _
        refine XS.iconst X126.here hx rfl (hb hby d3_24) ?_
        show Steps p.tables e below (T126.setTop (mkF m 25 #[.val (.ref A0), .val (.long P1), .second, .val (.long P2), .second] [(.int (1 : Int32)), (.int W2), (.ref A0)])) _
        refine XS.iadd X126.here hx rfl (hb hby d3_25) rfl ?_
        show Steps p.tables e below (T126.setTop (mkF m 26 #[.val (.ref A0), .val (.long P1), .second, .val (.long P2), .second] [(.int (W2 + (1 : Int32))), (.ref A0)])) _
        refine st127 _ ?_
        show Steps p.tables e below (T127.setTop (mkF m 29 #[.val (.ref A0), .val (.long P1), .second, .val (.long P2), .second] [])) _
        refine XS.aloadN X127.here hx rfl (hb hby d3_29) rfl rfl ?_
        show Steps p.tables e below (T127.setTop (mkF m 30 #[.val (.ref A0), .val (.long P1), .second, .val (.long P2), .second] [(.ref A0)])) _
        refine XS.lloadN X127.here hx rfl (hb hby d3_30) rfl ?_
        show Steps p.tables e below (T127.setTop (mkF m 31 #[.val (.ref A0), .val (.long P1), .second, .val (.long P2), .second] [(.long P2), (.ref A0)])) _
        refine st131 _ ?_
        show Steps p.tables e below (T131.setTop (mkF m 34 #[.val (.ref A0), .val (.long P1), .second, .val (.long P2), .second] [])) _
        refine XS.aloadN X131.here hx rfl (hb hby d3_34) rfl rfl ?_
        show Steps p.tables e below (T131.setTop (mkF m 35 #[.val (.ref A0), .val (.long P1), .second, .val (.long P2), .second] [(.ref A0)])) _
        refine XS.lloadN X131.here hx rfl (hb hby d3_35) rfl ?_
        show Steps p.tables e below (T131.setTop (mkF m 36 #[.val (.ref A0), .val (.long P1), .second, .val (.long P2), .second] [(.long P2), (.ref A0)])) _
        refine XS.aloadN X131.here hx rfl (hb hby d3_36) rfl rfl ?_
        show Steps p.tables e below (T131.setTop (mkF m 37 #[.val (.ref A0), .val (.long P1), .second, .val (.long P2), .second] [(.ref A0), (.long P2), (.ref A0)])) _
        refine XS.aloadN X131.here hx rfl (hb hby d3_37) rfl rfl ?_
        show Steps p.tables e below (T131.setTop (mkF m 38 #[.val (.ref A0), .val (.long P1), .second, .val (.long P2), .second] [(.ref A0), (.ref A0), (.long P2), (.ref A0)])) _
        refine st134 _ ?_
        show Steps p.tables e below (T134.setTop (mkF m 41 #[.val (.ref A0), .val (.long P1), .second, .val (.long P2), .second] [(.int (W2 + (1 : Int32))), (.ref A0), (.long P2), (.ref A0)])) _
        refine st137.trans ?_
        show Steps p.tables e below (T137.setTop (mkF m 44 #[.val (.ref A0), .val (.long P1), .second, .val (.long P2), .second] [(.long (own_delay W0 W1 (W2 + (1 : Int32)))), (.long P2), (.ref A0)])) _
        refine XS.ladd X137.here hx rfl (hb hby d3_44) rfl ?_
        show Steps p.tables e below (T137.setTop (mkF m 45 #[.val (.ref A0), .val (.long P1), .second, .val (.long P2), .second] [(.long (P2 + (own_delay W0 W1 (W2 + (1 : Int32))))), (.ref A0)])) _
        refine st140 _ ?_
        exact kt)
    have c143 : Exa Z h140 A0 "com/example/brigid/brigid/core/RetrySchedule" := (c138.wr W140)
    have c144 : Fld Z h140 A0 "com/example/brigid/brigid/core/RetrySchedule" "firstDelayNanos" "J" (.long W0) := (c135.other W140 (Or.inr (slot_ne (Or.inr (hw _ (List.mem_of_getElem? (i := 12) rfl))) (Or.inl (hw _ (List.mem_of_getElem? (i := 29) rfl))) (by decide) (t := .long) (t' := .long) (by decide) (by decide))))
    have c145 : Fld Z h140 A0 "com/example/brigid/brigid/core/RetrySchedule" "maxDelayNanos" "J" (.long W1) := (c136.other W140 (Or.inr (slot_ne (Or.inr (hw _ (List.mem_of_getElem? (i := 14) rfl))) (Or.inl (hw _ (List.mem_of_getElem? (i := 29) rfl))) (by decide) (t := .long) (t' := .long) (by decide) (by decide))))
    have c146 : Fld Z h140 A0 "com/example/brigid/brigid/core/RetrySchedule" "failures" "I" (.int (W2 + (1 : Int32))) := (c133.other W140 (Or.inr (slot_ne (Or.inl (hw _ (List.mem_of_getElem? (i := 21) rfl))) (Or.inl (hw _ (List.mem_of_getElem? (i := 29) rfl))) (by decide) (t := .int) (t' := .long) (by decide) (by decide))))
    have c147 : Fld Z h140 A0 "com/example/brigid/brigid/core/RetrySchedule" "lastFailureAt" "J" (.long P2) := (Fw131.other W140 (Or.inr (slot_ne (Or.inl (hw _ (List.mem_of_getElem? (i := 23) rfl))) (Or.inl (hw _ (List.mem_of_getElem? (i := 29) rfl))) (by decide) (t := .long) (t' := .long) (by decide) (by decide))))
    obtain ⟨fs, hr, hrun, hended, hW, hsame⟩ := X140.leave (v := none) (fun _ => rfl)
    refine ⟨_, _, pre142 _ ?_, hrun, hended, _, _, rfl, ?_, ⟨_, rfl⟩, hW, hsame.mono (by decide) (by decide)⟩
    · show Steps p.tables e below (T140.setTop (mkF m 48 #[.val (.ref A0), .val (.long P1), .second, .val (.long P2), .second] [])) _
      exact X140.returnOut hx Bd.returns (hb hby d3_48) hr
    · show Q3 Z A0 P1 P2 W0 W1 W2 W3 W4 h0 n0 _ T140.heap _
      rw [e140]
      exact ⟨rfl, N140, K_141, c143, c144, c145, c146, c147, Fw140⟩
def own_al (f : Int32) (n t : Int64) : Int32 := if f = (0 : Int32) then (1 : Int32) else (if (t - n) < (0 : Int64) then (0 : Int32) else (1 : Int32))
theorem d6_0 : decode prog_12_method_2_code 0 = .ok (.aload_n 0, 1) := by decide +kernel
theorem d6_1 : decode prog_12_method_2_code 1 = .ok (.getfield 16, 3) := by decide +kernel
theorem d6_4 : decode prog_12_method_2_code 4 = .ok (.ifCond .eq 14, 3) := by decide +kernel
theorem d6_7 : decode prog_12_method_2_code 7 = .ok (.lload_n 1, 1) := by decide +kernel
theorem d6_8 : decode prog_12_method_2_code 8 = .ok (.aload_n 0, 1) := by decide +kernel
theorem d6_9 : decode prog_12_method_2_code 9 = .ok (.getfield 20, 3) := by decide +kernel
theorem d6_12 : decode prog_12_method_2_code 12 = .ok (.lsub, 1) := by decide +kernel
theorem d6_13 : decode prog_12_method_2_code 13 = .ok (.lconst 0, 1) := by decide +kernel
theorem d6_14 : decode prog_12_method_2_code 14 = .ok (.lcmp, 1) := by decide +kernel
theorem d6_15 : decode prog_12_method_2_code 15 = .ok (.ifCond .lt 7, 3) := by decide +kernel
theorem d6_18 : decode prog_12_method_2_code 18 = .ok (.iconst 1, 1) := by decide +kernel
theorem d6_19 : decode prog_12_method_2_code 19 = .ok (.goto 4, 3) := by decide +kernel
theorem d6_22 : decode prog_12_method_2_code 22 = .ok (.iconst 0, 1) := by decide +kernel
theorem d6_23 : decode prog_12_method_2_code 23 = .ok (.ireturn, 1) := by decide +kernel
theorem pn_6 : plainName "com/example/brigid/brigid/core/RetrySchedule" = true := by first | (simp [plainName, overriddenIn]; done) | decide +kernel
theorem ef_6 (m : MethodId) (A0 : Addr) (P1 : Int64) : entryFrame m #[(.ref A0), (.long P1)] 3 = mkF m 0 #[.val (.ref A0), .val (.long P1), .second] [] := by first | (simp [entryFrame, mkF, argsToLocals, Value.category]; done) | rfl
def Q6 (Z : State) (A0 : Addr) (P1 : Int64) (W2 : Int32) (W4 : Int64) (h0 : Heap) (n0 : Nat) (v : Option Value) (h : Heap) (L : List Loc) : Prop := (v = some (.int (own_al W2 W4 P1))) ∧ (Fr n0 L) ∧ (h = h0)
set_option maxRecDepth 65536 in
set_option maxHeartbeats 40000000 in
theorem rm6 (l : Launch) (Z : State) (a0 : Array Value) (hw : ∀ d ∈ tables_1, d.before a0 Z = true) (ws : List Jvm.Cond) (A0 : Addr) (P1 : Int64) (W2 : Int32) (W4 : Int64) (h0 : Heap) (n0 : Nat) (Z0 : n0 ≤ h0.size) (pm0 : Fld Z h0 A0 "com/example/brigid/brigid/core/RetrySchedule" "failures" "I" (.int W2)) (pm1 : Fld Z h0 A0 "com/example/brigid/brigid/core/RetrySchedule" "nextAttemptAt" "J" (.long W4)) :
    MetFree l (⟨"com/example/brigid/brigid/core/RetrySchedule", "allows", "(J)Z"⟩ : MethodName) (head1 (Jvm.Cond.code (⟨"com/example/brigid/brigid/core/RetrySchedule", "allows", "(J)Z"⟩ : MethodName) prog_12_method_2_code 3 (some .boolean) :: ws) ({ frames := 0, cells := 0, slots := 0, locals := 0 } : Room)) (fun a U => a = #[(.ref A0), (.long P1)] ∧ Z.Warmed39 U.vm ∧ U.heap = h0) (fun _ _ _ _ _ => True) (fun _ U o U' => ∃ v L, o = .returned v ∧ Q6 Z A0 P1 W2 W4 h0 n0 v U'.heap L ∧ FrameEnd U o U' L ({ frames := 0, cells := 0, slots := 0, locals := 0 } : Room).cells ({ frames := 0, cells := 0, slots := 0, locals := 0 } : Room).slots) := by
  refine MetFree.of_bodySF (plainFor_of_name pn_6) hisR ?_
  intro p e s m args below meth c s₁ Bd hml0 hP hK
  obtain ⟨rfl, hZ, hh⟩ := hP
  have hx := Bd.exec
  have hby := Bd.bytes
  have hml : c.maxLocals = 3 := hml0
  have hown : s.vm.findClass "com/example/brigid/brigid/core/RetrySchedule" = some m.cls := findClass_of_methodNamed Bd.named
  have hnm := (name_of_methodNamed Bd.named Bd.method).1
  have X0 : Stand p l e ({ frames := 0, cells := 0, slots := 0, locals := 0 } : Room) s m #[(.ref A0), (.long P1)] below meth c s₁ [] 0 0 := Stand.of_body Bd
  have e0 : s₁.heap = h0 := by rw [← hh, Bd.state]; rfl
  have N0 := Fr.nil n0
  have pre0 : ∀ t, Steps p.tables e below (s₁.setTop (mkF m 0 #[.val (.ref A0), .val (.long P1), .second] [])) t → Steps p.tables e below (s₁.setTop (entryFrame m #[(.ref A0), (.long P1)] 3)) t := fun t k => castTop (ef_6 m A0 P1) k
  obtain ⟨T101, X101, e101, st101⟩ := getF X0 hx hZ hown (host := "") (Or.inl (hw _ (List.mem_of_getElem? (i := 20) rfl))) Via.refl e0 pm0 (g := (mkF m 1 #[.val (.ref A0), .val (.long P1), .second] [(.ref A0)])) rfl rfl (hb hby d6_1)
  have pre102 : ∀ t, Steps p.tables e below (T101.setTop (mkF m 4 #[.val (.ref A0), .val (.long P1), .second] [(.int W2)])) t → Steps p.tables e below (s₁.setTop (entryFrame m #[(.ref A0), (.long P1)] 3)) t := fun t kt => pre0 t (by
      show Steps p.tables e below (s₁.setTop (mkF m 0 #[.val (.ref A0), .val (.long P1), .second] [])) _
      refine XS.aloadN X0.here hx rfl (hb hby d6_0) rfl rfl ?_
      show Steps p.tables e below (s₁.setTop (mkF m 1 #[.val (.ref A0), .val (.long P1), .second] [(.ref A0)])) _
      refine st101 _ ?_
      exact kt)
  by_cases hc4 : W2 = (0 : Int32)
  · have pre103 : ∀ t, Steps p.tables e below (T101.setTop (mkF m 23 #[.val (.ref A0), .val (.long P1), .second] [(.int (1 : Int32))])) t → Steps p.tables e below (s₁.setTop (entryFrame m #[(.ref A0), (.long P1)] 3)) t := fun t kt => pre102 t (by
        show Steps p.tables e below (T101.setTop (mkF m 4 #[.val (.ref A0), .val (.long P1), .second] [(.int W2)])) _
        refine XS.ifYes X101.here hx rfl (pc0 := 4) (pc' := 18) rfl (hb hby d6_4) rfl ((if0 _ _).trans (teq hc4).1) (by decide) (by decide) ?_
        show Steps p.tables e below (T101.setTop (mkF m 18 #[.val (.ref A0), .val (.long P1), .second] [])) _
        refine XS.iconst X101.here hx rfl (hb hby d6_18) ?_
        show Steps p.tables e below (T101.setTop (mkF m 19 #[.val (.ref A0), .val (.long P1), .second] [(.int (1 : Int32))])) _
        refine XS.goto X101.here hx rfl (pc0 := 19) (pc' := 23) rfl (hb hby d6_19) (by decide) (by decide) ?_
        exact kt)
    obtain ⟨fs, hr, hrun, hended, hW, hsame⟩ := X101.leave (v := some (.int (1 : Int32))) (fun h => by rw [Bd.returns] at h; cases h)
    refine ⟨_, _, pre103 _ ?_, hrun, hended, _, _, rfl, ?_, ⟨_, rfl⟩, hW, hsame.mono (by decide) (by decide)⟩
    · show Steps p.tables e below (T101.setTop (mkF m 23 #[.val (.ref A0), .val (.long P1), .second] [(.int (1 : Int32))])) _
      exact retN X101 hx (t := .boolean) Bd.returns (by simp) (hb hby d6_23) hr
    · show Q6 Z A0 P1 W2 W4 h0 n0 _ T101.heap _
      rw [e101]
      exact ⟨(congrArg (fun z => some (Value.int z)) (show (1 : Int32) = (own_al W2 W4 P1) from by unfold own_al; rw [if_pos hc4])), N0, rfl⟩
  · obtain ⟨T104, X104, e104, st104⟩ := getF X101 hx hZ hown (host := "") (Or.inl (hw _ (List.mem_of_getElem? (i := 28) rfl))) Via.refl e101 pm1 (g := (mkF m 9 #[.val (.ref A0), .val (.long P1), .second] [(.ref A0), (.long P1)])) rfl rfl (hb hby d6_9)
    have pre105 : ∀ t, Steps p.tables e below (T104.setTop (mkF m 15 #[.val (.ref A0), .val (.long P1), .second] [(.int (lcmpW (P1 - W4) (0 : Int64)))])) t → Steps p.tables e below (s₁.setTop (entryFrame m #[(.ref A0), (.long P1)] 3)) t := fun t kt => pre102 t (by
        show Steps p.tables e below (T101.setTop (mkF m 4 #[.val (.ref A0), .val (.long P1), .second] [(.int W2)])) _
        refine XS.ifNo X101.here hx rfl (hb hby d6_4) rfl ((if0 _ _).trans (feq hc4).1) ?_
        show Steps p.tables e below (T101.setTop (mkF m 7 #[.val (.ref A0), .val (.long P1), .second] [])) _
        refine XS.lloadN X101.here hx rfl (hb hby d6_7) rfl ?_
        show Steps p.tables e below (T101.setTop (mkF m 8 #[.val (.ref A0), .val (.long P1), .second] [(.long P1)])) _
        refine XS.aloadN X101.here hx rfl (hb hby d6_8) rfl rfl ?_
        show Steps p.tables e below (T101.setTop (mkF m 9 #[.val (.ref A0), .val (.long P1), .second] [(.ref A0), (.long P1)])) _
        refine st104 _ ?_
        show Steps p.tables e below (T104.setTop (mkF m 12 #[.val (.ref A0), .val (.long P1), .second] [(.long W4), (.long P1)])) _
        refine XS.lsub X104.here hx rfl (hb hby d6_12) rfl ?_
        show Steps p.tables e below (T104.setTop (mkF m 13 #[.val (.ref A0), .val (.long P1), .second] [(.long (P1 - W4))])) _
        refine XS.lconst X104.here hx rfl (hb hby d6_13) ?_
        show Steps p.tables e below (T104.setTop (mkF m 14 #[.val (.ref A0), .val (.long P1), .second] [(.long (0 : Int64)), (.long (P1 - W4))])) _
        refine XS.lcmp X104.here hx rfl (hb hby d6_14) rfl ?_
        exact kt)
    by_cases hc15 : (P1 - W4) < (0 : Int64)
    · have pre106 : ∀ t, Steps p.tables e below (T104.setTop (mkF m 23 #[.val (.ref A0), .val (.long P1), .second] [(.int (0 : Int32))])) t → Steps p.tables e below (s₁.setTop (entryFrame m #[(.ref A0), (.long P1)] 3)) t := fun t kt => pre105 t (by
          show Steps p.tables e below (T104.setTop (mkF m 15 #[.val (.ref A0), .val (.long P1), .second] [(.int (lcmpW (P1 - W4) (0 : Int64)))])) _
          refine XS.ifYes X104.here hx rfl (pc0 := 15) (pc' := 22) rfl (hb hby d6_15) rfl ((if0 _ _).trans (tlt ((lw_lt (P1 - W4) (0 : Int64)).mpr hc15)).1) (by decide) (by decide) ?_
          show Steps p.tables e below (T104.setTop (mkF m 22 #[.val (.ref A0), .val (.long P1), .second] [])) _
          refine XS.iconst X104.here hx rfl (hb hby d6_22) ?_
          exact kt)
      obtain ⟨fs, hr, hrun, hended, hW, hsame⟩ := X104.leave (v := some (.int (0 : Int32))) (fun h => by rw [Bd.returns] at h; cases h)
      refine ⟨_, _, pre106 _ ?_, hrun, hended, _, _, rfl, ?_, ⟨_, rfl⟩, hW, hsame.mono (by decide) (by decide)⟩
      · show Steps p.tables e below (T104.setTop (mkF m 23 #[.val (.ref A0), .val (.long P1), .second] [(.int (0 : Int32))])) _
        exact retN X104 hx (t := .boolean) Bd.returns (by simp) (hb hby d6_23) hr
      · show Q6 Z A0 P1 W2 W4 h0 n0 _ T104.heap _
        rw [e104]
        exact ⟨(congrArg (fun z => some (Value.int z)) (show (0 : Int32) = (own_al W2 W4 P1) from by unfold own_al; rw [if_neg hc4, if_pos hc15])), N0, rfl⟩
    · have pre107 : ∀ t, Steps p.tables e below (T104.setTop (mkF m 23 #[.val (.ref A0), .val (.long P1), .second] [(.int (1 : Int32))])) t → Steps p.tables e below (s₁.setTop (entryFrame m #[(.ref A0), (.long P1)] 3)) t := fun t kt => pre105 t (by
          show Steps p.tables e below (T104.setTop (mkF m 15 #[.val (.ref A0), .val (.long P1), .second] [(.int (lcmpW (P1 - W4) (0 : Int64)))])) _
          refine XS.ifNo X104.here hx rfl (hb hby d6_15) rfl ((if0 _ _).trans (flt (fun q => hc15 ((lw_lt (P1 - W4) (0 : Int64)).mp q))).1) ?_
          show Steps p.tables e below (T104.setTop (mkF m 18 #[.val (.ref A0), .val (.long P1), .second] [])) _
          refine XS.iconst X104.here hx rfl (hb hby d6_18) ?_
          show Steps p.tables e below (T104.setTop (mkF m 19 #[.val (.ref A0), .val (.long P1), .second] [(.int (1 : Int32))])) _
          refine XS.goto X104.here hx rfl (pc0 := 19) (pc' := 23) rfl (hb hby d6_19) (by decide) (by decide) ?_
          exact kt)
      obtain ⟨fs, hr, hrun, hended, hW, hsame⟩ := X104.leave (v := some (.int (1 : Int32))) (fun h => by rw [Bd.returns] at h; cases h)
      refine ⟨_, _, pre107 _ ?_, hrun, hended, _, _, rfl, ?_, ⟨_, rfl⟩, hW, hsame.mono (by decide) (by decide)⟩
      · show Steps p.tables e below (T104.setTop (mkF m 23 #[.val (.ref A0), .val (.long P1), .second] [(.int (1 : Int32))])) _
        exact retN X104 hx (t := .boolean) Bd.returns (by simp) (hb hby d6_23) hr
      · show Q6 Z A0 P1 W2 W4 h0 n0 _ T104.heap _
        rw [e104]
        exact ⟨(congrArg (fun z => some (Value.int z)) (show (1 : Int32) = (own_al W2 W4 P1) from by unfold own_al; rw [if_neg hc4, if_neg hc15])), N0, rfl⟩
theorem d5_0 : decode prog_12_method_7_code 0 = .ok (.aload_n 0, 1) := by decide +kernel
theorem d5_1 : decode prog_12_method_7_code 1 = .ok (.iconst 0, 1) := by decide +kernel
theorem d5_2 : decode prog_12_method_7_code 2 = .ok (.putfield 16, 3) := by decide +kernel
theorem d5_5 : decode prog_12_method_7_code 5 = .ok (.return_, 1) := by decide +kernel
theorem pn_5 : plainName "com/example/brigid/brigid/core/RetrySchedule" = true := by first | (simp [plainName, overriddenIn]; done) | decide +kernel
theorem ef_5 (m : MethodId) (A0 : Addr) : entryFrame m #[(.ref A0)] 1 = mkF m 0 #[.val (.ref A0)] [] := by first | (simp [entryFrame, mkF, argsToLocals, Value.category]; done) | rfl
def Q5 (Z : State) (A0 : Addr) (W0 : Int64) (W1 : Int64) (W2 : Int32) (W3 : Int64) (W4 : Int64) (h0 : Heap) (n0 : Nat) (v : Option Value) (h : Heap) (L : List Loc) : Prop := (v = none) ∧ (Fr n0 L) ∧ (Keep h0 h [A0]) ∧ (Exa Z h A0 "com/example/brigid/brigid/core/RetrySchedule") ∧ (Fld Z h A0 "com/example/brigid/brigid/core/RetrySchedule" "firstDelayNanos" "J" (.long W0)) ∧ (Fld Z h A0 "com/example/brigid/brigid/core/RetrySchedule" "maxDelayNanos" "J" (.long W1)) ∧ (Fld Z h A0 "com/example/brigid/brigid/core/RetrySchedule" "failures" "I" (.int (0 : Int32))) ∧ (Fld Z h A0 "com/example/brigid/brigid/core/RetrySchedule" "lastFailureAt" "J" (.long W3)) ∧ (Fld Z h A0 "com/example/brigid/brigid/core/RetrySchedule" "nextAttemptAt" "J" (.long W4))
set_option maxRecDepth 65536 in
set_option maxHeartbeats 40000000 in
theorem rm5 (l : Launch) (Z : State) (a0 : Array Value) (hw : ∀ d ∈ tables_1, d.before a0 Z = true) (ws : List Jvm.Cond) (A0 : Addr) (W0 : Int64) (W1 : Int64) (W2 : Int32) (W3 : Int64) (W4 : Int64) (h0 : Heap) (n0 : Nat) (Z0 : n0 ≤ h0.size) (pm0 : Fld Z h0 A0 "com/example/brigid/brigid/core/RetrySchedule" "firstDelayNanos" "J" (.long W0)) (pm1 : Fld Z h0 A0 "com/example/brigid/brigid/core/RetrySchedule" "maxDelayNanos" "J" (.long W1)) (pm2 : Fld Z h0 A0 "com/example/brigid/brigid/core/RetrySchedule" "failures" "I" (.int W2)) (pm3 : Fld Z h0 A0 "com/example/brigid/brigid/core/RetrySchedule" "lastFailureAt" "J" (.long W3)) (pm4 : Fld Z h0 A0 "com/example/brigid/brigid/core/RetrySchedule" "nextAttemptAt" "J" (.long W4)) (pm5 : Exa Z h0 A0 "com/example/brigid/brigid/core/RetrySchedule") (g_A0 : n0 ≤ A0) :
    MetFree l (⟨"com/example/brigid/brigid/core/RetrySchedule", "succeeded", "()V"⟩ : MethodName) (head1 (Jvm.Cond.code (⟨"com/example/brigid/brigid/core/RetrySchedule", "succeeded", "()V"⟩ : MethodName) prog_12_method_7_code 1 none :: ws) ({ frames := 0, cells := 0, slots := 0, locals := 0 } : Room)) (fun a U => a = #[(.ref A0)] ∧ Z.Warmed39 U.vm ∧ U.heap = h0) (fun _ _ _ _ _ => True) (fun _ U o U' => ∃ v L, o = .returned v ∧ Q5 Z A0 W0 W1 W2 W3 W4 h0 n0 v U'.heap L ∧ FrameEnd U o U' L ({ frames := 0, cells := 0, slots := 0, locals := 0 } : Room).cells ({ frames := 0, cells := 0, slots := 0, locals := 0 } : Room).slots) := by
  refine MetFree.of_bodySF (plainFor_of_name pn_5) hisR ?_
  intro p e s m args below meth c s₁ Bd hml0 hP hK
  obtain ⟨rfl, hZ, hh⟩ := hP
  have hx := Bd.exec
  have hby := Bd.bytes
  have hml : c.maxLocals = 1 := hml0
  have hown : s.vm.findClass "com/example/brigid/brigid/core/RetrySchedule" = some m.cls := findClass_of_methodNamed Bd.named
  have hnm := (name_of_methodNamed Bd.named Bd.method).1
  have X0 : Stand p l e ({ frames := 0, cells := 0, slots := 0, locals := 0 } : Room) s m #[(.ref A0)] below meth c s₁ [] 0 0 := Stand.of_body Bd
  have e0 : s₁.heap = h0 := by rw [← hh, Bd.state]; rfl
  have N0 := Fr.nil n0
  have pre0 : ∀ t, Steps p.tables e below (s₁.setTop (mkF m 0 #[.val (.ref A0)] [])) t → Steps p.tables e below (s₁.setTop (entryFrame m #[(.ref A0)] 1)) t := fun t k => castTop (ef_5 m A0) k
  have K_0 : Keep h0 h0 [A0] := Keep.refl h0 _
  obtain ⟨T101, h101, X101, e101, W101, st101⟩ := putF X0 hx hZ hown (host := "") (Or.inl (hw _ (List.mem_of_getElem? (i := 20) rfl))) Via.refl e0 pm2 pm5 (Or.inl (hw _ (List.mem_of_getElem? (i := 21) rfl))) (hw _ (List.mem_of_getElem? (i := 3) rfl)) (ty := .int) (by decide) rfl rfl (g := (mkF m 2 #[.val (.ref A0)] [(.int (0 : Int32)), (.ref A0)])) rfl rfl (hb hby d5_2)
  have Z102 : n0 ≤ h101.size := Nat.le_trans Z0 (Nat.le_of_eq W101.size.symm)
  have K_102 : Keep h0 h101 [A0] := K_0.wr W101 (Or.inl (List.mem_of_getElem? (i := 0) rfl))
  have Fw101 : Fld Z h101 A0 "com/example/brigid/brigid/core/RetrySchedule" "failures" "I" (.int (0 : Int32)) := pm2.same W101
  have N101 := Fr.snoc X101 N0 g_A0
  have pre103 : ∀ t, Steps p.tables e below (T101.setTop (mkF m 5 #[.val (.ref A0)] [])) t → Steps p.tables e below (s₁.setTop (entryFrame m #[(.ref A0)] 1)) t := fun t kt => pre0 t (by
      show Steps p.tables e below (s₁.setTop (mkF m 0 #[.val (.ref A0)] [])) _
      refine XS.aloadN X0.here hx rfl (hb hby d5_0) rfl rfl ?_
      show Steps p.tables e below (s₁.setTop (mkF m 1 #[.val (.ref A0)] [(.ref A0)])) _
      refine XS.iconst X0.here hx rfl (hb hby d5_1) ?_
      show Steps p.tables e below (s₁.setTop (mkF m 2 #[.val (.ref A0)] [(.int (0 : Int32)), (.ref A0)])) _
      refine st101 _ ?_
      exact kt)
  have c104 : Exa Z h101 A0 "com/example/brigid/brigid/core/RetrySchedule" := (pm5.wr W101)
  have c105 : Fld Z h101 A0 "com/example/brigid/brigid/core/RetrySchedule" "firstDelayNanos" "J" (.long W0) := (pm0.other W101 (Or.inr (slot_ne (Or.inr (hw _ (List.mem_of_getElem? (i := 12) rfl))) (Or.inl (hw _ (List.mem_of_getElem? (i := 21) rfl))) (by decide) (t := .long) (t' := .int) (by decide) (by decide))))
  have c106 : Fld Z h101 A0 "com/example/brigid/brigid/core/RetrySchedule" "maxDelayNanos" "J" (.long W1) := (pm1.other W101 (Or.inr (slot_ne (Or.inr (hw _ (List.mem_of_getElem? (i := 14) rfl))) (Or.inl (hw _ (List.mem_of_getElem? (i := 21) rfl))) (by decide) (t := .long) (t' := .int) (by decide) (by decide))))
  have c107 : Fld Z h101 A0 "com/example/brigid/brigid/core/RetrySchedule" "lastFailureAt" "J" (.long W3) := (pm3.other W101 (Or.inr (slot_ne (Or.inl (hw _ (List.mem_of_getElem? (i := 23) rfl))) (Or.inl (hw _ (List.mem_of_getElem? (i := 21) rfl))) (by decide) (t := .long) (t' := .int) (by decide) (by decide))))
  have c108 : Fld Z h101 A0 "com/example/brigid/brigid/core/RetrySchedule" "nextAttemptAt" "J" (.long W4) := (pm4.other W101 (Or.inr (slot_ne (Or.inl (hw _ (List.mem_of_getElem? (i := 29) rfl))) (Or.inl (hw _ (List.mem_of_getElem? (i := 21) rfl))) (by decide) (t := .long) (t' := .int) (by decide) (by decide))))
  obtain ⟨fs, hr, hrun, hended, hW, hsame⟩ := X101.leave (v := none) (fun _ => rfl)
  refine ⟨_, _, pre103 _ ?_, hrun, hended, _, _, rfl, ?_, ⟨_, rfl⟩, hW, hsame.mono (by decide) (by decide)⟩
  · show Steps p.tables e below (T101.setTop (mkF m 5 #[.val (.ref A0)] [])) _
    exact X101.returnOut hx Bd.returns (hb hby d5_5) hr
  · show Q5 Z A0 W0 W1 W2 W3 W4 h0 n0 _ T101.heap _
    rw [e101]
    exact ⟨rfl, N101, K_102, c104, c105, c106, Fw101, c107, c108⟩
theorem own_off (t f o : Int64) : ((t + f) + o) - (t + f) = o := by
  rw [Int64.add_comm (t + f) o, Int64.add_sub_cancel]
theorem own_d1 (f m : Int64) : own_delay f m ((0 : Int32) + (1 : Int32)) = f := by
  unfold own_delay; rw [if_neg (by decide)]
theorem own_now (t f m o : Int64) : ((t + f) + o) - (t + own_delay f m ((0 : Int32) + (1 : Int32))) = o := by rw [own_d1]; exact own_off t f o
theorem own_yes (t f m o : Int64) (h : ¬ (o < (0 : Int64))) : own_al ((0 : Int32) + (1 : Int32)) (t + own_delay f m ((0 : Int32) + (1 : Int32))) ((t + f) + o) = (1 : Int32) := by
  unfold own_al; rw [if_neg (by decide), own_now, if_neg h]
theorem own_no (t f m o : Int64) (h : o < (0 : Int64)) : own_al ((0 : Int32) + (1 : Int32)) (t + own_delay f m ((0 : Int32) + (1 : Int32))) ((t + f) + o) = (0 : Int32) := by
  unfold own_al; rw [if_neg (by decide), own_now, if_pos h]
theorem own_al0 (n t : Int64) : own_al (0 : Int32) n t = (1 : Int32) := if_pos rfl
theorem pn_0 : plainName "com/example/brigid/brigid/core/RetrySchedulePinLaw" = true := by first | (simp [plainName, overriddenIn]; done) | decide +kernel
theorem pd_0_0 : parseMethodDescriptor "(JJ)V" = some ⟨[.long, .long], none⟩ := by decide +kernel
theorem pd_0_1 : parseMethodDescriptor "(J)Z" = some ⟨[.long], some .boolean⟩ := by decide +kernel
theorem pd_0_2 : parseMethodDescriptor "()V" = some ⟨[], none⟩ := by decide +kernel
theorem ef_0 (m : MethodId) (P0 : Int64) (P1 : Int64) (P2 : Int64) (P3 : Int64) (P4 : Int64) (P5 : Int32) : entryFrame m #[(.long P0), (.long P1), (.long P2), (.long P3), (.long P4), (.int P5)] maxLocals = mkF m 0 #[.val (.long P0), .second, .val (.long P1), .second, .val (.long P2), .second, .val (.long P3), .second, .val (.long P4), .second, .val (.int P5), .unset, .unset, .unset, .unset, .unset, .unset, .unset, .unset] [] := by first | (simp [entryFrame, mkF, argsToLocals, Value.category, maxLocals]; done) | rfl
def Q0 (Z : State) (P0 : Int64) (P1 : Int64) (P2 : Int64) (P3 : Int64) (P4 : Int64) (P5 : Int32) (h0 : Heap) (n0 : Nat) (v : Option Value) (h : Heap) (L : List Loc) : Prop := v = some (.int (1 : Int32)) ∧ Fr n0 L
set_option maxRecDepth 65536 in
set_option maxHeartbeats 40000000 in
theorem rm0 (l : Launch) (Z : State) (a0 : Array Value) (hw : ∀ d ∈ tables_1, d.before a0 Z = true) (ws : List Jvm.Cond) (P0 : Int64) (P1 : Int64) (P2 : Int64) (P3 : Int64) (P4 : Int64) (P5 : Int32) (h0 : Heap) (n0 : Nat) (Z0 : n0 ≤ h0.size) :
    MetFree l x (head1 (Jvm.Cond.code x code maxLocals ret :: ws) room_1) (fun a U => a = #[(.long P0), (.long P1), (.long P2), (.long P3), (.long P4), (.int P5)] ∧ Z.Warmed39 U.vm ∧ U.heap = h0) (fun _ _ _ _ _ => True) (fun _ U o U' => ∃ v L, o = .returned v ∧ Q0 Z P0 P1 P2 P3 P4 P5 h0 n0 v U'.heap L ∧ FrameEnd U o U' L 16 128) := by
  refine MetFree.of_bodySF (plainFor_of_name pn_0) hisR ?_
  intro p e s m args below meth c s₁ Bd hml0 hP hK
  obtain ⟨rfl, hZ, hh⟩ := hP
  have hx := Bd.exec
  have hby := Bd.bytes
  have hml : c.maxLocals = 19 := hml0
  have hown : s.vm.findClass "com/example/brigid/brigid/core/RetrySchedulePinLaw" = some m.cls := findClass_of_methodNamed Bd.named
  have hnm := (name_of_methodNamed Bd.named Bd.method).1
  have X0 : Stand p l e room_1 s m #[(.long P0), (.long P1), (.long P2), (.long P3), (.long P4), (.int P5)] below meth c s₁ [] 0 0 := Stand.of_body Bd
  have e0 : s₁.heap = h0 := by rw [← hh, Bd.state]; rfl
  have N0 := Fr.nil n0
  have pre0 : ∀ t, Steps p.tables e below (s₁.setTop (mkF m 0 #[.val (.long P0), .second, .val (.long P1), .second, .val (.long P2), .second, .val (.long P3), .second, .val (.long P4), .second, .val (.int P5), .unset, .unset, .unset, .unset, .unset, .unset, .unset, .unset] [])) t → Steps p.tables e below (s₁.setTop (entryFrame m #[(.long P0), (.long P1), (.long P2), (.long P3), (.long P4), (.int P5)] maxLocals)) t := fun t k => castTop (ef_0 m P0 P1 P2 P3 P4 P5) k
  obtain ⟨T101, h101, X101, e101, E101, A101, D101, -, st101⟩ := newO X0 hx hZ hown (hw _ (List.mem_of_getElem? (i := 2) rfl)) (hw _ (List.mem_of_getElem? (i := 3) rfl)) (hw _ (List.mem_of_getElem? (i := 4) rfl)) e0 (g := (mkF m 26 #[.val (.long P0), .second, .val (.long P1), .second, .val (.long P2), .second, .val (.long P3), .second, .val (.long P4), .second, .val (.int P5), .val (.long (P0 &&& (4611686018427387903 : Int64))), .second, .val (.long ((P0 &&& (4611686018427387903 : Int64)) + (P1 &&& (4611686018427387903 : Int64)))), .second, .val (.int ((P5 &&& (2147483647 : Int32)) % (3 : Int32))), .unset, .unset, .unset] [])) rfl (hb hby at_26) (by decide) (by decide)
  obtain ⟨b101, q101⟩ : ∃ z, z = h0.size := ⟨_, rfl⟩
  rw [← q101] at A101 D101 st101
  have g_b101 : n0 ≤ b101 := Nat.le_trans Z0 (Nat.le_of_eq q101.symm)
  have Z102 : n0 ≤ h101.size := Nat.le_trans Z0 E101.1
  have F101_12 : Fld Z h101 b101 "com/example/brigid/brigid/core/RetrySchedule" "firstDelayNanos" "J" (.long (0 : Int64)) := D101 (Or.inr (hw _ (List.mem_of_getElem? (i := 12) rfl))) (ty := .long) (by decide)
  have F101_14 : Fld Z h101 b101 "com/example/brigid/brigid/core/RetrySchedule" "maxDelayNanos" "J" (.long (0 : Int64)) := D101 (Or.inr (hw _ (List.mem_of_getElem? (i := 14) rfl))) (ty := .long) (by decide)
  have F101_21 : Fld Z h101 b101 "com/example/brigid/brigid/core/RetrySchedule" "failures" "I" (.int (0 : Int32)) := D101 (Or.inl (hw _ (List.mem_of_getElem? (i := 21) rfl))) (ty := .int) (by decide)
  have F101_23 : Fld Z h101 b101 "com/example/brigid/brigid/core/RetrySchedule" "lastFailureAt" "J" (.long (0 : Int64)) := D101 (Or.inl (hw _ (List.mem_of_getElem? (i := 23) rfl))) (ty := .long) (by decide)
  have F101_29 : Fld Z h101 b101 "com/example/brigid/brigid/core/RetrySchedule" "nextAttemptAt" "J" (.long (0 : Int64)) := D101 (Or.inl (hw _ (List.mem_of_getElem? (i := 29) rfl))) (ty := .long) (by decide)
  obtain ⟨_, _, ⟨T103, L103, k103, n103⟩, -, X103, ⟨Lc103, hQ103, l103, y103, z103⟩, st103⟩ := X101.specialBack hx (y := (⟨"com/example/brigid/brigid/core/RetrySchedule", "<init>", "(JJ)V"⟩ : MethodName)) rfl hown (mvT hZ (hw _ (List.mem_of_getElem? (i := 5) rfl))) (mvT hZ (hw _ (List.mem_of_getElem? (i := 6) rfl))) (mvT hZ (hw _ (List.mem_of_getElem? (i := 7) rfl))) (by decide) (backOf (W := 1) (rm1 l Z a0 hw [] b101 (P0 &&& (4611686018427387903 : Int64)) ((P0 &&& (4611686018427387903 : Int64)) + (P1 &&& (4611686018427387903 : Int64))) (0 : Int64) (0 : Int64) (0 : Int32) (0 : Int64) (0 : Int64) h101 n0 Z102 F101_12 F101_14 F101_21 F101_23 F101_29 A101 g_b101) hZ (hw _ (List.mem_of_getElem? (i := 7) rfl)) (hw _ (List.mem_of_getElem? (i := 4) rfl)) (by decide) (by decide)) (g := (mkF m 34 #[.val (.long P0), .second, .val (.long P1), .second, .val (.long P2), .second, .val (.long P3), .second, .val (.long P4), .second, .val (.int P5), .val (.long (P0 &&& (4611686018427387903 : Int64))), .second, .val (.long ((P0 &&& (4611686018427387903 : Int64)) + (P1 &&& (4611686018427387903 : Int64)))), .second, .val (.int ((P5 &&& (2147483647 : Int32)) % (3 : Int32))), .unset, .unset, .unset] [(.long ((P0 &&& (4611686018427387903 : Int64)) + (P1 &&& (4611686018427387903 : Int64)))), (.long (P0 &&& (4611686018427387903 : Int64))), (.ref b101), (.ref b101)])) rfl (by rw [hml]; rfl) (Steps.refl _) (a := b101) (argsL := [(.long (P0 &&& (4611686018427387903 : Int64))), (.long ((P0 &&& (4611686018427387903 : Int64)) + (P1 &&& (4611686018427387903 : Int64))))]) (rest := [(.ref b101)]) (lenOf pd_0_0 rfl) rfl (by show 2 * 0 + _ ≤ _; exact Nat.le_of_eq rfl) (hb hby at_34) (fun _ _ => ⟨rfl, e101, (by decide : 1 + 0 ≤ _), (by decide : 5 + 0 ≤ _)⟩)
  dsimp only [Pt.U, Pt.locs, Pt.cells, Pt.slots] at X103 l103 y103 z103 st103 hQ103
  subst l103 y103 z103
  obtain ⟨rfl, N103q, K103, p103_0, p103_1, p103_2, p103_3, p103_4, p103_5⟩ := hQ103
  have N103 := Fr.app N0 N103q
  have Z104 : n0 ≤ T103.heap.size := Nat.le_trans Z102 K103.1
  have pre105 : ∀ t, Steps p.tables e below (T103.setTop (mkF m 51 #[.val (.long P0), .second, .val (.long P1), .second, .val (.long P2), .second, .val (.long P3), .second, .val (.long P4), .second, .val (.int P5), .val (.long (P0 &&& (4611686018427387903 : Int64))), .second, .val (.long ((P0 &&& (4611686018427387903 : Int64)) + (P1 &&& (4611686018427387903 : Int64)))), .second, .val (.int ((P5 &&& (2147483647 : Int32)) % (3 : Int32))), .val (.ref b101), .val (.long ((P2 + (P0 &&& (4611686018427387903 : Int64))) + P3)), .second] [(.int ((P5 &&& (2147483647 : Int32)) % (3 : Int32)))])) t → Steps p.tables e below (s₁.setTop (entryFrame m #[(.long P0), (.long P1), (.long P2), (.long P3), (.long P4), (.int P5)] maxLocals)) t := fun t kt => pre0 t (by
      show Steps p.tables e below (s₁.setTop (mkF m 0 #[.val (.long P0), .second, .val (.long P1), .second, .val (.long P2), .second, .val (.long P3), .second, .val (.long P4), .second, .val (.int P5), .unset, .unset, .unset, .unset, .unset, .unset, .unset, .unset] [])) _
      refine XS.lloadN X0.here hx rfl (hb hby at_0) rfl ?_
      show Steps p.tables e below (s₁.setTop (mkF m 1 #[.val (.long P0), .second, .val (.long P1), .second, .val (.long P2), .second, .val (.long P3), .second, .val (.long P4), .second, .val (.int P5), .unset, .unset, .unset, .unset, .unset, .unset, .unset, .unset] [(.long P0)])) _
      refine X0.ldc2Long hx hown (mvT hZ (hw _ (List.mem_of_getElem? (i := 0) rfl))) (g := (mkF m 1 #[.val (.long P0), .second, .val (.long P1), .second, .val (.long P2), .second, .val (.long P3), .second, .val (.long P4), .second, .val (.int P5), .unset, .unset, .unset, .unset, .unset, .unset, .unset, .unset] [(.long P0)])) rfl (hb hby at_1) _ ?_
      show Steps p.tables e below (s₁.setTop (mkF m 4 #[.val (.long P0), .second, .val (.long P1), .second, .val (.long P2), .second, .val (.long P3), .second, .val (.long P4), .second, .val (.int P5), .unset, .unset, .unset, .unset, .unset, .unset, .unset, .unset] [(.long (4611686018427387903 : Int64)), (.long P0)])) _
      refine XS.land X0.here hx rfl (hb hby at_4) rfl ?_
      show Steps p.tables e below (s₁.setTop (mkF m 5 #[.val (.long P0), .second, .val (.long P1), .second, .val (.long P2), .second, .val (.long P3), .second, .val (.long P4), .second, .val (.int P5), .unset, .unset, .unset, .unset, .unset, .unset, .unset, .unset] [(.long (P0 &&& (4611686018427387903 : Int64)))])) _
      refine XS.lstore X0.here hx rfl (hb hby at_5) rfl (l' := #[.val (.long P0), .second, .val (.long P1), .second, .val (.long P2), .second, .val (.long P3), .second, .val (.long P4), .second, .val (.int P5), .val (.long (P0 &&& (4611686018427387903 : Int64))), .second, .unset, .unset, .unset, .unset, .unset, .unset]) rfl ?_
      show Steps p.tables e below (s₁.setTop (mkF m 7 #[.val (.long P0), .second, .val (.long P1), .second, .val (.long P2), .second, .val (.long P3), .second, .val (.long P4), .second, .val (.int P5), .val (.long (P0 &&& (4611686018427387903 : Int64))), .second, .unset, .unset, .unset, .unset, .unset, .unset] [])) _
      refine XS.lload X0.here hx rfl (hb hby at_7) rfl ?_
      show Steps p.tables e below (s₁.setTop (mkF m 9 #[.val (.long P0), .second, .val (.long P1), .second, .val (.long P2), .second, .val (.long P3), .second, .val (.long P4), .second, .val (.int P5), .val (.long (P0 &&& (4611686018427387903 : Int64))), .second, .unset, .unset, .unset, .unset, .unset, .unset] [(.long (P0 &&& (4611686018427387903 : Int64)))])) _
      refine XS.lloadN X0.here hx rfl (hb hby at_9) rfl ?_
      show Steps p.tables e below (s₁.setTop (mkF m 10 #[.val (.long P0), .second, .val (.long P1), .second, .val (.long P2), .second, .val (.long P3), .second, .val (.long P4), .second, .val (.int P5), .val (.long (P0 &&& (4611686018427387903 : Int64))), .second, .unset, .unset, .unset, .unset, .unset, .unset] [(.long P1), (.long (P0 &&& (4611686018427387903 : Int64)))])) _
      refine X0.ldc2Long hx hown (mvT hZ (hw _ (List.mem_of_getElem? (i := 0) rfl))) (g := (mkF m 10 #[.val (.long P0), .second, .val (.long P1), .second, .val (.long P2), .second, .val (.long P3), .second, .val (.long P4), .second, .val (.int P5), .val (.long (P0 &&& (4611686018427387903 : Int64))), .second, .unset, .unset, .unset, .unset, .unset, .unset] [(.long P1), (.long (P0 &&& (4611686018427387903 : Int64)))])) rfl (hb hby at_10) _ ?_
      show Steps p.tables e below (s₁.setTop (mkF m 13 #[.val (.long P0), .second, .val (.long P1), .second, .val (.long P2), .second, .val (.long P3), .second, .val (.long P4), .second, .val (.int P5), .val (.long (P0 &&& (4611686018427387903 : Int64))), .second, .unset, .unset, .unset, .unset, .unset, .unset] [(.long (4611686018427387903 : Int64)), (.long P1), (.long (P0 &&& (4611686018427387903 : Int64)))])) _
      refine XS.land X0.here hx rfl (hb hby at_13) rfl ?_
      show Steps p.tables e below (s₁.setTop (mkF m 14 #[.val (.long P0), .second, .val (.long P1), .second, .val (.long P2), .second, .val (.long P3), .second, .val (.long P4), .second, .val (.int P5), .val (.long (P0 &&& (4611686018427387903 : Int64))), .second, .unset, .unset, .unset, .unset, .unset, .unset] [(.long (P1 &&& (4611686018427387903 : Int64))), (.long (P0 &&& (4611686018427387903 : Int64)))])) _
      refine XS.ladd X0.here hx rfl (hb hby at_14) rfl ?_
      show Steps p.tables e below (s₁.setTop (mkF m 15 #[.val (.long P0), .second, .val (.long P1), .second, .val (.long P2), .second, .val (.long P3), .second, .val (.long P4), .second, .val (.int P5), .val (.long (P0 &&& (4611686018427387903 : Int64))), .second, .unset, .unset, .unset, .unset, .unset, .unset] [(.long ((P0 &&& (4611686018427387903 : Int64)) + (P1 &&& (4611686018427387903 : Int64))))])) _
      refine XS.lstore X0.here hx rfl (hb hby at_15) rfl (l' := #[.val (.long P0), .second, .val (.long P1), .second, .val (.long P2), .second, .val (.long P3), .second, .val (.long P4), .second, .val (.int P5), .val (.long (P0 &&& (4611686018427387903 : Int64))), .second, .val (.long ((P0 &&& (4611686018427387903 : Int64)) + (P1 &&& (4611686018427387903 : Int64)))), .second, .unset, .unset, .unset, .unset]) rfl ?_
      show Steps p.tables e below (s₁.setTop (mkF m 17 #[.val (.long P0), .second, .val (.long P1), .second, .val (.long P2), .second, .val (.long P3), .second, .val (.long P4), .second, .val (.int P5), .val (.long (P0 &&& (4611686018427387903 : Int64))), .second, .val (.long ((P0 &&& (4611686018427387903 : Int64)) + (P1 &&& (4611686018427387903 : Int64)))), .second, .unset, .unset, .unset, .unset] [])) _
      refine XS.iload X0.here hx rfl (hb hby at_17) rfl ?_
      show Steps p.tables e below (s₁.setTop (mkF m 19 #[.val (.long P0), .second, .val (.long P1), .second, .val (.long P2), .second, .val (.long P3), .second, .val (.long P4), .second, .val (.int P5), .val (.long (P0 &&& (4611686018427387903 : Int64))), .second, .val (.long ((P0 &&& (4611686018427387903 : Int64)) + (P1 &&& (4611686018427387903 : Int64)))), .second, .unset, .unset, .unset, .unset] [(.int P5)])) _
      refine X0.ldcInt hx hown (mvT hZ (hw _ (List.mem_of_getElem? (i := 1) rfl))) (g := (mkF m 19 #[.val (.long P0), .second, .val (.long P1), .second, .val (.long P2), .second, .val (.long P3), .second, .val (.long P4), .second, .val (.int P5), .val (.long (P0 &&& (4611686018427387903 : Int64))), .second, .val (.long ((P0 &&& (4611686018427387903 : Int64)) + (P1 &&& (4611686018427387903 : Int64)))), .second, .unset, .unset, .unset, .unset] [(.int P5)])) rfl (hb hby at_19) _ ?_
      show Steps p.tables e below (s₁.setTop (mkF m 21 #[.val (.long P0), .second, .val (.long P1), .second, .val (.long P2), .second, .val (.long P3), .second, .val (.long P4), .second, .val (.int P5), .val (.long (P0 &&& (4611686018427387903 : Int64))), .second, .val (.long ((P0 &&& (4611686018427387903 : Int64)) + (P1 &&& (4611686018427387903 : Int64)))), .second, .unset, .unset, .unset, .unset] [(.int (2147483647 : Int32)), (.int P5)])) _
      refine XS.iand X0.here hx rfl (hb hby at_21) rfl ?_
      show Steps p.tables e below (s₁.setTop (mkF m 22 #[.val (.long P0), .second, .val (.long P1), .second, .val (.long P2), .second, .val (.long P3), .second, .val (.long P4), .second, .val (.int P5), .val (.long (P0 &&& (4611686018427387903 : Int64))), .second, .val (.long ((P0 &&& (4611686018427387903 : Int64)) + (P1 &&& (4611686018427387903 : Int64)))), .second, .unset, .unset, .unset, .unset] [(.int (P5 &&& (2147483647 : Int32)))])) _
      refine XS.iconst X0.here hx rfl (hb hby at_22) ?_
      show Steps p.tables e below (s₁.setTop (mkF m 23 #[.val (.long P0), .second, .val (.long P1), .second, .val (.long P2), .second, .val (.long P3), .second, .val (.long P4), .second, .val (.int P5), .val (.long (P0 &&& (4611686018427387903 : Int64))), .second, .val (.long ((P0 &&& (4611686018427387903 : Int64)) + (P1 &&& (4611686018427387903 : Int64)))), .second, .unset, .unset, .unset, .unset] [(.int (3 : Int32)), (.int (P5 &&& (2147483647 : Int32)))])) _
      refine iremM (g := (mkF m 23 #[.val (.long P0), .second, .val (.long P1), .second, .val (.long P2), .second, .val (.long P3), .second, .val (.long P4), .second, .val (.int P5), .val (.long (P0 &&& (4611686018427387903 : Int64))), .second, .val (.long ((P0 &&& (4611686018427387903 : Int64)) + (P1 &&& (4611686018427387903 : Int64)))), .second, .unset, .unset, .unset, .unset] [(.int (3 : Int32)), (.int (P5 &&& (2147483647 : Int32)))])) X0 hx rfl (hb hby at_23) rfl (by decide) ?_
      show Steps p.tables e below (s₁.setTop (mkF m 24 #[.val (.long P0), .second, .val (.long P1), .second, .val (.long P2), .second, .val (.long P3), .second, .val (.long P4), .second, .val (.int P5), .val (.long (P0 &&& (4611686018427387903 : Int64))), .second, .val (.long ((P0 &&& (4611686018427387903 : Int64)) + (P1 &&& (4611686018427387903 : Int64)))), .second, .unset, .unset, .unset, .unset] [(.int ((P5 &&& (2147483647 : Int32)) % (3 : Int32)))])) _
      refine XS.istore X0.here hx rfl (hb hby at_24) rfl (l' := #[.val (.long P0), .second, .val (.long P1), .second, .val (.long P2), .second, .val (.long P3), .second, .val (.long P4), .second, .val (.int P5), .val (.long (P0 &&& (4611686018427387903 : Int64))), .second, .val (.long ((P0 &&& (4611686018427387903 : Int64)) + (P1 &&& (4611686018427387903 : Int64)))), .second, .val (.int ((P5 &&& (2147483647 : Int32)) % (3 : Int32))), .unset, .unset, .unset]) rfl ?_
      show Steps p.tables e below (s₁.setTop (mkF m 26 #[.val (.long P0), .second, .val (.long P1), .second, .val (.long P2), .second, .val (.long P3), .second, .val (.long P4), .second, .val (.int P5), .val (.long (P0 &&& (4611686018427387903 : Int64))), .second, .val (.long ((P0 &&& (4611686018427387903 : Int64)) + (P1 &&& (4611686018427387903 : Int64)))), .second, .val (.int ((P5 &&& (2147483647 : Int32)) % (3 : Int32))), .unset, .unset, .unset] [])) _
      refine st101 _ ?_
      show Steps p.tables e below (T101.setTop (mkF m 29 #[.val (.long P0), .second, .val (.long P1), .second, .val (.long P2), .second, .val (.long P3), .second, .val (.long P4), .second, .val (.int P5), .val (.long (P0 &&& (4611686018427387903 : Int64))), .second, .val (.long ((P0 &&& (4611686018427387903 : Int64)) + (P1 &&& (4611686018427387903 : Int64)))), .second, .val (.int ((P5 &&& (2147483647 : Int32)) % (3 : Int32))), .unset, .unset, .unset] [(.ref b101)])) _
      refine XS.dup X101.here hx rfl (hb hby at_29) rfl rfl ?_
      show Steps p.tables e below (T101.setTop (mkF m 30 #[.val (.long P0), .second, .val (.long P1), .second, .val (.long P2), .second, .val (.long P3), .second, .val (.long P4), .second, .val (.int P5), .val (.long (P0 &&& (4611686018427387903 : Int64))), .second, .val (.long ((P0 &&& (4611686018427387903 : Int64)) + (P1 &&& (4611686018427387903 : Int64)))), .second, .val (.int ((P5 &&& (2147483647 : Int32)) % (3 : Int32))), .unset, .unset, .unset] [(.ref b101), (.ref b101)])) _
      refine XS.lload X101.here hx rfl (hb hby at_30) rfl ?_
      show Steps p.tables e below (T101.setTop (mkF m 32 #[.val (.long P0), .second, .val (.long P1), .second, .val (.long P2), .second, .val (.long P3), .second, .val (.long P4), .second, .val (.int P5), .val (.long (P0 &&& (4611686018427387903 : Int64))), .second, .val (.long ((P0 &&& (4611686018427387903 : Int64)) + (P1 &&& (4611686018427387903 : Int64)))), .second, .val (.int ((P5 &&& (2147483647 : Int32)) % (3 : Int32))), .unset, .unset, .unset] [(.long (P0 &&& (4611686018427387903 : Int64))), (.ref b101), (.ref b101)])) _
      refine XS.lload X101.here hx rfl (hb hby at_32) rfl ?_
      show Steps p.tables e below (T101.setTop (mkF m 34 #[.val (.long P0), .second, .val (.long P1), .second, .val (.long P2), .second, .val (.long P3), .second, .val (.long P4), .second, .val (.int P5), .val (.long (P0 &&& (4611686018427387903 : Int64))), .second, .val (.long ((P0 &&& (4611686018427387903 : Int64)) + (P1 &&& (4611686018427387903 : Int64)))), .second, .val (.int ((P5 &&& (2147483647 : Int32)) % (3 : Int32))), .unset, .unset, .unset] [(.long ((P0 &&& (4611686018427387903 : Int64)) + (P1 &&& (4611686018427387903 : Int64)))), (.long (P0 &&& (4611686018427387903 : Int64))), (.ref b101), (.ref b101)])) _
      refine st103.trans ?_
      show Steps p.tables e below (T103.setTop (mkF m 37 #[.val (.long P0), .second, .val (.long P1), .second, .val (.long P2), .second, .val (.long P3), .second, .val (.long P4), .second, .val (.int P5), .val (.long (P0 &&& (4611686018427387903 : Int64))), .second, .val (.long ((P0 &&& (4611686018427387903 : Int64)) + (P1 &&& (4611686018427387903 : Int64)))), .second, .val (.int ((P5 &&& (2147483647 : Int32)) % (3 : Int32))), .unset, .unset, .unset] [(.ref b101)])) _
      refine XS.astore X103.here hx rfl (hb hby at_37) rfl rfl (l' := #[.val (.long P0), .second, .val (.long P1), .second, .val (.long P2), .second, .val (.long P3), .second, .val (.long P4), .second, .val (.int P5), .val (.long (P0 &&& (4611686018427387903 : Int64))), .second, .val (.long ((P0 &&& (4611686018427387903 : Int64)) + (P1 &&& (4611686018427387903 : Int64)))), .second, .val (.int ((P5 &&& (2147483647 : Int32)) % (3 : Int32))), .val (.ref b101), .unset, .unset]) rfl ?_
      show Steps p.tables e below (T103.setTop (mkF m 39 #[.val (.long P0), .second, .val (.long P1), .second, .val (.long P2), .second, .val (.long P3), .second, .val (.long P4), .second, .val (.int P5), .val (.long (P0 &&& (4611686018427387903 : Int64))), .second, .val (.long ((P0 &&& (4611686018427387903 : Int64)) + (P1 &&& (4611686018427387903 : Int64)))), .second, .val (.int ((P5 &&& (2147483647 : Int32)) % (3 : Int32))), .val (.ref b101), .unset, .unset] [])) _
      refine XS.lload X103.here hx rfl (hb hby at_39) rfl ?_
      show Steps p.tables e below (T103.setTop (mkF m 41 #[.val (.long P0), .second, .val (.long P1), .second, .val (.long P2), .second, .val (.long P3), .second, .val (.long P4), .second, .val (.int P5), .val (.long (P0 &&& (4611686018427387903 : Int64))), .second, .val (.long ((P0 &&& (4611686018427387903 : Int64)) + (P1 &&& (4611686018427387903 : Int64)))), .second, .val (.int ((P5 &&& (2147483647 : Int32)) % (3 : Int32))), .val (.ref b101), .unset, .unset] [(.long P2)])) _
      refine XS.lload X103.here hx rfl (hb hby at_41) rfl ?_
      show Steps p.tables e below (T103.setTop (mkF m 43 #[.val (.long P0), .second, .val (.long P1), .second, .val (.long P2), .second, .val (.long P3), .second, .val (.long P4), .second, .val (.int P5), .val (.long (P0 &&& (4611686018427387903 : Int64))), .second, .val (.long ((P0 &&& (4611686018427387903 : Int64)) + (P1 &&& (4611686018427387903 : Int64)))), .second, .val (.int ((P5 &&& (2147483647 : Int32)) % (3 : Int32))), .val (.ref b101), .unset, .unset] [(.long (P0 &&& (4611686018427387903 : Int64))), (.long P2)])) _
      refine XS.ladd X103.here hx rfl (hb hby at_43) rfl ?_
      show Steps p.tables e below (T103.setTop (mkF m 44 #[.val (.long P0), .second, .val (.long P1), .second, .val (.long P2), .second, .val (.long P3), .second, .val (.long P4), .second, .val (.int P5), .val (.long (P0 &&& (4611686018427387903 : Int64))), .second, .val (.long ((P0 &&& (4611686018427387903 : Int64)) + (P1 &&& (4611686018427387903 : Int64)))), .second, .val (.int ((P5 &&& (2147483647 : Int32)) % (3 : Int32))), .val (.ref b101), .unset, .unset] [(.long (P2 + (P0 &&& (4611686018427387903 : Int64))))])) _
      refine XS.lload X103.here hx rfl (hb hby at_44) rfl ?_
      show Steps p.tables e below (T103.setTop (mkF m 46 #[.val (.long P0), .second, .val (.long P1), .second, .val (.long P2), .second, .val (.long P3), .second, .val (.long P4), .second, .val (.int P5), .val (.long (P0 &&& (4611686018427387903 : Int64))), .second, .val (.long ((P0 &&& (4611686018427387903 : Int64)) + (P1 &&& (4611686018427387903 : Int64)))), .second, .val (.int ((P5 &&& (2147483647 : Int32)) % (3 : Int32))), .val (.ref b101), .unset, .unset] [(.long P3), (.long (P2 + (P0 &&& (4611686018427387903 : Int64))))])) _
      refine XS.ladd X103.here hx rfl (hb hby at_46) rfl ?_
      show Steps p.tables e below (T103.setTop (mkF m 47 #[.val (.long P0), .second, .val (.long P1), .second, .val (.long P2), .second, .val (.long P3), .second, .val (.long P4), .second, .val (.int P5), .val (.long (P0 &&& (4611686018427387903 : Int64))), .second, .val (.long ((P0 &&& (4611686018427387903 : Int64)) + (P1 &&& (4611686018427387903 : Int64)))), .second, .val (.int ((P5 &&& (2147483647 : Int32)) % (3 : Int32))), .val (.ref b101), .unset, .unset] [(.long ((P2 + (P0 &&& (4611686018427387903 : Int64))) + P3))])) _
      refine XS.lstore X103.here hx rfl (hb hby at_47) rfl (l' := #[.val (.long P0), .second, .val (.long P1), .second, .val (.long P2), .second, .val (.long P3), .second, .val (.long P4), .second, .val (.int P5), .val (.long (P0 &&& (4611686018427387903 : Int64))), .second, .val (.long ((P0 &&& (4611686018427387903 : Int64)) + (P1 &&& (4611686018427387903 : Int64)))), .second, .val (.int ((P5 &&& (2147483647 : Int32)) % (3 : Int32))), .val (.ref b101), .val (.long ((P2 + (P0 &&& (4611686018427387903 : Int64))) + P3)), .second]) rfl ?_
      show Steps p.tables e below (T103.setTop (mkF m 49 #[.val (.long P0), .second, .val (.long P1), .second, .val (.long P2), .second, .val (.long P3), .second, .val (.long P4), .second, .val (.int P5), .val (.long (P0 &&& (4611686018427387903 : Int64))), .second, .val (.long ((P0 &&& (4611686018427387903 : Int64)) + (P1 &&& (4611686018427387903 : Int64)))), .second, .val (.int ((P5 &&& (2147483647 : Int32)) % (3 : Int32))), .val (.ref b101), .val (.long ((P2 + (P0 &&& (4611686018427387903 : Int64))) + P3)), .second] [])) _
      refine XS.iload X103.here hx rfl (hb hby at_49) rfl ?_
      exact kt)
  by_cases hc51 : ((P5 &&& (2147483647 : Int32)) % (3 : Int32)) = (0 : Int32)
  · obtain ⟨cq106, kq106, q106a, q106b, q106c⟩ := isOf hZ rfl p103_0
    obtain ⟨_, _, ⟨T106, L106, k106, n106⟩, -, X106, ⟨Lc106, hQ106, l106, y106, z106⟩, st106⟩ := X103.virtualBack hx (y := (⟨"com/example/brigid/brigid/core/RetrySchedule", "allows", "(J)Z"⟩ : MethodName)) (z := (⟨"com/example/brigid/brigid/core/RetrySchedule", "allows", "(J)Z"⟩ : MethodName)) hown (mvT hZ (hw _ (List.mem_of_getElem? (i := 35) rfl))) (mvT hZ (hw _ (List.mem_of_getElem? (i := 36) rfl))) (notFace_of_selects (args := #[]) (mvT hZ (hw _ (List.mem_of_getElem? (i := 38) rfl)))) (mvT hZ (hw _ (List.mem_of_getElem? (i := 38) rfl))) (mvT hZ (hw _ (List.mem_of_getElem? (i := 37) rfl))) (by decide) (backOf (W := 0) (rm6 l Z a0 hw [] b101 ((P2 + (P0 &&& (4611686018427387903 : Int64))) + P3) (0 : Int32) (0 : Int64) T103.heap n0 Z104 p103_3 p103_5) hZ (hw _ (List.mem_of_getElem? (i := 39) rfl)) (hw _ (List.mem_of_getElem? (i := 4) rfl)) (by decide) (by decide)) q106a q106c (g := (mkF m 58 #[.val (.long P0), .second, .val (.long P1), .second, .val (.long P2), .second, .val (.long P3), .second, .val (.long P4), .second, .val (.int P5), .val (.long (P0 &&& (4611686018427387903 : Int64))), .second, .val (.long ((P0 &&& (4611686018427387903 : Int64)) + (P1 &&& (4611686018427387903 : Int64)))), .second, .val (.int ((P5 &&& (2147483647 : Int32)) % (3 : Int32))), .val (.ref b101), .val (.long ((P2 + (P0 &&& (4611686018427387903 : Int64))) + P3)), .second] [(.long ((P2 + (P0 &&& (4611686018427387903 : Int64))) + P3)), (.ref b101)])) rfl (by rw [hml]; rfl) (Steps.refl _) (argsL := [(.long ((P2 + (P0 &&& (4611686018427387903 : Int64))) + P3))]) (rest := []) (lenOf pd_0_1 rfl) rfl (by show 2 * 0 + _ ≤ _; exact Nat.le_of_eq rfl) (hb hby at_58) (fun _ _ => ⟨rfl, rfl, (by decide : 1 + 0 ≤ _), (by decide : 5 + 0 ≤ _)⟩)
    dsimp only [Pt.U, Pt.locs, Pt.cells, Pt.slots] at X106 l106 y106 z106 st106 hQ106
    subst l106 y106 z106
    obtain ⟨rfl, N106q, K106⟩ := hQ106
    have N106 := Fr.app N103 N106q
    have pre107 : ∀ t, Steps p.tables e below (T106.setTop (mkF m 61 #[.val (.long P0), .second, .val (.long P1), .second, .val (.long P2), .second, .val (.long P3), .second, .val (.long P4), .second, .val (.int P5), .val (.long (P0 &&& (4611686018427387903 : Int64))), .second, .val (.long ((P0 &&& (4611686018427387903 : Int64)) + (P1 &&& (4611686018427387903 : Int64)))), .second, .val (.int ((P5 &&& (2147483647 : Int32)) % (3 : Int32))), .val (.ref b101), .val (.long ((P2 + (P0 &&& (4611686018427387903 : Int64))) + P3)), .second] [(.int (own_al (0 : Int32) (0 : Int64) ((P2 + (P0 &&& (4611686018427387903 : Int64))) + P3)))])) t → Steps p.tables e below (s₁.setTop (entryFrame m #[(.long P0), (.long P1), (.long P2), (.long P3), (.long P4), (.int P5)] maxLocals)) t := fun t kt => pre105 t (by
        show Steps p.tables e below (T103.setTop (mkF m 51 #[.val (.long P0), .second, .val (.long P1), .second, .val (.long P2), .second, .val (.long P3), .second, .val (.long P4), .second, .val (.int P5), .val (.long (P0 &&& (4611686018427387903 : Int64))), .second, .val (.long ((P0 &&& (4611686018427387903 : Int64)) + (P1 &&& (4611686018427387903 : Int64)))), .second, .val (.int ((P5 &&& (2147483647 : Int32)) % (3 : Int32))), .val (.ref b101), .val (.long ((P2 + (P0 &&& (4611686018427387903 : Int64))) + P3)), .second] [(.int ((P5 &&& (2147483647 : Int32)) % (3 : Int32)))])) _
        refine XS.ifNo X103.here hx rfl (hb hby at_51) rfl ((if0 _ _).trans (teq hc51).2) ?_
        show Steps p.tables e below (T103.setTop (mkF m 54 #[.val (.long P0), .second, .val (.long P1), .second, .val (.long P2), .second, .val (.long P3), .second, .val (.long P4), .second, .val (.int P5), .val (.long (P0 &&& (4611686018427387903 : Int64))), .second, .val (.long ((P0 &&& (4611686018427387903 : Int64)) + (P1 &&& (4611686018427387903 : Int64)))), .second, .val (.int ((P5 &&& (2147483647 : Int32)) % (3 : Int32))), .val (.ref b101), .val (.long ((P2 + (P0 &&& (4611686018427387903 : Int64))) + P3)), .second] [])) _
        refine XS.aload X103.here hx rfl (hb hby at_54) rfl rfl ?_
        show Steps p.tables e below (T103.setTop (mkF m 56 #[.val (.long P0), .second, .val (.long P1), .second, .val (.long P2), .second, .val (.long P3), .second, .val (.long P4), .second, .val (.int P5), .val (.long (P0 &&& (4611686018427387903 : Int64))), .second, .val (.long ((P0 &&& (4611686018427387903 : Int64)) + (P1 &&& (4611686018427387903 : Int64)))), .second, .val (.int ((P5 &&& (2147483647 : Int32)) % (3 : Int32))), .val (.ref b101), .val (.long ((P2 + (P0 &&& (4611686018427387903 : Int64))) + P3)), .second] [(.ref b101)])) _
        refine XS.lload X103.here hx rfl (hb hby at_56) rfl ?_
        show Steps p.tables e below (T103.setTop (mkF m 58 #[.val (.long P0), .second, .val (.long P1), .second, .val (.long P2), .second, .val (.long P3), .second, .val (.long P4), .second, .val (.int P5), .val (.long (P0 &&& (4611686018427387903 : Int64))), .second, .val (.long ((P0 &&& (4611686018427387903 : Int64)) + (P1 &&& (4611686018427387903 : Int64)))), .second, .val (.int ((P5 &&& (2147483647 : Int32)) % (3 : Int32))), .val (.ref b101), .val (.long ((P2 + (P0 &&& (4611686018427387903 : Int64))) + P3)), .second] [(.long ((P2 + (P0 &&& (4611686018427387903 : Int64))) + P3)), (.ref b101)])) _
        refine st106.trans ?_
        exact kt)
    obtain ⟨fs, hr, hrun, hended, hW, hsame⟩ := X106.leave (v := some (.int (nar .boolean (own_al (0 : Int32) (0 : Int64) ((P2 + (P0 &&& (4611686018427387903 : Int64))) + P3))))) (fun h => by rw [Bd.returns] at h; cases h)
    refine ⟨_, _, pre107 _ ?_, hrun, hended, _, _, rfl, ?_, ⟨_, rfl⟩, hW, hsame.mono (by decide) (by decide)⟩
    · show Steps p.tables e below (T106.setTop (mkF m 61 #[.val (.long P0), .second, .val (.long P1), .second, .val (.long P2), .second, .val (.long P3), .second, .val (.long P4), .second, .val (.int P5), .val (.long (P0 &&& (4611686018427387903 : Int64))), .second, .val (.long ((P0 &&& (4611686018427387903 : Int64)) + (P1 &&& (4611686018427387903 : Int64)))), .second, .val (.int ((P5 &&& (2147483647 : Int32)) % (3 : Int32))), .val (.ref b101), .val (.long ((P2 + (P0 &&& (4611686018427387903 : Int64))) + P3)), .second] [(.int (own_al (0 : Int32) (0 : Int64) ((P2 + (P0 &&& (4611686018427387903 : Int64))) + P3)))])) _
      exact retN X106 hx (t := .boolean) Bd.returns (by simp) (hb hby at_61) hr
    · show Q0 Z P0 P1 P2 P3 P4 P5 h0 n0 _ T106.heap _
      rw [K106]
      exact ⟨(congrArg (fun z => some (Value.int z)) (show (nar .boolean (own_al (0 : Int32) (0 : Int64) ((P2 + (P0 &&& (4611686018427387903 : Int64))) + P3))) = (1 : Int32) from by rw [own_al0]; rfl)), N106⟩
  · obtain ⟨cq108, kq108, q108a, q108b, q108c⟩ := isOf hZ rfl p103_0
    obtain ⟨_, _, ⟨T108, L108, k108, n108⟩, -, X108, ⟨Lc108, hQ108, l108, y108, z108⟩, st108⟩ := X103.virtualBack hx (y := (⟨"com/example/brigid/brigid/core/RetrySchedule", "failed", "(JJ)V"⟩ : MethodName)) (z := (⟨"com/example/brigid/brigid/core/RetrySchedule", "failed", "(JJ)V"⟩ : MethodName)) hown (mvT hZ (hw _ (List.mem_of_getElem? (i := 15) rfl))) (mvT hZ (hw _ (List.mem_of_getElem? (i := 16) rfl))) (notFace_of_selects (args := #[]) (mvT hZ (hw _ (List.mem_of_getElem? (i := 18) rfl)))) (mvT hZ (hw _ (List.mem_of_getElem? (i := 18) rfl))) (mvT hZ (hw _ (List.mem_of_getElem? (i := 17) rfl))) (by decide) (backOf (W := 0) (rm3 l Z a0 hw [] b101 P4 P2 (P0 &&& (4611686018427387903 : Int64)) ((P0 &&& (4611686018427387903 : Int64)) + (P1 &&& (4611686018427387903 : Int64))) (0 : Int32) (0 : Int64) (0 : Int64) T103.heap n0 Z104 p103_1 p103_2 p103_3 p103_4 p103_5 p103_0 (show ¬ ((0 : Int32) < (0 : Int32)) ∨ ¬ ((P4 - (0 : Int64)) < (0 : Int64)) from (Or.inl (by decide))) (show ¬ ((((1 : Int32) + (1 : Int32)) + (1 : Int32)) < ((0 : Int32) + (1 : Int32))) from (by decide)) g_b101) hZ (hw _ (List.mem_of_getElem? (i := 19) rfl)) (hw _ (List.mem_of_getElem? (i := 4) rfl)) (by decide) (by decide)) q108a q108c (g := (mkF m 68 #[.val (.long P0), .second, .val (.long P1), .second, .val (.long P2), .second, .val (.long P3), .second, .val (.long P4), .second, .val (.int P5), .val (.long (P0 &&& (4611686018427387903 : Int64))), .second, .val (.long ((P0 &&& (4611686018427387903 : Int64)) + (P1 &&& (4611686018427387903 : Int64)))), .second, .val (.int ((P5 &&& (2147483647 : Int32)) % (3 : Int32))), .val (.ref b101), .val (.long ((P2 + (P0 &&& (4611686018427387903 : Int64))) + P3)), .second] [(.long P2), (.long P4), (.ref b101)])) rfl (by rw [hml]; rfl) (Steps.refl _) (argsL := [(.long P4), (.long P2)]) (rest := []) (lenOf pd_0_0 rfl) rfl (by show 2 * 0 + _ ≤ _; exact Nat.le_of_eq rfl) (hb hby at_68) (fun _ _ => ⟨rfl, rfl, (by decide : 1 + 0 ≤ _), (by decide : 5 + 0 ≤ _)⟩)
    dsimp only [Pt.U, Pt.locs, Pt.cells, Pt.slots] at X108 l108 y108 z108 st108 hQ108
    subst l108 y108 z108
    obtain ⟨rfl, N108q, K108, p108_0, p108_1, p108_2, p108_3, p108_4, p108_5⟩ := hQ108
    have N108 := Fr.app N103 N108q
    have Z109 : n0 ≤ T108.heap.size := Nat.le_trans Z104 K108.1
    have pre110 : ∀ t, Steps p.tables e below (T108.setTop (mkF m 74 #[.val (.long P0), .second, .val (.long P1), .second, .val (.long P2), .second, .val (.long P3), .second, .val (.long P4), .second, .val (.int P5), .val (.long (P0 &&& (4611686018427387903 : Int64))), .second, .val (.long ((P0 &&& (4611686018427387903 : Int64)) + (P1 &&& (4611686018427387903 : Int64)))), .second, .val (.int ((P5 &&& (2147483647 : Int32)) % (3 : Int32))), .val (.ref b101), .val (.long ((P2 + (P0 &&& (4611686018427387903 : Int64))) + P3)), .second] [(.int (2 : Int32)), (.int ((P5 &&& (2147483647 : Int32)) % (3 : Int32)))])) t → Steps p.tables e below (s₁.setTop (entryFrame m #[(.long P0), (.long P1), (.long P2), (.long P3), (.long P4), (.int P5)] maxLocals)) t := fun t kt => pre105 t (by
        show Steps p.tables e below (T103.setTop (mkF m 51 #[.val (.long P0), .second, .val (.long P1), .second, .val (.long P2), .second, .val (.long P3), .second, .val (.long P4), .second, .val (.int P5), .val (.long (P0 &&& (4611686018427387903 : Int64))), .second, .val (.long ((P0 &&& (4611686018427387903 : Int64)) + (P1 &&& (4611686018427387903 : Int64)))), .second, .val (.int ((P5 &&& (2147483647 : Int32)) % (3 : Int32))), .val (.ref b101), .val (.long ((P2 + (P0 &&& (4611686018427387903 : Int64))) + P3)), .second] [(.int ((P5 &&& (2147483647 : Int32)) % (3 : Int32)))])) _
        refine XS.ifYes X103.here hx rfl (pc0 := 51) (pc' := 62) rfl (hb hby at_51) rfl ((if0 _ _).trans (feq hc51).2) (by decide) (by decide) ?_
        show Steps p.tables e below (T103.setTop (mkF m 62 #[.val (.long P0), .second, .val (.long P1), .second, .val (.long P2), .second, .val (.long P3), .second, .val (.long P4), .second, .val (.int P5), .val (.long (P0 &&& (4611686018427387903 : Int64))), .second, .val (.long ((P0 &&& (4611686018427387903 : Int64)) + (P1 &&& (4611686018427387903 : Int64)))), .second, .val (.int ((P5 &&& (2147483647 : Int32)) % (3 : Int32))), .val (.ref b101), .val (.long ((P2 + (P0 &&& (4611686018427387903 : Int64))) + P3)), .second] [])) _
        refine XS.aload X103.here hx rfl (hb hby at_62) rfl rfl ?_
        show Steps p.tables e below (T103.setTop (mkF m 64 #[.val (.long P0), .second, .val (.long P1), .second, .val (.long P2), .second, .val (.long P3), .second, .val (.long P4), .second, .val (.int P5), .val (.long (P0 &&& (4611686018427387903 : Int64))), .second, .val (.long ((P0 &&& (4611686018427387903 : Int64)) + (P1 &&& (4611686018427387903 : Int64)))), .second, .val (.int ((P5 &&& (2147483647 : Int32)) % (3 : Int32))), .val (.ref b101), .val (.long ((P2 + (P0 &&& (4611686018427387903 : Int64))) + P3)), .second] [(.ref b101)])) _
        refine XS.lload X103.here hx rfl (hb hby at_64) rfl ?_
        show Steps p.tables e below (T103.setTop (mkF m 66 #[.val (.long P0), .second, .val (.long P1), .second, .val (.long P2), .second, .val (.long P3), .second, .val (.long P4), .second, .val (.int P5), .val (.long (P0 &&& (4611686018427387903 : Int64))), .second, .val (.long ((P0 &&& (4611686018427387903 : Int64)) + (P1 &&& (4611686018427387903 : Int64)))), .second, .val (.int ((P5 &&& (2147483647 : Int32)) % (3 : Int32))), .val (.ref b101), .val (.long ((P2 + (P0 &&& (4611686018427387903 : Int64))) + P3)), .second] [(.long P4), (.ref b101)])) _
        refine XS.lload X103.here hx rfl (hb hby at_66) rfl ?_
        show Steps p.tables e below (T103.setTop (mkF m 68 #[.val (.long P0), .second, .val (.long P1), .second, .val (.long P2), .second, .val (.long P3), .second, .val (.long P4), .second, .val (.int P5), .val (.long (P0 &&& (4611686018427387903 : Int64))), .second, .val (.long ((P0 &&& (4611686018427387903 : Int64)) + (P1 &&& (4611686018427387903 : Int64)))), .second, .val (.int ((P5 &&& (2147483647 : Int32)) % (3 : Int32))), .val (.ref b101), .val (.long ((P2 + (P0 &&& (4611686018427387903 : Int64))) + P3)), .second] [(.long P2), (.long P4), (.ref b101)])) _
        refine st108.trans ?_
        show Steps p.tables e below (T108.setTop (mkF m 71 #[.val (.long P0), .second, .val (.long P1), .second, .val (.long P2), .second, .val (.long P3), .second, .val (.long P4), .second, .val (.int P5), .val (.long (P0 &&& (4611686018427387903 : Int64))), .second, .val (.long ((P0 &&& (4611686018427387903 : Int64)) + (P1 &&& (4611686018427387903 : Int64)))), .second, .val (.int ((P5 &&& (2147483647 : Int32)) % (3 : Int32))), .val (.ref b101), .val (.long ((P2 + (P0 &&& (4611686018427387903 : Int64))) + P3)), .second] [])) _
        refine XS.iload X108.here hx rfl (hb hby at_71) rfl ?_
        show Steps p.tables e below (T108.setTop (mkF m 73 #[.val (.long P0), .second, .val (.long P1), .second, .val (.long P2), .second, .val (.long P3), .second, .val (.long P4), .second, .val (.int P5), .val (.long (P0 &&& (4611686018427387903 : Int64))), .second, .val (.long ((P0 &&& (4611686018427387903 : Int64)) + (P1 &&& (4611686018427387903 : Int64)))), .second, .val (.int ((P5 &&& (2147483647 : Int32)) % (3 : Int32))), .val (.ref b101), .val (.long ((P2 + (P0 &&& (4611686018427387903 : Int64))) + P3)), .second] [(.int ((P5 &&& (2147483647 : Int32)) % (3 : Int32)))])) _
        refine XS.iconst X108.here hx rfl (hb hby at_73) ?_
        exact kt)
    by_cases hc74 : ((P5 &&& (2147483647 : Int32)) % (3 : Int32)) = (2 : Int32)
    · obtain ⟨cq111, kq111, q111a, q111b, q111c⟩ := isOf hZ rfl p108_0
      obtain ⟨_, _, ⟨T111, L111, k111, n111⟩, -, X111, ⟨Lc111, hQ111, l111, y111, z111⟩, st111⟩ := X108.virtualBack hx (y := (⟨"com/example/brigid/brigid/core/RetrySchedule", "succeeded", "()V"⟩ : MethodName)) (z := (⟨"com/example/brigid/brigid/core/RetrySchedule", "succeeded", "()V"⟩ : MethodName)) hown (mvT hZ (hw _ (List.mem_of_getElem? (i := 30) rfl))) (mvT hZ (hw _ (List.mem_of_getElem? (i := 31) rfl))) (notFace_of_selects (args := #[]) (mvT hZ (hw _ (List.mem_of_getElem? (i := 33) rfl)))) (mvT hZ (hw _ (List.mem_of_getElem? (i := 33) rfl))) (mvT hZ (hw _ (List.mem_of_getElem? (i := 32) rfl))) (by decide) (backOf (W := 0) (rm5 l Z a0 hw [] b101 (P0 &&& (4611686018427387903 : Int64)) ((P0 &&& (4611686018427387903 : Int64)) + (P1 &&& (4611686018427387903 : Int64))) ((0 : Int32) + (1 : Int32)) P2 (P2 + (own_delay (P0 &&& (4611686018427387903 : Int64)) ((P0 &&& (4611686018427387903 : Int64)) + (P1 &&& (4611686018427387903 : Int64))) ((0 : Int32) + (1 : Int32)))) T108.heap n0 Z109 p108_1 p108_2 p108_3 p108_4 p108_5 p108_0 g_b101) hZ (hw _ (List.mem_of_getElem? (i := 34) rfl)) (hw _ (List.mem_of_getElem? (i := 4) rfl)) (by decide) (by decide)) q111a q111c (g := (mkF m 79 #[.val (.long P0), .second, .val (.long P1), .second, .val (.long P2), .second, .val (.long P3), .second, .val (.long P4), .second, .val (.int P5), .val (.long (P0 &&& (4611686018427387903 : Int64))), .second, .val (.long ((P0 &&& (4611686018427387903 : Int64)) + (P1 &&& (4611686018427387903 : Int64)))), .second, .val (.int ((P5 &&& (2147483647 : Int32)) % (3 : Int32))), .val (.ref b101), .val (.long ((P2 + (P0 &&& (4611686018427387903 : Int64))) + P3)), .second] [(.ref b101)])) rfl (by rw [hml]; rfl) (Steps.refl _) (argsL := []) (rest := []) (lenOf pd_0_2 rfl) rfl (by show 2 * 0 + _ ≤ _; exact Nat.le_of_eq rfl) (hb hby at_79) (fun _ _ => ⟨rfl, rfl, (by decide : 1 + 0 ≤ _), (by decide : 5 + 0 ≤ _)⟩)
      dsimp only [Pt.U, Pt.locs, Pt.cells, Pt.slots] at X111 l111 y111 z111 st111 hQ111
      subst l111 y111 z111
      obtain ⟨rfl, N111q, K111, p111_0, p111_1, p111_2, p111_3, p111_4, p111_5⟩ := hQ111
      have N111 := Fr.app N108 N111q
      have Z112 : n0 ≤ T111.heap.size := Nat.le_trans Z109 K111.1
      obtain ⟨cq113, kq113, q113a, q113b, q113c⟩ := isOf hZ rfl p111_0
      obtain ⟨_, _, ⟨T113, L113, k113, n113⟩, -, X113, ⟨Lc113, hQ113, l113, y113, z113⟩, st113⟩ := X111.virtualBack hx (y := (⟨"com/example/brigid/brigid/core/RetrySchedule", "allows", "(J)Z"⟩ : MethodName)) (z := (⟨"com/example/brigid/brigid/core/RetrySchedule", "allows", "(J)Z"⟩ : MethodName)) hown (mvT hZ (hw _ (List.mem_of_getElem? (i := 35) rfl))) (mvT hZ (hw _ (List.mem_of_getElem? (i := 36) rfl))) (notFace_of_selects (args := #[]) (mvT hZ (hw _ (List.mem_of_getElem? (i := 38) rfl)))) (mvT hZ (hw _ (List.mem_of_getElem? (i := 38) rfl))) (mvT hZ (hw _ (List.mem_of_getElem? (i := 37) rfl))) (by decide) (backOf (W := 0) (rm6 l Z a0 hw [] b101 ((P2 + (P0 &&& (4611686018427387903 : Int64))) + P3) (0 : Int32) (P2 + (own_delay (P0 &&& (4611686018427387903 : Int64)) ((P0 &&& (4611686018427387903 : Int64)) + (P1 &&& (4611686018427387903 : Int64))) ((0 : Int32) + (1 : Int32)))) T111.heap n0 Z112 p111_3 p111_5) hZ (hw _ (List.mem_of_getElem? (i := 39) rfl)) (hw _ (List.mem_of_getElem? (i := 4) rfl)) (by decide) (by decide)) q113a q113c (g := (mkF m 86 #[.val (.long P0), .second, .val (.long P1), .second, .val (.long P2), .second, .val (.long P3), .second, .val (.long P4), .second, .val (.int P5), .val (.long (P0 &&& (4611686018427387903 : Int64))), .second, .val (.long ((P0 &&& (4611686018427387903 : Int64)) + (P1 &&& (4611686018427387903 : Int64)))), .second, .val (.int ((P5 &&& (2147483647 : Int32)) % (3 : Int32))), .val (.ref b101), .val (.long ((P2 + (P0 &&& (4611686018427387903 : Int64))) + P3)), .second] [(.long ((P2 + (P0 &&& (4611686018427387903 : Int64))) + P3)), (.ref b101)])) rfl (by rw [hml]; rfl) (Steps.refl _) (argsL := [(.long ((P2 + (P0 &&& (4611686018427387903 : Int64))) + P3))]) (rest := []) (lenOf pd_0_1 rfl) rfl (by show 2 * 0 + _ ≤ _; exact Nat.le_of_eq rfl) (hb hby at_86) (fun _ _ => ⟨rfl, rfl, (by decide : 1 + 0 ≤ _), (by decide : 5 + 0 ≤ _)⟩)
      dsimp only [Pt.U, Pt.locs, Pt.cells, Pt.slots] at X113 l113 y113 z113 st113 hQ113
      subst l113 y113 z113
      obtain ⟨rfl, N113q, K113⟩ := hQ113
      have N113 := Fr.app N111 N113q
      have pre114 : ∀ t, Steps p.tables e below (T113.setTop (mkF m 89 #[.val (.long P0), .second, .val (.long P1), .second, .val (.long P2), .second, .val (.long P3), .second, .val (.long P4), .second, .val (.int P5), .val (.long (P0 &&& (4611686018427387903 : Int64))), .second, .val (.long ((P0 &&& (4611686018427387903 : Int64)) + (P1 &&& (4611686018427387903 : Int64)))), .second, .val (.int ((P5 &&& (2147483647 : Int32)) % (3 : Int32))), .val (.ref b101), .val (.long ((P2 + (P0 &&& (4611686018427387903 : Int64))) + P3)), .second] [(.int (own_al (0 : Int32) (P2 + (own_delay (P0 &&& (4611686018427387903 : Int64)) ((P0 &&& (4611686018427387903 : Int64)) + (P1 &&& (4611686018427387903 : Int64))) ((0 : Int32) + (1 : Int32)))) ((P2 + (P0 &&& (4611686018427387903 : Int64))) + P3)))])) t → Steps p.tables e below (s₁.setTop (entryFrame m #[(.long P0), (.long P1), (.long P2), (.long P3), (.long P4), (.int P5)] maxLocals)) t := fun t kt => pre110 t (by
          show Steps p.tables e below (T108.setTop (mkF m 74 #[.val (.long P0), .second, .val (.long P1), .second, .val (.long P2), .second, .val (.long P3), .second, .val (.long P4), .second, .val (.int P5), .val (.long (P0 &&& (4611686018427387903 : Int64))), .second, .val (.long ((P0 &&& (4611686018427387903 : Int64)) + (P1 &&& (4611686018427387903 : Int64)))), .second, .val (.int ((P5 &&& (2147483647 : Int32)) % (3 : Int32))), .val (.ref b101), .val (.long ((P2 + (P0 &&& (4611686018427387903 : Int64))) + P3)), .second] [(.int (2 : Int32)), (.int ((P5 &&& (2147483647 : Int32)) % (3 : Int32)))])) _
          refine XS.icmpNo X108.here hx rfl (hb hby at_74) rfl (teq hc74).2 ?_
          show Steps p.tables e below (T108.setTop (mkF m 77 #[.val (.long P0), .second, .val (.long P1), .second, .val (.long P2), .second, .val (.long P3), .second, .val (.long P4), .second, .val (.int P5), .val (.long (P0 &&& (4611686018427387903 : Int64))), .second, .val (.long ((P0 &&& (4611686018427387903 : Int64)) + (P1 &&& (4611686018427387903 : Int64)))), .second, .val (.int ((P5 &&& (2147483647 : Int32)) % (3 : Int32))), .val (.ref b101), .val (.long ((P2 + (P0 &&& (4611686018427387903 : Int64))) + P3)), .second] [])) _
          refine XS.aload X108.here hx rfl (hb hby at_77) rfl rfl ?_
          show Steps p.tables e below (T108.setTop (mkF m 79 #[.val (.long P0), .second, .val (.long P1), .second, .val (.long P2), .second, .val (.long P3), .second, .val (.long P4), .second, .val (.int P5), .val (.long (P0 &&& (4611686018427387903 : Int64))), .second, .val (.long ((P0 &&& (4611686018427387903 : Int64)) + (P1 &&& (4611686018427387903 : Int64)))), .second, .val (.int ((P5 &&& (2147483647 : Int32)) % (3 : Int32))), .val (.ref b101), .val (.long ((P2 + (P0 &&& (4611686018427387903 : Int64))) + P3)), .second] [(.ref b101)])) _
          refine st111.trans ?_
          show Steps p.tables e below (T111.setTop (mkF m 82 #[.val (.long P0), .second, .val (.long P1), .second, .val (.long P2), .second, .val (.long P3), .second, .val (.long P4), .second, .val (.int P5), .val (.long (P0 &&& (4611686018427387903 : Int64))), .second, .val (.long ((P0 &&& (4611686018427387903 : Int64)) + (P1 &&& (4611686018427387903 : Int64)))), .second, .val (.int ((P5 &&& (2147483647 : Int32)) % (3 : Int32))), .val (.ref b101), .val (.long ((P2 + (P0 &&& (4611686018427387903 : Int64))) + P3)), .second] [])) _
          refine XS.aload X111.here hx rfl (hb hby at_82) rfl rfl ?_
          show Steps p.tables e below (T111.setTop (mkF m 84 #[.val (.long P0), .second, .val (.long P1), .second, .val (.long P2), .second, .val (.long P3), .second, .val (.long P4), .second, .val (.int P5), .val (.long (P0 &&& (4611686018427387903 : Int64))), .second, .val (.long ((P0 &&& (4611686018427387903 : Int64)) + (P1 &&& (4611686018427387903 : Int64)))), .second, .val (.int ((P5 &&& (2147483647 : Int32)) % (3 : Int32))), .val (.ref b101), .val (.long ((P2 + (P0 &&& (4611686018427387903 : Int64))) + P3)), .second] [(.ref b101)])) _
          refine XS.lload X111.here hx rfl (hb hby at_84) rfl ?_
          show Steps p.tables e below (T111.setTop (mkF m 86 #[.val (.long P0), .second, .val (.long P1), .second, .val (.long P2), .second, .val (.long P3), .second, .val (.long P4), .second, .val (.int P5), .val (.long (P0 &&& (4611686018427387903 : Int64))), .second, .val (.long ((P0 &&& (4611686018427387903 : Int64)) + (P1 &&& (4611686018427387903 : Int64)))), .second, .val (.int ((P5 &&& (2147483647 : Int32)) % (3 : Int32))), .val (.ref b101), .val (.long ((P2 + (P0 &&& (4611686018427387903 : Int64))) + P3)), .second] [(.long ((P2 + (P0 &&& (4611686018427387903 : Int64))) + P3)), (.ref b101)])) _
          refine st113.trans ?_
          exact kt)
      obtain ⟨fs, hr, hrun, hended, hW, hsame⟩ := X113.leave (v := some (.int (nar .boolean (own_al (0 : Int32) (P2 + (own_delay (P0 &&& (4611686018427387903 : Int64)) ((P0 &&& (4611686018427387903 : Int64)) + (P1 &&& (4611686018427387903 : Int64))) ((0 : Int32) + (1 : Int32)))) ((P2 + (P0 &&& (4611686018427387903 : Int64))) + P3))))) (fun h => by rw [Bd.returns] at h; cases h)
      refine ⟨_, _, pre114 _ ?_, hrun, hended, _, _, rfl, ?_, ⟨_, rfl⟩, hW, hsame.mono (by decide) (by decide)⟩
      · show Steps p.tables e below (T113.setTop (mkF m 89 #[.val (.long P0), .second, .val (.long P1), .second, .val (.long P2), .second, .val (.long P3), .second, .val (.long P4), .second, .val (.int P5), .val (.long (P0 &&& (4611686018427387903 : Int64))), .second, .val (.long ((P0 &&& (4611686018427387903 : Int64)) + (P1 &&& (4611686018427387903 : Int64)))), .second, .val (.int ((P5 &&& (2147483647 : Int32)) % (3 : Int32))), .val (.ref b101), .val (.long ((P2 + (P0 &&& (4611686018427387903 : Int64))) + P3)), .second] [(.int (own_al (0 : Int32) (P2 + (own_delay (P0 &&& (4611686018427387903 : Int64)) ((P0 &&& (4611686018427387903 : Int64)) + (P1 &&& (4611686018427387903 : Int64))) ((0 : Int32) + (1 : Int32)))) ((P2 + (P0 &&& (4611686018427387903 : Int64))) + P3)))])) _
        exact retN X113 hx (t := .boolean) Bd.returns (by simp) (hb hby at_89) hr
      · show Q0 Z P0 P1 P2 P3 P4 P5 h0 n0 _ T113.heap _
        rw [K113]
        exact ⟨(congrArg (fun z => some (Value.int z)) (show (nar .boolean (own_al (0 : Int32) (P2 + (own_delay (P0 &&& (4611686018427387903 : Int64)) ((P0 &&& (4611686018427387903 : Int64)) + (P1 &&& (4611686018427387903 : Int64))) ((0 : Int32) + (1 : Int32)))) ((P2 + (P0 &&& (4611686018427387903 : Int64))) + P3))) = (1 : Int32) from by rw [own_al0]; rfl)), N113⟩
    · obtain ⟨cq115, kq115, q115a, q115b, q115c⟩ := isOf hZ rfl p108_0
      obtain ⟨_, _, ⟨T115, L115, k115, n115⟩, -, X115, ⟨Lc115, hQ115, l115, y115, z115⟩, st115⟩ := X108.virtualBack hx (y := (⟨"com/example/brigid/brigid/core/RetrySchedule", "allows", "(J)Z"⟩ : MethodName)) (z := (⟨"com/example/brigid/brigid/core/RetrySchedule", "allows", "(J)Z"⟩ : MethodName)) hown (mvT hZ (hw _ (List.mem_of_getElem? (i := 35) rfl))) (mvT hZ (hw _ (List.mem_of_getElem? (i := 36) rfl))) (notFace_of_selects (args := #[]) (mvT hZ (hw _ (List.mem_of_getElem? (i := 38) rfl)))) (mvT hZ (hw _ (List.mem_of_getElem? (i := 38) rfl))) (mvT hZ (hw _ (List.mem_of_getElem? (i := 37) rfl))) (by decide) (backOf (W := 0) (rm6 l Z a0 hw [] b101 ((P2 + (P0 &&& (4611686018427387903 : Int64))) + P3) ((0 : Int32) + (1 : Int32)) (P2 + (own_delay (P0 &&& (4611686018427387903 : Int64)) ((P0 &&& (4611686018427387903 : Int64)) + (P1 &&& (4611686018427387903 : Int64))) ((0 : Int32) + (1 : Int32)))) T108.heap n0 Z109 p108_3 p108_5) hZ (hw _ (List.mem_of_getElem? (i := 39) rfl)) (hw _ (List.mem_of_getElem? (i := 4) rfl)) (by decide) (by decide)) q115a q115c (g := (mkF m 94 #[.val (.long P0), .second, .val (.long P1), .second, .val (.long P2), .second, .val (.long P3), .second, .val (.long P4), .second, .val (.int P5), .val (.long (P0 &&& (4611686018427387903 : Int64))), .second, .val (.long ((P0 &&& (4611686018427387903 : Int64)) + (P1 &&& (4611686018427387903 : Int64)))), .second, .val (.int ((P5 &&& (2147483647 : Int32)) % (3 : Int32))), .val (.ref b101), .val (.long ((P2 + (P0 &&& (4611686018427387903 : Int64))) + P3)), .second] [(.long ((P2 + (P0 &&& (4611686018427387903 : Int64))) + P3)), (.ref b101)])) rfl (by rw [hml]; rfl) (Steps.refl _) (argsL := [(.long ((P2 + (P0 &&& (4611686018427387903 : Int64))) + P3))]) (rest := []) (lenOf pd_0_1 rfl) rfl (by show 2 * 0 + _ ≤ _; exact Nat.le_of_eq rfl) (hb hby at_94) (fun _ _ => ⟨rfl, rfl, (by decide : 1 + 0 ≤ _), (by decide : 5 + 0 ≤ _)⟩)
      dsimp only [Pt.U, Pt.locs, Pt.cells, Pt.slots] at X115 l115 y115 z115 st115 hQ115
      subst l115 y115 z115
      obtain ⟨rfl, N115q, K115⟩ := hQ115
      have N115 := Fr.app N108 N115q
      have pre116 : ∀ t, Steps p.tables e below (T115.setTop (mkF m 101 #[.val (.long P0), .second, .val (.long P1), .second, .val (.long P2), .second, .val (.long P3), .second, .val (.long P4), .second, .val (.int P5), .val (.long (P0 &&& (4611686018427387903 : Int64))), .second, .val (.long ((P0 &&& (4611686018427387903 : Int64)) + (P1 &&& (4611686018427387903 : Int64)))), .second, .val (.int ((P5 &&& (2147483647 : Int32)) % (3 : Int32))), .val (.ref b101), .val (.long ((P2 + (P0 &&& (4611686018427387903 : Int64))) + P3)), .second] [(.int (lcmpW P3 (0 : Int64))), (.int (own_al ((0 : Int32) + (1 : Int32)) (P2 + (own_delay (P0 &&& (4611686018427387903 : Int64)) ((P0 &&& (4611686018427387903 : Int64)) + (P1 &&& (4611686018427387903 : Int64))) ((0 : Int32) + (1 : Int32)))) ((P2 + (P0 &&& (4611686018427387903 : Int64))) + P3)))])) t → Steps p.tables e below (s₁.setTop (entryFrame m #[(.long P0), (.long P1), (.long P2), (.long P3), (.long P4), (.int P5)] maxLocals)) t := fun t kt => pre110 t (by
          show Steps p.tables e below (T108.setTop (mkF m 74 #[.val (.long P0), .second, .val (.long P1), .second, .val (.long P2), .second, .val (.long P3), .second, .val (.long P4), .second, .val (.int P5), .val (.long (P0 &&& (4611686018427387903 : Int64))), .second, .val (.long ((P0 &&& (4611686018427387903 : Int64)) + (P1 &&& (4611686018427387903 : Int64)))), .second, .val (.int ((P5 &&& (2147483647 : Int32)) % (3 : Int32))), .val (.ref b101), .val (.long ((P2 + (P0 &&& (4611686018427387903 : Int64))) + P3)), .second] [(.int (2 : Int32)), (.int ((P5 &&& (2147483647 : Int32)) % (3 : Int32)))])) _
          refine XS.icmpYes X108.here hx rfl (pc0 := 74) (pc' := 90) rfl (hb hby at_74) rfl (feq hc74).2 (by decide) (by decide) ?_
          show Steps p.tables e below (T108.setTop (mkF m 90 #[.val (.long P0), .second, .val (.long P1), .second, .val (.long P2), .second, .val (.long P3), .second, .val (.long P4), .second, .val (.int P5), .val (.long (P0 &&& (4611686018427387903 : Int64))), .second, .val (.long ((P0 &&& (4611686018427387903 : Int64)) + (P1 &&& (4611686018427387903 : Int64)))), .second, .val (.int ((P5 &&& (2147483647 : Int32)) % (3 : Int32))), .val (.ref b101), .val (.long ((P2 + (P0 &&& (4611686018427387903 : Int64))) + P3)), .second] [])) _
          refine XS.aload X108.here hx rfl (hb hby at_90) rfl rfl ?_
          show Steps p.tables e below (T108.setTop (mkF m 92 #[.val (.long P0), .second, .val (.long P1), .second, .val (.long P2), .second, .val (.long P3), .second, .val (.long P4), .second, .val (.int P5), .val (.long (P0 &&& (4611686018427387903 : Int64))), .second, .val (.long ((P0 &&& (4611686018427387903 : Int64)) + (P1 &&& (4611686018427387903 : Int64)))), .second, .val (.int ((P5 &&& (2147483647 : Int32)) % (3 : Int32))), .val (.ref b101), .val (.long ((P2 + (P0 &&& (4611686018427387903 : Int64))) + P3)), .second] [(.ref b101)])) _
          refine XS.lload X108.here hx rfl (hb hby at_92) rfl ?_
          show Steps p.tables e below (T108.setTop (mkF m 94 #[.val (.long P0), .second, .val (.long P1), .second, .val (.long P2), .second, .val (.long P3), .second, .val (.long P4), .second, .val (.int P5), .val (.long (P0 &&& (4611686018427387903 : Int64))), .second, .val (.long ((P0 &&& (4611686018427387903 : Int64)) + (P1 &&& (4611686018427387903 : Int64)))), .second, .val (.int ((P5 &&& (2147483647 : Int32)) % (3 : Int32))), .val (.ref b101), .val (.long ((P2 + (P0 &&& (4611686018427387903 : Int64))) + P3)), .second] [(.long ((P2 + (P0 &&& (4611686018427387903 : Int64))) + P3)), (.ref b101)])) _
          refine st115.trans ?_
          show Steps p.tables e below (T115.setTop (mkF m 97 #[.val (.long P0), .second, .val (.long P1), .second, .val (.long P2), .second, .val (.long P3), .second, .val (.long P4), .second, .val (.int P5), .val (.long (P0 &&& (4611686018427387903 : Int64))), .second, .val (.long ((P0 &&& (4611686018427387903 : Int64)) + (P1 &&& (4611686018427387903 : Int64)))), .second, .val (.int ((P5 &&& (2147483647 : Int32)) % (3 : Int32))), .val (.ref b101), .val (.long ((P2 + (P0 &&& (4611686018427387903 : Int64))) + P3)), .second] [(.int (own_al ((0 : Int32) + (1 : Int32)) (P2 + (own_delay (P0 &&& (4611686018427387903 : Int64)) ((P0 &&& (4611686018427387903 : Int64)) + (P1 &&& (4611686018427387903 : Int64))) ((0 : Int32) + (1 : Int32)))) ((P2 + (P0 &&& (4611686018427387903 : Int64))) + P3)))])) _
          refine XS.lload X115.here hx rfl (hb hby at_97) rfl ?_
          show Steps p.tables e below (T115.setTop (mkF m 99 #[.val (.long P0), .second, .val (.long P1), .second, .val (.long P2), .second, .val (.long P3), .second, .val (.long P4), .second, .val (.int P5), .val (.long (P0 &&& (4611686018427387903 : Int64))), .second, .val (.long ((P0 &&& (4611686018427387903 : Int64)) + (P1 &&& (4611686018427387903 : Int64)))), .second, .val (.int ((P5 &&& (2147483647 : Int32)) % (3 : Int32))), .val (.ref b101), .val (.long ((P2 + (P0 &&& (4611686018427387903 : Int64))) + P3)), .second] [(.long P3), (.int (own_al ((0 : Int32) + (1 : Int32)) (P2 + (own_delay (P0 &&& (4611686018427387903 : Int64)) ((P0 &&& (4611686018427387903 : Int64)) + (P1 &&& (4611686018427387903 : Int64))) ((0 : Int32) + (1 : Int32)))) ((P2 + (P0 &&& (4611686018427387903 : Int64))) + P3)))])) _
          refine XS.lconst X115.here hx rfl (hb hby at_99) ?_
          show Steps p.tables e below (T115.setTop (mkF m 100 #[.val (.long P0), .second, .val (.long P1), .second, .val (.long P2), .second, .val (.long P3), .second, .val (.long P4), .second, .val (.int P5), .val (.long (P0 &&& (4611686018427387903 : Int64))), .second, .val (.long ((P0 &&& (4611686018427387903 : Int64)) + (P1 &&& (4611686018427387903 : Int64)))), .second, .val (.int ((P5 &&& (2147483647 : Int32)) % (3 : Int32))), .val (.ref b101), .val (.long ((P2 + (P0 &&& (4611686018427387903 : Int64))) + P3)), .second] [(.long (0 : Int64)), (.long P3), (.int (own_al ((0 : Int32) + (1 : Int32)) (P2 + (own_delay (P0 &&& (4611686018427387903 : Int64)) ((P0 &&& (4611686018427387903 : Int64)) + (P1 &&& (4611686018427387903 : Int64))) ((0 : Int32) + (1 : Int32)))) ((P2 + (P0 &&& (4611686018427387903 : Int64))) + P3)))])) _
          refine XS.lcmp X115.here hx rfl (hb hby at_100) rfl ?_
          exact kt)
      by_cases hc101 : P3 < (0 : Int64)
      · have pre117 : ∀ t, Steps p.tables e below (T115.setTop (mkF m 117 #[.val (.long P0), .second, .val (.long P1), .second, .val (.long P2), .second, .val (.long P3), .second, .val (.long P4), .second, .val (.int P5), .val (.long (P0 &&& (4611686018427387903 : Int64))), .second, .val (.long ((P0 &&& (4611686018427387903 : Int64)) + (P1 &&& (4611686018427387903 : Int64)))), .second, .val (.int ((P5 &&& (2147483647 : Int32)) % (3 : Int32))), .val (.ref b101), .val (.long ((P2 + (P0 &&& (4611686018427387903 : Int64))) + P3)), .second] [(.int (1 : Int32))])) t → Steps p.tables e below (s₁.setTop (entryFrame m #[(.long P0), (.long P1), (.long P2), (.long P3), (.long P4), (.int P5)] maxLocals)) t := fun t kt => pre116 t (by
            show Steps p.tables e below (T115.setTop (mkF m 101 #[.val (.long P0), .second, .val (.long P1), .second, .val (.long P2), .second, .val (.long P3), .second, .val (.long P4), .second, .val (.int P5), .val (.long (P0 &&& (4611686018427387903 : Int64))), .second, .val (.long ((P0 &&& (4611686018427387903 : Int64)) + (P1 &&& (4611686018427387903 : Int64)))), .second, .val (.int ((P5 &&& (2147483647 : Int32)) % (3 : Int32))), .val (.ref b101), .val (.long ((P2 + (P0 &&& (4611686018427387903 : Int64))) + P3)), .second] [(.int (lcmpW P3 (0 : Int64))), (.int (own_al ((0 : Int32) + (1 : Int32)) (P2 + (own_delay (P0 &&& (4611686018427387903 : Int64)) ((P0 &&& (4611686018427387903 : Int64)) + (P1 &&& (4611686018427387903 : Int64))) ((0 : Int32) + (1 : Int32)))) ((P2 + (P0 &&& (4611686018427387903 : Int64))) + P3)))])) _
            refine XS.ifYes X115.here hx rfl (pc0 := 101) (pc' := 108) rfl (hb hby at_101) rfl ((if0 _ _).trans (tlt ((lw_lt P3 (0 : Int64)).mpr hc101)).1) (by decide) (by decide) ?_
            show Steps p.tables e below (T115.setTop (mkF m 108 #[.val (.long P0), .second, .val (.long P1), .second, .val (.long P2), .second, .val (.long P3), .second, .val (.long P4), .second, .val (.int P5), .val (.long (P0 &&& (4611686018427387903 : Int64))), .second, .val (.long ((P0 &&& (4611686018427387903 : Int64)) + (P1 &&& (4611686018427387903 : Int64)))), .second, .val (.int ((P5 &&& (2147483647 : Int32)) % (3 : Int32))), .val (.ref b101), .val (.long ((P2 + (P0 &&& (4611686018427387903 : Int64))) + P3)), .second] [(.int (own_al ((0 : Int32) + (1 : Int32)) (P2 + (own_delay (P0 &&& (4611686018427387903 : Int64)) ((P0 &&& (4611686018427387903 : Int64)) + (P1 &&& (4611686018427387903 : Int64))) ((0 : Int32) + (1 : Int32)))) ((P2 + (P0 &&& (4611686018427387903 : Int64))) + P3)))])) _
            refine XS.iconst X115.here hx rfl (hb hby at_108) ?_
            show Steps p.tables e below (T115.setTop (mkF m 109 #[.val (.long P0), .second, .val (.long P1), .second, .val (.long P2), .second, .val (.long P3), .second, .val (.long P4), .second, .val (.int P5), .val (.long (P0 &&& (4611686018427387903 : Int64))), .second, .val (.long ((P0 &&& (4611686018427387903 : Int64)) + (P1 &&& (4611686018427387903 : Int64)))), .second, .val (.int ((P5 &&& (2147483647 : Int32)) % (3 : Int32))), .val (.ref b101), .val (.long ((P2 + (P0 &&& (4611686018427387903 : Int64))) + P3)), .second] [(.int (0 : Int32)), (.int (own_al ((0 : Int32) + (1 : Int32)) (P2 + (own_delay (P0 &&& (4611686018427387903 : Int64)) ((P0 &&& (4611686018427387903 : Int64)) + (P1 &&& (4611686018427387903 : Int64))) ((0 : Int32) + (1 : Int32)))) ((P2 + (P0 &&& (4611686018427387903 : Int64))) + P3)))])) _
            refine XS.icmpNo X115.here hx rfl (hb hby at_109) rfl (teq (show (own_al ((0 : Int32) + (1 : Int32)) (P2 + (own_delay (P0 &&& (4611686018427387903 : Int64)) ((P0 &&& (4611686018427387903 : Int64)) + (P1 &&& (4611686018427387903 : Int64))) ((0 : Int32) + (1 : Int32)))) ((P2 + (P0 &&& (4611686018427387903 : Int64))) + P3)) = (0 : Int32) from (own_no _ _ _ _ hc101))).2 ?_
            show Steps p.tables e below (T115.setTop (mkF m 112 #[.val (.long P0), .second, .val (.long P1), .second, .val (.long P2), .second, .val (.long P3), .second, .val (.long P4), .second, .val (.int P5), .val (.long (P0 &&& (4611686018427387903 : Int64))), .second, .val (.long ((P0 &&& (4611686018427387903 : Int64)) + (P1 &&& (4611686018427387903 : Int64)))), .second, .val (.int ((P5 &&& (2147483647 : Int32)) % (3 : Int32))), .val (.ref b101), .val (.long ((P2 + (P0 &&& (4611686018427387903 : Int64))) + P3)), .second] [])) _
            refine XS.iconst X115.here hx rfl (hb hby at_112) ?_
            show Steps p.tables e below (T115.setTop (mkF m 113 #[.val (.long P0), .second, .val (.long P1), .second, .val (.long P2), .second, .val (.long P3), .second, .val (.long P4), .second, .val (.int P5), .val (.long (P0 &&& (4611686018427387903 : Int64))), .second, .val (.long ((P0 &&& (4611686018427387903 : Int64)) + (P1 &&& (4611686018427387903 : Int64)))), .second, .val (.int ((P5 &&& (2147483647 : Int32)) % (3 : Int32))), .val (.ref b101), .val (.long ((P2 + (P0 &&& (4611686018427387903 : Int64))) + P3)), .second] [(.int (1 : Int32))])) _
            refine XS.goto X115.here hx rfl (pc0 := 113) (pc' := 117) rfl (hb hby at_113) (by decide) (by decide) ?_
            exact kt)
        obtain ⟨fs, hr, hrun, hended, hW, hsame⟩ := X115.leave (v := some (.int (1 : Int32))) (fun h => by rw [Bd.returns] at h; cases h)
        refine ⟨_, _, pre117 _ ?_, hrun, hended, _, _, rfl, ?_, ⟨_, rfl⟩, hW, hsame.mono (by decide) (by decide)⟩
        · show Steps p.tables e below (T115.setTop (mkF m 117 #[.val (.long P0), .second, .val (.long P1), .second, .val (.long P2), .second, .val (.long P3), .second, .val (.long P4), .second, .val (.int P5), .val (.long (P0 &&& (4611686018427387903 : Int64))), .second, .val (.long ((P0 &&& (4611686018427387903 : Int64)) + (P1 &&& (4611686018427387903 : Int64)))), .second, .val (.int ((P5 &&& (2147483647 : Int32)) % (3 : Int32))), .val (.ref b101), .val (.long ((P2 + (P0 &&& (4611686018427387903 : Int64))) + P3)), .second] [(.int (1 : Int32))])) _
          exact retN X115 hx (t := .boolean) Bd.returns (by simp) (hb hby at_117) hr
        · show Q0 Z P0 P1 P2 P3 P4 P5 h0 n0 _ T115.heap _
          rw [K115]
          exact ⟨rfl, N115⟩
      · have pre118 : ∀ t, Steps p.tables e below (T115.setTop (mkF m 117 #[.val (.long P0), .second, .val (.long P1), .second, .val (.long P2), .second, .val (.long P3), .second, .val (.long P4), .second, .val (.int P5), .val (.long (P0 &&& (4611686018427387903 : Int64))), .second, .val (.long ((P0 &&& (4611686018427387903 : Int64)) + (P1 &&& (4611686018427387903 : Int64)))), .second, .val (.int ((P5 &&& (2147483647 : Int32)) % (3 : Int32))), .val (.ref b101), .val (.long ((P2 + (P0 &&& (4611686018427387903 : Int64))) + P3)), .second] [(.int (1 : Int32))])) t → Steps p.tables e below (s₁.setTop (entryFrame m #[(.long P0), (.long P1), (.long P2), (.long P3), (.long P4), (.int P5)] maxLocals)) t := fun t kt => pre116 t (by
            show Steps p.tables e below (T115.setTop (mkF m 101 #[.val (.long P0), .second, .val (.long P1), .second, .val (.long P2), .second, .val (.long P3), .second, .val (.long P4), .second, .val (.int P5), .val (.long (P0 &&& (4611686018427387903 : Int64))), .second, .val (.long ((P0 &&& (4611686018427387903 : Int64)) + (P1 &&& (4611686018427387903 : Int64)))), .second, .val (.int ((P5 &&& (2147483647 : Int32)) % (3 : Int32))), .val (.ref b101), .val (.long ((P2 + (P0 &&& (4611686018427387903 : Int64))) + P3)), .second] [(.int (lcmpW P3 (0 : Int64))), (.int (own_al ((0 : Int32) + (1 : Int32)) (P2 + (own_delay (P0 &&& (4611686018427387903 : Int64)) ((P0 &&& (4611686018427387903 : Int64)) + (P1 &&& (4611686018427387903 : Int64))) ((0 : Int32) + (1 : Int32)))) ((P2 + (P0 &&& (4611686018427387903 : Int64))) + P3)))])) _
            refine XS.ifNo X115.here hx rfl (hb hby at_101) rfl ((if0 _ _).trans (flt (fun q => hc101 ((lw_lt P3 (0 : Int64)).mp q))).1) ?_
            show Steps p.tables e below (T115.setTop (mkF m 104 #[.val (.long P0), .second, .val (.long P1), .second, .val (.long P2), .second, .val (.long P3), .second, .val (.long P4), .second, .val (.int P5), .val (.long (P0 &&& (4611686018427387903 : Int64))), .second, .val (.long ((P0 &&& (4611686018427387903 : Int64)) + (P1 &&& (4611686018427387903 : Int64)))), .second, .val (.int ((P5 &&& (2147483647 : Int32)) % (3 : Int32))), .val (.ref b101), .val (.long ((P2 + (P0 &&& (4611686018427387903 : Int64))) + P3)), .second] [(.int (own_al ((0 : Int32) + (1 : Int32)) (P2 + (own_delay (P0 &&& (4611686018427387903 : Int64)) ((P0 &&& (4611686018427387903 : Int64)) + (P1 &&& (4611686018427387903 : Int64))) ((0 : Int32) + (1 : Int32)))) ((P2 + (P0 &&& (4611686018427387903 : Int64))) + P3)))])) _
            refine XS.iconst X115.here hx rfl (hb hby at_104) ?_
            show Steps p.tables e below (T115.setTop (mkF m 105 #[.val (.long P0), .second, .val (.long P1), .second, .val (.long P2), .second, .val (.long P3), .second, .val (.long P4), .second, .val (.int P5), .val (.long (P0 &&& (4611686018427387903 : Int64))), .second, .val (.long ((P0 &&& (4611686018427387903 : Int64)) + (P1 &&& (4611686018427387903 : Int64)))), .second, .val (.int ((P5 &&& (2147483647 : Int32)) % (3 : Int32))), .val (.ref b101), .val (.long ((P2 + (P0 &&& (4611686018427387903 : Int64))) + P3)), .second] [(.int (1 : Int32)), (.int (own_al ((0 : Int32) + (1 : Int32)) (P2 + (own_delay (P0 &&& (4611686018427387903 : Int64)) ((P0 &&& (4611686018427387903 : Int64)) + (P1 &&& (4611686018427387903 : Int64))) ((0 : Int32) + (1 : Int32)))) ((P2 + (P0 &&& (4611686018427387903 : Int64))) + P3)))])) _
            refine XS.goto X115.here hx rfl (pc0 := 105) (pc' := 109) rfl (hb hby at_105) (by decide) (by decide) ?_
            show Steps p.tables e below (T115.setTop (mkF m 109 #[.val (.long P0), .second, .val (.long P1), .second, .val (.long P2), .second, .val (.long P3), .second, .val (.long P4), .second, .val (.int P5), .val (.long (P0 &&& (4611686018427387903 : Int64))), .second, .val (.long ((P0 &&& (4611686018427387903 : Int64)) + (P1 &&& (4611686018427387903 : Int64)))), .second, .val (.int ((P5 &&& (2147483647 : Int32)) % (3 : Int32))), .val (.ref b101), .val (.long ((P2 + (P0 &&& (4611686018427387903 : Int64))) + P3)), .second] [(.int (1 : Int32)), (.int (own_al ((0 : Int32) + (1 : Int32)) (P2 + (own_delay (P0 &&& (4611686018427387903 : Int64)) ((P0 &&& (4611686018427387903 : Int64)) + (P1 &&& (4611686018427387903 : Int64))) ((0 : Int32) + (1 : Int32)))) ((P2 + (P0 &&& (4611686018427387903 : Int64))) + P3)))])) _
            refine XS.icmpNo X115.here hx rfl (hb hby at_109) rfl (teq (show (own_al ((0 : Int32) + (1 : Int32)) (P2 + (own_delay (P0 &&& (4611686018427387903 : Int64)) ((P0 &&& (4611686018427387903 : Int64)) + (P1 &&& (4611686018427387903 : Int64))) ((0 : Int32) + (1 : Int32)))) ((P2 + (P0 &&& (4611686018427387903 : Int64))) + P3)) = (1 : Int32) from (own_yes _ _ _ _ hc101))).2 ?_
            show Steps p.tables e below (T115.setTop (mkF m 112 #[.val (.long P0), .second, .val (.long P1), .second, .val (.long P2), .second, .val (.long P3), .second, .val (.long P4), .second, .val (.int P5), .val (.long (P0 &&& (4611686018427387903 : Int64))), .second, .val (.long ((P0 &&& (4611686018427387903 : Int64)) + (P1 &&& (4611686018427387903 : Int64)))), .second, .val (.int ((P5 &&& (2147483647 : Int32)) % (3 : Int32))), .val (.ref b101), .val (.long ((P2 + (P0 &&& (4611686018427387903 : Int64))) + P3)), .second] [])) _
            refine XS.iconst X115.here hx rfl (hb hby at_112) ?_
            show Steps p.tables e below (T115.setTop (mkF m 113 #[.val (.long P0), .second, .val (.long P1), .second, .val (.long P2), .second, .val (.long P3), .second, .val (.long P4), .second, .val (.int P5), .val (.long (P0 &&& (4611686018427387903 : Int64))), .second, .val (.long ((P0 &&& (4611686018427387903 : Int64)) + (P1 &&& (4611686018427387903 : Int64)))), .second, .val (.int ((P5 &&& (2147483647 : Int32)) % (3 : Int32))), .val (.ref b101), .val (.long ((P2 + (P0 &&& (4611686018427387903 : Int64))) + P3)), .second] [(.int (1 : Int32))])) _
            refine XS.goto X115.here hx rfl (pc0 := 113) (pc' := 117) rfl (hb hby at_113) (by decide) (by decide) ?_
            exact kt)
        obtain ⟨fs, hr, hrun, hended, hW, hsame⟩ := X115.leave (v := some (.int (1 : Int32))) (fun h => by rw [Bd.returns] at h; cases h)
        refine ⟨_, _, pre118 _ ?_, hrun, hended, _, _, rfl, ?_, ⟨_, rfl⟩, hW, hsame.mono (by decide) (by decide)⟩
        · show Steps p.tables e below (T115.setTop (mkF m 117 #[.val (.long P0), .second, .val (.long P1), .second, .val (.long P2), .second, .val (.long P3), .second, .val (.long P4), .second, .val (.int P5), .val (.long (P0 &&& (4611686018427387903 : Int64))), .second, .val (.long ((P0 &&& (4611686018427387903 : Int64)) + (P1 &&& (4611686018427387903 : Int64)))), .second, .val (.int ((P5 &&& (2147483647 : Int32)) % (3 : Int32))), .val (.ref b101), .val (.long ((P2 + (P0 &&& (4611686018427387903 : Int64))) + P3)), .second] [(.int (1 : Int32))])) _
          exact retN X115 hx (t := .boolean) Bd.returns (by simp) (hb hby at_117) hr
        · show Q0 Z P0 P1 P2 P3 P4 P5 h0 n0 _ T115.heap _
          rw [K115]
          exact ⟨rfl, N115⟩
set_option maxRecDepth 65536 in
set_option maxHeartbeats 40000000 in
theorem comes_1 {Post : Tables → Env → Array Value → State → Outcome → State → Prop} (hpost : ∀ tb e args s v u, (limb_1_1.after args s (.returned v) u = true ∧ limb_1_2.after args s (.returned v) u = true ∧ True) → FrameEnd s (.returned v) u (Jvm.fieldLocs frame_1_writes args s ++ Jvm.arrayLocs frame_1_arrays args s ++ Jvm.staticLocs frame_1_statics s) 16 128 → Post tb e args s (.returned v) u) :
    ArmFor flags0 classFile x code maxLocals ret World_1 tables_1 room_1 Calls_1 rest_1 Pre_1 Post := by
  intro l hfl _ _ p e ha hc hk s m args below hf hA hF happ hP
  obtain ⟨hcalls, hrest, hpre⟩ := hP
  obtain ⟨-, -, -, hnamed, -, -, -, hat⟩ := (Spec.applies_iff hf).mp happ
  obtain ⟨hg, hn⟩ := and_e (Cond.before_iff.mp (show (Jvm.Cond.and given_1 narrow_1).before args s = true from hpre))
  obtain ⟨gv1, gv2⟩ := and_e hg
  obtain ⟨gv3, gv4⟩ := and_e gv2
  obtain ⟨gv5, gv6⟩ := and_e gv4
  obtain ⟨gv7, gv8⟩ := and_e gv6
  obtain ⟨gv9, gv10⟩ := and_e gv8
  obtain ⟨gv11, gv12⟩ := and_e gv10
  obtain ⟨w0, w1, w2, w3, w4, w5, rfl⟩ : ∃ w0 w1 w2 w3 w4 w5 : Value, args = #[w0, w1, w2, w3, w4, w5] := by
    have hs : args.size = 6 := by simpa [Cond.value, given_1] using gv1
    obtain ⟨L⟩ := args
    match L, hs with
    | [w0, w1, w2, w3, w4, w5], _ => exact ⟨w0, w1, w2, w3, w4, w5, rfl⟩
  have hw := fun d (hd : d ∈ tables_1) => atoms_spec (ws := Jvm.Cond.code x code maxLocals ret :: tables_1) hat d (List.mem_cons_of_mem _ hd)
  have hfit : Fit s := fun {y c} hc i hi => by
    obtain ⟨ha, rfl⟩ := Array.getElem?_eq_some_iff.mp hc
    have q := List.all_eq_true.mp ((Array.all_eq_true_iff_forall_mem.mp hF) _ (Array.getElem_mem ha)) i (List.mem_range.mpr hi)
    simpa [Array.getElem?_eq_getElem hi] using q
  obtain ⟨i0, ei0⟩ := isL_v gv3
  obtain rfl : w0 = (.long i0) := Option.some.inj ei0
  obtain ⟨i1, ei1⟩ := isL_v gv5
  obtain rfl : w1 = (.long i1) := Option.some.inj ei1
  obtain ⟨i2, ei2⟩ := isL_v gv7
  obtain rfl : w2 = (.long i2) := Option.some.inj ei2
  obtain ⟨i3, ei3⟩ := isL_v gv9
  obtain rfl : w3 = (.long i3) := Option.some.inj ei3
  obtain ⟨i4, ei4⟩ := isL_v gv11
  obtain rfl : w4 = (.long i4) := Option.some.inj ei4
  obtain ⟨i5, ei5⟩ := is_v gv12
  obtain rfl : w5 = (.int i5) := Option.some.inj ei5
  obtain ⟨n, o, h1, h2, h3, _, L, rfl, ⟨rfl, N⟩, hq⟩ := rm0 l s _ hw tables_1 i0 i1 i2 i3 i4 i5  s.heap s.heap.size (Nat.le_refl _)  p e ha hc hk s m _ below hf ((Spec.applies_iff_loose hf).mp happ).1 ⟨rfl, State.Warmed39.refl s, rfl⟩ trivial
  refine ⟨n, _, h1, h2, h3, hpost _ _ _ _ _ _ ⟨Cond.after_iff.mpr rfl, Cond.after_iff.mpr (eq_i res_at (Term.int_eval (1)) rfl), trivial⟩ ⟨hq.1, hq.2.1, (hq.2.2.sift fun y hy => Or.inr (N y hy)).mono (by decide) (by decide)⟩⟩
theorem main_1_1 : Claimed_1_1 := comes_1 fun _ _ _ _ _ _ h hF => ⟨h.1, hF⟩
theorem main_1_2 : Claimed_1_2 := comes_1 fun _ _ _ _ _ _ h hF => ⟨h.2.1, hF⟩
end Jvm.Pilot.@@N@@
namespace Jvm.Pilot.@@N@@
open Jvm Jvm.ClassFile Sem Op Lib Jvm.Free Jvm.Stand Jvm.Pilot.@@N@@.Jvm.D
/-! MADE BY PROGRAM (witnessworld.py) out of the Statement's table words and the real class files: 9 classes; the members and pool entries that the words name. The judged class is class 1, her method 1. -/
namespace start1
open Jvm.ClassFile
def u (s : String) : CpInfo := .utf8 (stringToUtf16 s)
/-- a pool by its gaps: so many unusable entries, then the entry; so many at the end -/
def gap : Nat → List CpInfo → List CpInfo
  | 0, r => r
  | n + 1, r => .unusable :: gap n r
def poolList (es : List (Nat × CpInfo)) (last : Nat) : List CpInfo := es.foldr (fun e r => gap e.1 (e.2 :: r)) (gap last [])
def pool (es : List (Nat × CpInfo)) (last : Nat) : Array CpInfo := ⟨poolList es last⟩
def fileOf (pool : Array CpInfo) (this : Nat) (attrs : Array Attribute := #[]) (ms : Array MethodInfo := #[]) (fl : Nat := 33) (sup : Nat := 0) (ifs : Array Nat := #[]) (fds : Array FieldInfo := #[]) : ClassFile where
  minorVersion := 0
  majorVersion := 65
  constantPool := pool
  accessFlags := fl
  thisClass := this
  superClass := sup
  interfaces := ifs
  fields := fds
  methods := ms
  attributes := attrs
def plain (name : String) (sup : Option ClassId) : Class where
  name := name
  kind := .ordinary
  loader := none
  accessFlags := 33
  super := sup
  interfaces := #[]
  cf := none
  fields := #[]
  methods := #[]
  instanceTypes := #[]
  staticTypes := #[]
  resolved := #[]
  callSites := []
  init := .initialized
  statics := none
  mirror := none

def pool0 : Array CpInfo := pool [(5, u "<init>"), (0, u "()V"), (1, .class_ 10), (1, u "java/lang/Object")] 113

def k0c0 : Code := { maxStack := 0, maxLocals := 1, code := object_method_1_code, exceptionTable := #[], attributes := #[] }
def k0m0 : Method := { name := "<init>", desc := "()V", sig := { parameters := [], returnType := none }, accessFlags := 1, code := some k0c0 }
/-- java/lang/Object -/
def k0 : Class := { plain "java/lang/Object" none with
  accessFlags := 33
  interfaces := #[]
  cf := some (fileOf pool0 8 #[] #[{ accessFlags := 1, nameIndex := 5, descriptorIndex := 6, attributes := #[] }] 33 0 #[] #[])
  fields := #[]
  methods := #[k0m0]
  instanceTypes := #[]
  staticTypes := #[]
  resolved := Array.replicate 124 none
  statics := none }

def pool1 : Array CpInfo := pool [(2, .class_ 4), (1, u "java/lang/Object"), (0, u "<init>"), (0, u "()V"), (0, .long 4611686018427387903), (1, .integer 2147483647), (0, .class_ 11), (0, u "com/example/brigid/brigid/core/RetrySchedule"), (0, .methodref 10 13), (0, .nameAndType 5 14), (0, u "(JJ)V"), (0, .methodref 10 16), (0, .nameAndType 17 18), (0, u "allows"), (0, u "(J)Z"), (0, .methodref 10 20), (0, .nameAndType 21 14), (0, u "failed"), (0, .methodref 10 23), (0, .nameAndType 24 6), (0, u "succeeded"), (0, .class_ 26), (0, u "com/example/brigid/brigid/core/RetrySchedulePinLaw"), (2, u "law"), (0, u "(JJJJJI)Z")] 3

def k1m0 : Method := { name := "<init>", desc := "()V", sig := { parameters := [], returnType := none }, accessFlags := 1, code := none }
def k1c1 : Code := { maxStack := 6, maxLocals := 19, code := code, exceptionTable := #[], attributes := #[] }
def k1m1 : Method := { name := "law", desc := "(JJJJJI)Z", sig := { parameters := [.long, .long, .long, .long, .long, .int], returnType := some .boolean }, accessFlags := 9, code := some k1c1 }
/-- com/example/brigid/brigid/core/RetrySchedulePinLaw -/
def k1 : Class := { plain "com/example/brigid/brigid/core/RetrySchedulePinLaw" (some 0) with
  accessFlags := 49
  interfaces := #[]
  cf := some (fileOf pool1 25 #[] #[{ accessFlags := 1, nameIndex := 5, descriptorIndex := 6, attributes := #[] }, { accessFlags := 9, nameIndex := 29, descriptorIndex := 30, attributes := #[] }] 49 2 #[] #[])
  fields := #[]
  methods := #[k1m0, k1m1]
  instanceTypes := #[]
  staticTypes := #[]
  resolved := Array.replicate 34 none
  statics := none }

def pool2 : Array CpInfo := pool [(1, .methodref 2 3), (0, .class_ 4), (0, .nameAndType 5 6), (0, u "java/lang/Object"), (0, u "<init>"), (0, u "()V"), (0, .fieldref 8 9), (0, .class_ 10), (0, .nameAndType 11 12), (0, u "com/example/brigid/brigid/core/RetrySchedule"), (0, u "firstDelayNanos"), (0, u "J"), (0, .fieldref 8 14), (0, .nameAndType 15 12), (0, u "maxDelayNanos"), (0, .fieldref 8 17), (0, .nameAndType 18 19), (0, u "failures"), (0, u "I"), (0, .fieldref 8 21), (0, .nameAndType 22 12), (0, u "nextAttemptAt"), (0, .methodref 8 24), (0, .nameAndType 25 26), (0, u "delay"), (0, u "(I)J"), (0, .fieldref 8 28), (0, .nameAndType 29 12), (0, u "lastFailureAt"), (0, .long 2), (1, u "(JJ)V"), (2, u "allows"), (0, u "(J)Z"), (5, u "failed"), (0, u "succeeded")] 2

def k2c0 : Code := { maxStack := 3, maxLocals := 5, code := prog_12_method_1_code, exceptionTable := #[], attributes := #[] }
def k2m0 : Method := { name := "<init>", desc := "(JJ)V", sig := { parameters := [.long, .long], returnType := none }, accessFlags := 0, code := some k2c0 }
def k2c1 : Code := { maxStack := 4, maxLocals := 3, code := prog_12_method_2_code, exceptionTable := #[], attributes := #[] }
def k2m1 : Method := { name := "allows", desc := "(J)Z", sig := { parameters := [.long], returnType := some .boolean }, accessFlags := 0, code := some k2c1 }
def k2c2 : Code := { maxStack := 5, maxLocals := 5, code := prog_12_method_6_code, exceptionTable := #[], attributes := #[] }
def k2m2 : Method := { name := "failed", desc := "(JJ)V", sig := { parameters := [.long, .long], returnType := none }, accessFlags := 0, code := some k2c2 }
def k2c3 : Code := { maxStack := 2, maxLocals := 1, code := prog_12_method_7_code, exceptionTable := #[], attributes := #[] }
def k2m3 : Method := { name := "succeeded", desc := "()V", sig := { parameters := [], returnType := none }, accessFlags := 0, code := some k2c3 }
def k2c4 : Code := { maxStack := 6, maxLocals := 5, code := prog_12_method_8_code, exceptionTable := #[], attributes := #[] }
def k2m4 : Method := { name := "delay", desc := "(I)J", sig := { parameters := [.int], returnType := some .long }, accessFlags := 2, code := some k2c4 }
/-- com/example/brigid/brigid/core/RetrySchedule -/
def k2 : Class := { plain "com/example/brigid/brigid/core/RetrySchedule" (some 0) with
  accessFlags := 48
  interfaces := #[]
  cf := some (fileOf pool2 8 #[] #[{ accessFlags := 0, nameIndex := 5, descriptorIndex := 32, attributes := #[] }, { accessFlags := 0, nameIndex := 35, descriptorIndex := 36, attributes := #[] }, { accessFlags := 0, nameIndex := 42, descriptorIndex := 32, attributes := #[] }, { accessFlags := 0, nameIndex := 43, descriptorIndex := 6, attributes := #[] }, { accessFlags := 2, nameIndex := 25, descriptorIndex := 26, attributes := #[] }] 48 2 #[] #[{ accessFlags := 18, nameIndex := 11, descriptorIndex := 12, attributes := #[] }, { accessFlags := 18, nameIndex := 15, descriptorIndex := 12, attributes := #[] }, { accessFlags := 2, nameIndex := 18, descriptorIndex := 19, attributes := #[] }, { accessFlags := 2, nameIndex := 29, descriptorIndex := 12, attributes := #[] }, { accessFlags := 2, nameIndex := 22, descriptorIndex := 12, attributes := #[] }])
  fields := #[{ name := "firstDelayNanos", type := .long, accessFlags := 18, slot := 0, constantValue := 0 }, { name := "maxDelayNanos", type := .long, accessFlags := 18, slot := 1, constantValue := 0 }, { name := "failures", type := .int, accessFlags := 2, slot := 2, constantValue := 0 }, { name := "lastFailureAt", type := .long, accessFlags := 2, slot := 3, constantValue := 0 }, { name := "nextAttemptAt", type := .long, accessFlags := 2, slot := 4, constantValue := 0 }]
  methods := #[k2m0, k2m1, k2m2, k2m3, k2m4]
  instanceTypes := #[.long, .long, .int, .long, .long]
  staticTypes := #[]
  resolved := Array.replicate 46 none
  statics := none }

def pool3 : Array CpInfo := pool [(1, u "java/lang/Cloneable"), (0, .class_ 1), (0, u "java/lang/Object"), (0, .class_ 3)] 3

/-- java/lang/Cloneable -/
def k3 : Class := { plain "java/lang/Cloneable" (some 0) with
  accessFlags := 1537
  interfaces := #[]
  cf := some (fileOf pool3 2 #[] #[] 1537 4 #[] #[])
  fields := #[]
  methods := #[]
  instanceTypes := #[]
  staticTypes := #[]
  resolved := Array.replicate 8 none
  statics := none }

def pool4 : Array CpInfo := pool [(1, u "java/io/Serializable"), (0, .class_ 1), (0, u "java/lang/Object"), (0, .class_ 3)] 3

/-- java/io/Serializable -/
def k4 : Class := { plain "java/io/Serializable" (some 0) with
  accessFlags := 1537
  interfaces := #[]
  cf := some (fileOf pool4 2 #[] #[] 1537 4 #[] #[])
  fields := #[]
  methods := #[]
  instanceTypes := #[]
  staticTypes := #[]
  resolved := Array.replicate 8 none
  statics := none }

/-- the primitive byte -/
def k5 : Class := { plain "byte" none with kind := .primitive 'B', accessFlags := 0x411 }
/-- [B -/
def k6 : Class := { plain "[B" (some 0) with kind := .array 5 .byte, interfaces := #[3, 4], accessFlags := 1041 }

/-- the primitive int -/
def k7 : Class := { plain "int" none with kind := .primitive 'I', accessFlags := 0x411 }
/-- [I -/
def k8 : Class := { plain "[I" (some 0) with kind := .array 7 .int, interfaces := #[3, 4], accessFlags := 1041 }

def heap : Heap := #[]
def classes : Array Class := #[k0, k1, k2, k3, k4, k5, k6, k7, k8]
def interned : List (Array UInt16 × Addr) := []
def slotsUsed : Nat := 0
def theMethod : MethodId := ⟨1, 1⟩
def args0 : Array Value := #[.long 5, .long 6, .long 7, .long 8, .long 9, .int 1]
def aboutOver (below : List Frame) : State where
  vm := { classes := classes, interned := interned.toArray }
  heap := heap
  slotsUsed := slotsUsed
  threads := #[{ frames := .invoking theMethod args0 :: below }]
def below0 : List Frame := [.native { method := ⟨0, 0⟩, args := #[] }]
def about1 : State := aboutOver below0
def p0 : Program := .bare "" "" ""
def e0 : Env := launch0.env 0 0 0
theorem w_frames : about1.frames = Frame.invoking theMethod args0 :: below0 := rfl
set_option maxRecDepth 65536 in
theorem w_args : argsFit about1.vm theMethod args0 = true := by decide +kernel
set_option maxRecDepth 65536 in
theorem w_heap : heapFits about1 = true := by decide +kernel
set_option maxRecDepth 65536 in
theorem w_runnable : about1.curStatus? = some .runnable := by decide +kernel
set_option maxRecDepth 65536 in
theorem w_alone : about1.alone = true := by decide +kernel
set_option maxRecDepth 65536 in
theorem w_named : about1.methodNamed? x = some theMethod := by decide +kernel
set_option maxRecDepth 65536 in
theorem w_hears : about1.hears theMethod below0 = true := by decide +kernel
set_option maxRecDepth 65536 in
theorem w_ripe : about1.ripe theMethod args0 below0 = true := by decide +kernel
theorem w_running : about1.status = .running := rfl
set_option maxRecDepth 65536 in
theorem w_room : about1.hasRoom e0.platform room_1 = true :=
  launch0.hasRoom_least _ room_1 (by decide +kernel) (by decide +kernel) (by decide +kernel) (by decide +kernel) (by decide +kernel) (by decide +kernel)
theorem allAtoms_all (ts : List Jvm.Cond) (a : Array Jvm.Value) (st : Jvm.State) : (allAtoms ts).before a st = ts.all (fun c => c.before a st) := by
  induction ts with
  | nil => rfl
  | cons c t ih =>
    show (Jvm.Cond.and c (allAtoms t)).before a st = _
    rw [Jvm.Cond.before_and, ih, List.all_cons]
def words1 : List Jvm.Cond := Jvm.Cond.code x code maxLocals ret :: tables_1
/-- a 'code' word, met by the world's own term for the bytes: nothing is compared byte by byte -/
theorem code_word {y : MethodName} {bytes : ByteArray} {mx : Nat} {rt : Option FieldType} {a : Array Value} {s : State} {m : MethodId} {meth : Method} {c : Code} (h1 : s.methodNamed? y = some m) (h2 : s.vm.method? m = some meth) (h3 : meth.code = some c) (h4 : c.code = bytes)
    (h5 : (c.maxLocals == mx && c.exceptionTable.isEmpty && decide (c.maxStack ≤ mostOperands) && decide (meth.sig.returnType = rt) && !meth.locks && decide (parseMethodDescriptor y.desc = some meth.sig)) = true) : (Jvm.Cond.code y bytes mx rt).before a s = true := by
  simp only [Bool.and_eq_true, beq_iff_eq, Bool.not_eq_true', decide_eq_true_eq] at h5
  obtain ⟨⟨⟨⟨⟨g1, g2⟩, g3⟩, g4⟩, g5⟩, g6⟩ := h5
  simp [Cond.before, Cond.holds, Cond.value, h1, h2, h3, h4, g1, g2, g3, g4, g5, g6]
def isCode : Jvm.Cond → Bool
  | .code _ _ _ _ => true
  | _ => false
theorem all_split {L : List Jvm.Cond} {P : Jvm.Cond → Bool} (h1 : L.all (fun c => isCode c || P c) = true) (h2 : ∀ c ∈ L.filter isCode, P c = true) : L.all P = true := by
  refine List.all_eq_true.mpr fun c hc => ?_
  have h := List.all_eq_true.mp h1 c hc
  rcases Bool.eq_false_or_eq_true (isCode c) with hi | hi
  · exact h2 c (List.mem_filter.mpr ⟨hc, hi⟩)
  · simpa [hi] using h
set_option maxRecDepth 65536 in
theorem w_c0 : (Jvm.Cond.code x code maxLocals ret).before args0 about1 = true := code_word (m := ⟨1, 1⟩) (meth := k1m1) (c := k1c1) (by decide +kernel) rfl rfl rfl (by decide +kernel)
set_option maxRecDepth 65536 in
theorem w_c1 : (Jvm.Cond.code ({ cls := "com/example/brigid/brigid/core/RetrySchedule", name := "<init>", desc := "(JJ)V" } : Jvm.MethodName) prog_12_method_1_code (5 : Nat) (Option.none : Option Jvm.ClassFile.FieldType)).before args0 about1 = true := code_word (m := ⟨2, 0⟩) (meth := k2m0) (c := k2c0) (by decide +kernel) rfl rfl rfl (by decide +kernel)
set_option maxRecDepth 65536 in
theorem w_c2 : (Jvm.Cond.code ({ cls := "java/lang/Object", name := "<init>", desc := "()V" } : Jvm.MethodName) object_method_1_code (1 : Nat) (Option.none : Option Jvm.ClassFile.FieldType)).before args0 about1 = true := code_word (m := ⟨0, 0⟩) (meth := k0m0) (c := k0c0) (by decide +kernel) rfl rfl rfl (by decide +kernel)
set_option maxRecDepth 65536 in
theorem w_c3 : (Jvm.Cond.code ({ cls := "com/example/brigid/brigid/core/RetrySchedule", name := "failed", desc := "(JJ)V" } : Jvm.MethodName) prog_12_method_6_code (5 : Nat) (Option.none : Option Jvm.ClassFile.FieldType)).before args0 about1 = true := code_word (m := ⟨2, 2⟩) (meth := k2m2) (c := k2c2) (by decide +kernel) rfl rfl rfl (by decide +kernel)
set_option maxRecDepth 65536 in
theorem w_c4 : (Jvm.Cond.code ({ cls := "com/example/brigid/brigid/core/RetrySchedule", name := "delay", desc := "(I)J" } : Jvm.MethodName) prog_12_method_8_code (5 : Nat) (Option.some Jvm.ClassFile.FieldType.long)).before args0 about1 = true := code_word (m := ⟨2, 4⟩) (meth := k2m4) (c := k2c4) (by decide +kernel) rfl rfl rfl (by decide +kernel)
set_option maxRecDepth 65536 in
theorem w_c5 : (Jvm.Cond.code ({ cls := "com/example/brigid/brigid/core/RetrySchedule", name := "succeeded", desc := "()V" } : Jvm.MethodName) prog_12_method_7_code (1 : Nat) (Option.none : Option Jvm.ClassFile.FieldType)).before args0 about1 = true := code_word (m := ⟨2, 3⟩) (meth := k2m3) (c := k2c3) (by decide +kernel) rfl rfl rfl (by decide +kernel)
set_option maxRecDepth 65536 in
theorem w_c6 : (Jvm.Cond.code ({ cls := "com/example/brigid/brigid/core/RetrySchedule", name := "allows", desc := "(J)Z" } : Jvm.MethodName) prog_12_method_2_code (3 : Nat) (Option.some Jvm.ClassFile.FieldType.boolean)).before args0 about1 = true := code_word (m := ⟨2, 1⟩) (meth := k2m1) (c := k2c1) (by decide +kernel) rfl rfl rfl (by decide +kernel)
def codes1 : List Jvm.Cond := [Jvm.Cond.code x code maxLocals ret, Jvm.Cond.code ({ cls := "com/example/brigid/brigid/core/RetrySchedule", name := "<init>", desc := "(JJ)V" } : Jvm.MethodName) prog_12_method_1_code (5 : Nat) (Option.none : Option Jvm.ClassFile.FieldType), Jvm.Cond.code ({ cls := "java/lang/Object", name := "<init>", desc := "()V" } : Jvm.MethodName) object_method_1_code (1 : Nat) (Option.none : Option Jvm.ClassFile.FieldType), Jvm.Cond.code ({ cls := "com/example/brigid/brigid/core/RetrySchedule", name := "failed", desc := "(JJ)V" } : Jvm.MethodName) prog_12_method_6_code (5 : Nat) (Option.none : Option Jvm.ClassFile.FieldType), Jvm.Cond.code ({ cls := "com/example/brigid/brigid/core/RetrySchedule", name := "delay", desc := "(I)J" } : Jvm.MethodName) prog_12_method_8_code (5 : Nat) (Option.some Jvm.ClassFile.FieldType.long), Jvm.Cond.code ({ cls := "com/example/brigid/brigid/core/RetrySchedule", name := "succeeded", desc := "()V" } : Jvm.MethodName) prog_12_method_7_code (1 : Nat) (Option.none : Option Jvm.ClassFile.FieldType), Jvm.Cond.code ({ cls := "com/example/brigid/brigid/core/RetrySchedule", name := "allows", desc := "(J)Z" } : Jvm.MethodName) prog_12_method_2_code (3 : Nat) (Option.some Jvm.ClassFile.FieldType.boolean)]
set_option maxRecDepth 65536 in
theorem codes_eq : words1.filter isCode = codes1 := rfl
theorem w_codes : ∀ c ∈ words1.filter isCode, c.before args0 about1 = true := by
  rw [codes_eq]
  intro c hc
  simp only [codes1, List.mem_cons, List.not_mem_nil, or_false] at hc
  rcases hc with rfl | rfl | rfl | rfl | rfl | rfl | rfl
  · exact w_c0
  · exact w_c1
  · exact w_c2
  · exact w_c3
  · exact w_c4
  · exact w_c5
  · exact w_c6
set_option maxRecDepth 65536 in
theorem w_t1 : (words1.take 24).all (fun c => isCode c || c.before args0 about1) = true := by decide +kernel
set_option maxRecDepth 65536 in
theorem w_t2 : (words1.drop 24).all (fun c => isCode c || c.before args0 about1) = true := by decide +kernel
theorem w_tables : (allAtoms (Jvm.Cond.code x code maxLocals ret :: tables_1)).before args0 about1 = true := by
  rw [allAtoms_all]
  show words1.all (fun c => c.before args0 about1) = true
  refine all_split ?_ w_codes
  rw [← List.take_append_drop 24 words1, List.all_append, w_t1, w_t2]
  rfl
set_option maxRecDepth 65536 in
theorem w_case : (Jvm.Cond.and given_1 narrow_1).before args0 about1 = true := by decide +kernel
theorem w_applies : (headSpec (Jvm.Cond.code x code maxLocals ret :: tables_1) room_1).applies x e0.platform about1 = true :=
  (Spec.applies_iff w_frames).mpr ⟨w_running, w_runnable, w_alone, w_named, w_hears, w_ripe, w_room, w_tables⟩
theorem atStart : AtStart classFile x code maxLocals ret World_1 tables_1 room_1 Calls_1 rest_1 Pre_1 launch0 p0 e0 about1 theMethod args0 below0 :=
  ⟨lists_1, trivial, launch0.admits_env _ _ _, launch0.least_env, fairChoices_fair.cas, fairChoices_fair.clock, w_frames, w_args, w_heap, w_applies, trivial, trivial, w_case⟩
end start1
theorem witness_1 : WitnessClaimed_1 := ⟨start1.p0, start1.e0, start1.about1, start1.theMethod, start1.args0, start1.below0, start1.atStart⟩
end Jvm.Pilot.@@N@@
