import JvmDerived
import JvmDerived.Pilot.@@N@@Statement
import JvmDerived.Pilot.@@N@@Code
set_option linter.unusedVariables false
set_option linter.unusedSimpArgs false
namespace Jvm.RoadKit
open Sem ClassFile Op Lib Jvm.Stand Jvm.Free Jvm.LawKit
section New
variable {p : Program} {l : Launch} {e : Env} {R : Room} {s : State} {m : MethodId} {args : Array Value} {below : List Frame} {meth : Method} {c : Code} {T : State} {locs : List Loc} {cells slots : Nat}
theorem retI (X : Stand p l e R s m args below meth c T locs cells slots) (hx : p.tables.exec = Jvm.exec) {pc : Nat} {Ls : Array Slot} {z : Int32} {rest : List Value} (hret : meth.sig.returnType = some .int) (hd : decode c.code pc = .ok (.ireturn, 1)) {fs : List Frame}
    (hl : ∀ (f : JFrame) (acts : List Action), f.method = m → f.locked = none → f.entered = [] → (doReturn e (T.setTop f) acts (some (.int z))).1 = T.setFrames fs) : Steps p.tables e below (T.setTop (mkF m pc Ls (.int z :: rest))) (T.setFrames fs) := by
  have hm' : T.vm.method? m = some meth := X.method'
  have hn : narrow .int (.int z) = .int z := rfl
  show Steps p.tables e below (T.setTop { method := m, pc := pc, locals := Ls, stack := _ :: rest, locked := none }) _
  jvm_step X.here [X.here.top, hx, hd, hm', hret, hn]
  first | (intro acts; rw [hl _ acts rfl rfl rfl]) | rw [hl _ _ rfl rfl rfl]
  exact Steps.refl _
end New
end Jvm.RoadKit
namespace Jvm.Pilot.@@N@@
open Jvm Jvm.ClassFile Sem Op Lib Jvm.Free Jvm.Stand Jvm.LawKit Jvm.RoadKit Bundle Jvm.Pilot.@@N@@.Jvm.D
theorem own_sta_keep {Z : State} {h h' : Heap} {C n d : String} {v : Value} {ws : List Addr} (F : Sta Z h C n d v) (K : Keep h h' ws) (q : ∀ x ∈ ws, ∃ cell : Cell, h[x]? = some cell ∧ cell.vm.isStatics = false) : Sta Z h' C n d v := by
  obtain ⟨cf, i, k, f, st, cell, h1, h2, h3, h4, h5, h6, h7⟩ := F
  refine ⟨cf, i, k, f, st, cell, h1, h2, h3, h4, K.2.1 st cell h5 (fun hm => ?_), h6, h7⟩
  obtain ⟨c2, e1, e2⟩ := q st hm
  cases h5.symm.trans e1
  rw [e2] at h6
  cases h6
theorem own_ns {Z : State} {h : Heap} {x : Addr} {C : String} (E : Exa Z h x C) : ∃ cell : Cell, h[x]? = some cell ∧ cell.vm.isStatics = false := by
  obtain ⟨cell, k, h1, -, -, h4, -⟩ := E
  exact ⟨cell, h1, h4⟩
def own_min (x y : Int64) : Int64 := if y < x then y else x
theorem d2_0 : decode jdk_43_method_3_code 0 = .ok (.iload_n 0, 1) := by decide +kernel
theorem d2_1 : decode jdk_43_method_3_code 1 = .ok (.sipush 255, 3) := by decide +kernel
theorem d2_4 : decode jdk_43_method_3_code 4 = .ok (.if_icmp .gt 7, 3) := by decide +kernel
theorem d2_7 : decode jdk_43_method_3_code 7 = .ok (.iconst 1, 1) := by decide +kernel
theorem d2_8 : decode jdk_43_method_3_code 8 = .ok (.goto 4, 3) := by decide +kernel
theorem d2_12 : decode jdk_43_method_3_code 12 = .ok (.ireturn, 1) := by decide +kernel
theorem pn_2 : plainName "java/lang/StringLatin1" = true := by first | (simp [plainName, overriddenIn]; done) | decide +kernel
theorem ef_2 (m : MethodId) (P0 : Int32) : entryFrame m #[(.int P0)] 1 = mkF m 0 #[.val (.int P0)] [] := by first | (simp [entryFrame, mkF, argsToLocals, Value.category]; done) | rfl
def Q2 (Z : State) (P0 : Int32) (h0 : Heap) (n0 : Nat) (v : Option Value) (h : Heap) (L : List Loc) : Prop := (v = some (.int (1 : Int32))) ∧ (Fr n0 L) ∧ (h = h0)
set_option maxRecDepth 65536 in
set_option maxHeartbeats 40000000 in
theorem rm2 (l : Launch) (Z : State) (a0 : Array Value) (hw : ∀ d ∈ tables_1, d.before a0 Z = true) (ws : List Jvm.Cond) (P0 : Int32) (h0 : Heap) (n0 : Nat) (Z0 : n0 ≤ h0.size) (hle : ¬ ((255 : Int32) < P0)) :
    MetFree l (⟨"java/lang/StringLatin1", "canEncode", "(C)Z"⟩ : MethodName) (head1 (Jvm.Cond.code (⟨"java/lang/StringLatin1", "canEncode", "(C)Z"⟩ : MethodName) jdk_43_method_3_code 1 (some .boolean) :: ws) ({ frames := 0, cells := 0, slots := 0, locals := 0 } : Room)) (fun a U => a = #[(.int P0)] ∧ Z.Warmed39 U.vm ∧ U.heap = h0) (fun _ _ _ _ _ => True) (fun _ U o U' => ∃ v L, o = .returned v ∧ Q2 Z P0 h0 n0 v U'.heap L ∧ FrameEnd U o U' L ({ frames := 0, cells := 0, slots := 0, locals := 0 } : Room).cells ({ frames := 0, cells := 0, slots := 0, locals := 0 } : Room).slots) := by
  refine MetFree.of_bodySF (plainFor_of_name pn_2) hisR ?_
  intro p e s m args below meth c s₁ Bd hml0 hP hK
  obtain ⟨rfl, hZ, hh⟩ := hP
  have hx := Bd.exec
  have hby := Bd.bytes
  have hml : c.maxLocals = 1 := hml0
  have hown : s.vm.findClass "java/lang/StringLatin1" = some m.cls := findClass_of_methodNamed Bd.named
  have hnm := (name_of_methodNamed Bd.named Bd.method).1
  have X0 : Stand p l e ({ frames := 0, cells := 0, slots := 0, locals := 0 } : Room) s m #[(.int P0)] below meth c s₁ [] 0 0 := Stand.of_body Bd
  have e0 : s₁.heap = h0 := by rw [← hh, Bd.state]; rfl
  have N0 := Fr.nil n0
  have pre0 : ∀ t, Steps p.tables e below (s₁.setTop (mkF m 0 #[.val (.int P0)] [])) t → Steps p.tables e below (s₁.setTop (entryFrame m #[(.int P0)] 1)) t := fun t k => castTop (ef_2 m P0) k
  have pre101 : ∀ t, Steps p.tables e below (s₁.setTop (mkF m 12 #[.val (.int P0)] [(.int (1 : Int32))])) t → Steps p.tables e below (s₁.setTop (entryFrame m #[(.int P0)] 1)) t := fun t kt => pre0 t (by
      show Steps p.tables e below (s₁.setTop (mkF m 0 #[.val (.int P0)] [])) _
      refine XS.iloadN X0.here hx rfl (hb hby d2_0) rfl ?_
      show Steps p.tables e below (s₁.setTop (mkF m 1 #[.val (.int P0)] [(.int P0)])) _
      refine XS.sipush X0.here hx rfl (hb hby d2_1) ?_
      show Steps p.tables e below (s₁.setTop (mkF m 4 #[.val (.int P0)] [(.int (255 : Int32)), (.int P0)])) _
      refine XS.icmpNo X0.here hx rfl (hb hby d2_4) rfl (flt (show ¬ ((255 : Int32) < P0) from hle)).2.2.1 ?_
      show Steps p.tables e below (s₁.setTop (mkF m 7 #[.val (.int P0)] [])) _
      refine XS.iconst X0.here hx rfl (hb hby d2_7) ?_
      show Steps p.tables e below (s₁.setTop (mkF m 8 #[.val (.int P0)] [(.int (1 : Int32))])) _
      refine XS.goto X0.here hx rfl (pc0 := 8) (pc' := 12) rfl (hb hby d2_8) (by decide) (by decide) ?_
      exact kt)
  obtain ⟨fs, hr, hrun, hended, hW, hsame⟩ := X0.leave (v := some (.int (1 : Int32))) (fun h => by rw [Bd.returns] at h; cases h)
  refine ⟨_, _, pre101 _ ?_, hrun, hended, _, _, rfl, ?_, ⟨_, rfl⟩, hW, hsame.mono (by decide) (by decide)⟩
  · show Steps p.tables e below (s₁.setTop (mkF m 12 #[.val (.int P0)] [(.int (1 : Int32))])) _
    exact retN X0 hx (t := .boolean) Bd.returns (by simp) (hb hby d2_12) hr
  · show Q2 Z P0 h0 n0 _ s₁.heap _
    rw [e0]
    exact ⟨rfl, N0, rfl⟩
theorem d3_0 : decode jdk_43_method_46_code 0 = .ok (.iconst 1, 1) := by decide +kernel
theorem d3_1 : decode jdk_43_method_46_code 1 = .ok (.newarray .byte, 2) := by decide +kernel
theorem d3_3 : decode jdk_43_method_46_code 3 = .ok (.dup, 1) := by decide +kernel
theorem d3_4 : decode jdk_43_method_46_code 4 = .ok (.iconst 0, 1) := by decide +kernel
theorem d3_5 : decode jdk_43_method_46_code 5 = .ok (.iload_n 0, 1) := by decide +kernel
theorem d3_6 : decode jdk_43_method_46_code 6 = .ok (.i2b, 1) := by decide +kernel
theorem d3_7 : decode jdk_43_method_46_code 7 = .ok (.bastore, 1) := by decide +kernel
theorem d3_8 : decode jdk_43_method_46_code 8 = .ok (.areturn, 1) := by decide +kernel
theorem pn_3 : plainName "java/lang/StringLatin1" = true := by first | (simp [plainName, overriddenIn]; done) | decide +kernel
theorem ef_3 (m : MethodId) (P0 : Int32) : entryFrame m #[(.int P0)] 1 = mkF m 0 #[.val (.int P0)] [] := by first | (simp [entryFrame, mkF, argsToLocals, Value.category]; done) | rfl
def Q3 (Z : State) (P0 : Int32) (h0 : Heap) (n0 : Nat) (v : Option Value) (h : Heap) (L : List Loc) : Prop := ∃ R0 : Addr, ∃ K0 : ClassId, ∃ XV0 : Int32, (v = some (.ref R0)) ∧ (Fr n0 L) ∧ (Keep h0 h []) ∧ (h0.size ≤ R0) ∧ (Arv Z h R0 K0 .byte (1 : Int32) [(.int XV0)] (.int (0 : Int32)))
set_option maxRecDepth 65536 in
set_option maxHeartbeats 40000000 in
theorem rm3 (l : Launch) (Z : State) (a0 : Array Value) (hw : ∀ d ∈ tables_1, d.before a0 Z = true) (ws : List Jvm.Cond) (P0 : Int32) (h0 : Heap) (n0 : Nat) (Z0 : n0 ≤ h0.size) :
    MetFree l (⟨"java/lang/StringLatin1", "toBytes", "(C)[B"⟩ : MethodName) (head1 (Jvm.Cond.code (⟨"java/lang/StringLatin1", "toBytes", "(C)[B"⟩ : MethodName) jdk_43_method_46_code 1 (some (.array .byte)) :: ws) ({ frames := 0, cells := 1, slots := 1, locals := 0 } : Room)) (fun a U => a = #[(.int P0)] ∧ Z.Warmed39 U.vm ∧ U.heap = h0) (fun _ _ _ _ _ => True) (fun _ U o U' => ∃ v L, o = .returned v ∧ Q3 Z P0 h0 n0 v U'.heap L ∧ FrameEnd U o U' L ({ frames := 0, cells := 1, slots := 1, locals := 0 } : Room).cells ({ frames := 0, cells := 1, slots := 1, locals := 0 } : Room).slots) := by
  refine MetFree.of_bodySF (plainFor_of_name pn_3) hisR ?_
  intro p e s m args below meth c s₁ Bd hml0 hP hK
  obtain ⟨rfl, hZ, hh⟩ := hP
  have hx := Bd.exec
  have hby := Bd.bytes
  have hml : c.maxLocals = 1 := hml0
  have hown : s.vm.findClass "java/lang/StringLatin1" = some m.cls := findClass_of_methodNamed Bd.named
  have hnm := (name_of_methodNamed Bd.named Bd.method).1
  have X0 : Stand p l e ({ frames := 0, cells := 1, slots := 1, locals := 0 } : Room) s m #[(.int P0)] below meth c s₁ [] 0 0 := Stand.of_body Bd
  have e0 : s₁.heap = h0 := by rw [← hh, Bd.state]; rfl
  have N0 := Fr.nil n0
  have pre0 : ∀ t, Steps p.tables e below (s₁.setTop (mkF m 0 #[.val (.int P0)] [])) t → Steps p.tables e below (s₁.setTop (entryFrame m #[(.int P0)] 1)) t := fun t k => castTop (ef_3 m P0) k
  have K_0 : Keep h0 h0 [] := Keep.refl h0 _
  obtain ⟨T101, h101, k101, X101, e101, E101, A101, EX101, st101⟩ := newPE X0 hx hZ (hw _ (List.mem_of_getElem? (i := 15) rfl)) e0 (g := (mkF m 1 #[.val (.int P0)] [(.int (1 : Int32))])) rfl (hb hby d3_1) rfl (by decide) (cap := 1) (by decide) (by decide) (by decide) (by decide) (ad := "[B") (by decide)
  obtain ⟨b101, q101⟩ : ∃ z, z = h0.size := ⟨_, rfl⟩
  rw [← q101] at A101 EX101 st101
  have g_b101 : n0 ≤ b101 := Nat.le_trans Z0 (Nat.le_of_eq q101.symm)
  have sz_b101 : h0.size ≤ b101 := Nat.le_trans K_0.1 (Nat.le_of_eq q101.symm)
  have Z102 : n0 ≤ h101.size := Nat.le_trans Z0 E101.1
  have K_102 : Keep h0 h101 [] := K_0.ext E101
  have V101 : Arv Z h101 b101 k101 .byte (1 : Int32) [(.int (0 : Int32))] (.int (0 : Int32)) := (Arv.new A101 (by decide)).pad (pad_rep [] (.int (0 : Int32)) 1)
  obtain ⟨cl103, Ar103, q103, S103, N_103, H103, G103⟩ := id V101
  have hin103 : ¬ ((0 : Int32) < 0 ∨ cl103.slots.size ≤ ((0 : Int32)).toNatClampNeg) := inb_of S103 ⟨by decide, by decide⟩
  obtain ⟨T104, h104, X104, e104, W104, st104⟩ := stB X101 hx hZ e101 Ar103 (j := (0 : Int32)) hin103 (g := (mkF m 7 #[.val (.int P0)] [(.int (P0.toInt8.toInt32)), (.int (0 : Int32)), (.ref b101), (.ref b101)])) rfl rfl (hb hby d3_7)
  have Z105 : n0 ≤ h104.size := Nat.le_trans Z102 (Nat.le_of_eq W104.size.symm)
  have K_105 : Keep h0 h104 [] := K_102.wr W104 (Or.inr sz_b101)
  have V104 : Arv Z h104 b101 k101 .byte (1 : Int32) [(.int ((P0.toInt8.toInt32).toInt8.toInt32))] (.int (0 : Int32)) := Arv.set Ar103 q103 S103 N_103 H103 G103 (fits_nar_byte _) W104 0 rfl (Nat.le_of_ble_eq_true rfl)
  have N104 := Fr.snoc X104 N0 g_b101
  have pre106 : ∀ t, Steps p.tables e below (T104.setTop (mkF m 8 #[.val (.int P0)] [(.ref b101)])) t → Steps p.tables e below (s₁.setTop (entryFrame m #[(.int P0)] 1)) t := fun t kt => pre0 t (by
      show Steps p.tables e below (s₁.setTop (mkF m 0 #[.val (.int P0)] [])) _
      refine XS.iconst X0.here hx rfl (hb hby d3_0) ?_
      show Steps p.tables e below (s₁.setTop (mkF m 1 #[.val (.int P0)] [(.int (1 : Int32))])) _
      refine st101 _ ?_
      show Steps p.tables e below (T101.setTop (mkF m 3 #[.val (.int P0)] [(.ref b101)])) _
      refine XS.dup X101.here hx rfl (hb hby d3_3) rfl rfl ?_
      show Steps p.tables e below (T101.setTop (mkF m 4 #[.val (.int P0)] [(.ref b101), (.ref b101)])) _
      refine XS.iconst X101.here hx rfl (hb hby d3_4) ?_
      show Steps p.tables e below (T101.setTop (mkF m 5 #[.val (.int P0)] [(.int (0 : Int32)), (.ref b101), (.ref b101)])) _
      refine XS.iloadN X101.here hx rfl (hb hby d3_5) rfl ?_
      show Steps p.tables e below (T101.setTop (mkF m 6 #[.val (.int P0)] [(.int P0), (.int (0 : Int32)), (.ref b101), (.ref b101)])) _
      refine XS.i2b X101.here hx rfl (hb hby d3_6) rfl ?_
      show Steps p.tables e below (T101.setTop (mkF m 7 #[.val (.int P0)] [(.int (P0.toInt8.toInt32)), (.int (0 : Int32)), (.ref b101), (.ref b101)])) _
      refine st104 _ ?_
      exact kt)
  obtain ⟨fs, hr, hrun, hended, hW, hsame⟩ := X104.leave (v := some (.ref b101)) (fun h => by rw [Bd.returns] at h; cases h)
  refine ⟨_, _, pre106 _ ?_, hrun, hended, _, _, rfl, ?_, ⟨_, rfl⟩, hW, hsame.mono (by decide) (by decide)⟩
  · show Steps p.tables e below (T104.setTop (mkF m 8 #[.val (.int P0)] [(.ref b101)])) _
    exact retOut X104 hx Bd.returns rfl (Or.inr (Or.inr (Or.inr (Or.inr ⟨rfl, rfl, rfl⟩)))) (hb hby d3_8) hr
  · show Q3 Z P0 h0 n0 _ T104.heap _
    rw [e104]
    exact ⟨b101, k101, ((P0.toInt8.toInt32).toInt8.toInt32), rfl, N104, K_105, sz_b101, V104⟩
theorem d4_0 : decode jdk_42_method_151_code 0 = .ok (.aload_n 0, 1) := by decide +kernel
theorem d4_1 : decode jdk_42_method_151_code 1 = .ok (.invokespecial 1, 3) := by decide +kernel
theorem d4_4 : decode jdk_42_method_151_code 4 = .ok (.aload_n 0, 1) := by decide +kernel
theorem d4_5 : decode jdk_42_method_151_code 5 = .ok (.aload_n 1, 1) := by decide +kernel
theorem d4_6 : decode jdk_42_method_151_code 6 = .ok (.putfield 9, 3) := by decide +kernel
theorem d4_9 : decode jdk_42_method_151_code 9 = .ok (.aload_n 0, 1) := by decide +kernel
theorem d4_10 : decode jdk_42_method_151_code 10 = .ok (.iload_n 2, 1) := by decide +kernel
theorem d4_11 : decode jdk_42_method_151_code 11 = .ok (.putfield 15, 3) := by decide +kernel
theorem d4_14 : decode jdk_42_method_151_code 14 = .ok (.return_, 1) := by decide +kernel
theorem pn_4 : plainName "java/lang/String" = true := by first | (simp [plainName, overriddenIn]; done) | decide +kernel
theorem ef_4 (m : MethodId) (A0 : Addr) (A1 : Addr) (P2 : Int32) : entryFrame m #[(.ref A0), (.ref A1), (.int P2)] 3 = mkF m 0 #[.val (.ref A0), .val (.ref A1), .val (.int P2)] [] := by first | (simp [entryFrame, mkF, argsToLocals, Value.category]; done) | rfl
def Q4 (Z : State) (A0 : Addr) (A1 : Addr) (P2 : Int32) (W0 : Value) (W1 : Int32) (h0 : Heap) (n0 : Nat) (v : Option Value) (h : Heap) (L : List Loc) : Prop := (v = none) ∧ (Fr n0 L) ∧ (Keep h0 h [A0]) ∧ (Exa Z h A0 "java/lang/String") ∧ (Fld Z h A0 "java/lang/String" "value" "[B" (.ref A1)) ∧ (Fld Z h A0 "java/lang/String" "coder" "B" (.int (P2.toInt8.toInt32)))
set_option maxRecDepth 65536 in
set_option maxHeartbeats 40000000 in
theorem rm4 (l : Launch) (Z : State) (a0 : Array Value) (hw : ∀ d ∈ tables_1, d.before a0 Z = true) (ws : List Jvm.Cond) (A0 : Addr) (A1 : Addr) (P2 : Int32) (W0 : Value) (W1 : Int32) (h0 : Heap) (n0 : Nat) (Z0 : n0 ≤ h0.size) (pm0 : Fld Z h0 A0 "java/lang/String" "value" "[B" W0) (pm1 : Fld Z h0 A0 "java/lang/String" "coder" "B" (.int W1)) (pm2 : Exa Z h0 A0 "java/lang/String") (g_A0 : n0 ≤ A0) :
    MetFree l (⟨"java/lang/String", "<init>", "([BB)V"⟩ : MethodName) (head1 (Jvm.Cond.code (⟨"java/lang/String", "<init>", "([BB)V"⟩ : MethodName) jdk_42_method_151_code 3 none :: ws) ({ frames := 1, cells := 0, slots := 0, locals := 12 } : Room)) (fun a U => a = #[(.ref A0), (.ref A1), (.int P2)] ∧ Z.Warmed39 U.vm ∧ U.heap = h0) (fun _ _ _ _ _ => True) (fun _ U o U' => ∃ v L, o = .returned v ∧ Q4 Z A0 A1 P2 W0 W1 h0 n0 v U'.heap L ∧ FrameEnd U o U' L ({ frames := 1, cells := 0, slots := 0, locals := 12 } : Room).cells ({ frames := 1, cells := 0, slots := 0, locals := 12 } : Room).slots) := by
  refine MetFree.of_bodySF (plainFor_of_name pn_4) hisR ?_
  intro p e s m args below meth c s₁ Bd hml0 hP hK
  obtain ⟨rfl, hZ, hh⟩ := hP
  have hx := Bd.exec
  have hby := Bd.bytes
  have hml : c.maxLocals = 3 := hml0
  have hown : s.vm.findClass "java/lang/String" = some m.cls := findClass_of_methodNamed Bd.named
  have hnm := (name_of_methodNamed Bd.named Bd.method).1
  have X0 : Stand p l e ({ frames := 1, cells := 0, slots := 0, locals := 12 } : Room) s m #[(.ref A0), (.ref A1), (.int P2)] below meth c s₁ [] 0 0 := Stand.of_body Bd
  have e0 : s₁.heap = h0 := by rw [← hh, Bd.state]; rfl
  have N0 := Fr.nil n0
  have pre0 : ∀ t, Steps p.tables e below (s₁.setTop (mkF m 0 #[.val (.ref A0), .val (.ref A1), .val (.int P2)] [])) t → Steps p.tables e below (s₁.setTop (entryFrame m #[(.ref A0), (.ref A1), (.int P2)] 3)) t := fun t k => castTop (ef_4 m A0 A1 P2) k
  have K_0 : Keep h0 h0 [A0] := Keep.refl h0 _
  obtain ⟨T101, X101, e101, st101⟩ := initO X0 hx hZ hown (hw _ (List.mem_of_getElem? (i := 20) rfl)) (hw _ (List.mem_of_getElem? (i := 21) rfl)) (hw _ (List.mem_of_getElem? (i := 22) rfl)) e0 (g := (mkF m 1 #[.val (.ref A0), .val (.ref A1), .val (.int P2)] [(.ref A0)])) rfl (by rw [hml]; rfl) rfl (hb hby d4_1) (by decide) (W := 0) (by show 2 * 0 + _ ≤ _; exact Nat.le_of_eq rfl) (by decide)
  obtain ⟨T102, h102, X102, e102, W102, st102⟩ := putF X101 hx hZ hown (host := "") (Or.inl (hw _ (List.mem_of_getElem? (i := 23) rfl))) Via.refl e101 pm0 pm2 (Or.inr ⟨(hw _ (List.mem_of_getElem? (i := 24) rfl)), rfl, hnm⟩) (hw _ (List.mem_of_getElem? (i := 11) rfl)) (ty := (.array .byte)) (by decide) rfl rfl (g := (mkF m 6 #[.val (.ref A0), .val (.ref A1), .val (.int P2)] [(.ref A1), (.ref A0)])) rfl rfl (hb hby d4_6)
  have Z103 : n0 ≤ h102.size := Nat.le_trans Z0 (Nat.le_of_eq W102.size.symm)
  have K_103 : Keep h0 h102 [A0] := K_0.wr W102 (Or.inl (List.mem_of_getElem? (i := 0) rfl))
  have Fw102 : Fld Z h102 A0 "java/lang/String" "value" "[B" (.ref A1) := pm0.same W102
  have N102 := Fr.snoc X102 N0 g_A0
  have c104 : Exa Z h102 A0 "java/lang/String" := (pm2.wr W102)
  have c105 : Fld Z h102 A0 "java/lang/String" "coder" "B" (.int W1) := (pm1.other W102 (Or.inr (slot_ne (Or.inr (hw _ (List.mem_of_getElem? (i := 26) rfl))) (Or.inr (hw _ (List.mem_of_getElem? (i := 24) rfl))) (by decide) (t := .byte) (t' := (.array .byte)) (by decide) (by decide))))
  obtain ⟨T106, h106, X106, e106, W106, st106⟩ := putFN X102 hx hZ hown (hw _ (List.mem_of_getElem? (i := 25) rfl)) Via.refl e102 c105 c104 (Or.inr ⟨(hw _ (List.mem_of_getElem? (i := 26) rfl)), rfl, hnm⟩) (hw _ (List.mem_of_getElem? (i := 11) rfl)) (ty := .byte) (v' := (.int (P2.toInt8.toInt32))) (by decide) rfl (fits_nar_byte _) (g := (mkF m 11 #[.val (.ref A0), .val (.ref A1), .val (.int P2)] [(.int P2), (.ref A0)])) rfl rfl (hb hby d4_11)
  have Z107 : n0 ≤ h106.size := Nat.le_trans Z103 (Nat.le_of_eq W106.size.symm)
  have K_107 : Keep h0 h106 [A0] := K_103.wr W106 (Or.inl (List.mem_of_getElem? (i := 0) rfl))
  have Fw106 : Fld Z h106 A0 "java/lang/String" "coder" "B" (.int (P2.toInt8.toInt32)) := c105.same W106
  have N106 := Fr.snoc X106 N102 g_A0
  have pre108 : ∀ t, Steps p.tables e below (T106.setTop (mkF m 14 #[.val (.ref A0), .val (.ref A1), .val (.int P2)] [])) t → Steps p.tables e below (s₁.setTop (entryFrame m #[(.ref A0), (.ref A1), (.int P2)] 3)) t := fun t kt => pre0 t (by
      show Steps p.tables e below (s₁.setTop (mkF m 0 #[.val (.ref A0), .val (.ref A1), .val (.int P2)] [])) _
      refine XS.aloadN X0.here hx rfl (hb hby d4_0) rfl rfl ?_
      show Steps p.tables e below (s₁.setTop (mkF m 1 #[.val (.ref A0), .val (.ref A1), .val (.int P2)] [(.ref A0)])) _
      refine st101 _ ?_
      show Steps p.tables e below (T101.setTop (mkF m 4 #[.val (.ref A0), .val (.ref A1), .val (.int P2)] [])) _
      refine XS.aloadN X101.here hx rfl (hb hby d4_4) rfl rfl ?_
      show Steps p.tables e below (T101.setTop (mkF m 5 #[.val (.ref A0), .val (.ref A1), .val (.int P2)] [(.ref A0)])) _
      refine XS.aloadN X101.here hx rfl (hb hby d4_5) rfl rfl ?_
      show Steps p.tables e below (T101.setTop (mkF m 6 #[.val (.ref A0), .val (.ref A1), .val (.int P2)] [(.ref A1), (.ref A0)])) _
      refine st102 _ ?_
      show Steps p.tables e below (T102.setTop (mkF m 9 #[.val (.ref A0), .val (.ref A1), .val (.int P2)] [])) _
      refine XS.aloadN X102.here hx rfl (hb hby d4_9) rfl rfl ?_
      show Steps p.tables e below (T102.setTop (mkF m 10 #[.val (.ref A0), .val (.ref A1), .val (.int P2)] [(.ref A0)])) _
      refine XS.iloadN X102.here hx rfl (hb hby d4_10) rfl ?_
      show Steps p.tables e below (T102.setTop (mkF m 11 #[.val (.ref A0), .val (.ref A1), .val (.int P2)] [(.int P2), (.ref A0)])) _
      refine st106 _ ?_
      exact kt)
  have c109 : Exa Z h106 A0 "java/lang/String" := (c104.wr W106)
  have c110 : Fld Z h106 A0 "java/lang/String" "value" "[B" (.ref A1) := (Fw102.other W106 (Or.inr (slot_ne (Or.inr (hw _ (List.mem_of_getElem? (i := 24) rfl))) (Or.inr (hw _ (List.mem_of_getElem? (i := 26) rfl))) (by decide) (t := (.array .byte)) (t' := .byte) (by decide) (by decide))))
  obtain ⟨fs, hr, hrun, hended, hW, hsame⟩ := X106.leave (v := none) (fun _ => rfl)
  refine ⟨_, _, pre108 _ ?_, hrun, hended, _, _, rfl, ?_, ⟨_, rfl⟩, hW, hsame.mono (by decide) (by decide)⟩
  · show Steps p.tables e below (T106.setTop (mkF m 14 #[.val (.ref A0), .val (.ref A1), .val (.int P2)] [])) _
    exact X106.returnOut hx Bd.returns (hb hby d4_14) hr
  · show Q4 Z A0 A1 P2 W0 W1 h0 n0 _ T106.heap _
    rw [e106]
    exact ⟨rfl, N106, K_107, c109, c110, Fw106⟩
theorem d1_0 : decode jdk_42_method_139_code 0 = .ok (.getstatic 38, 3) := by decide +kernel
theorem d1_3 : decode jdk_42_method_139_code 3 = .ok (.ifCond .eq 23, 3) := by decide +kernel
theorem d1_6 : decode jdk_42_method_139_code 6 = .ok (.iload_n 0, 1) := by decide +kernel
theorem d1_7 : decode jdk_42_method_139_code 7 = .ok (.invokestatic 1015, 3) := by decide +kernel
theorem d1_10 : decode jdk_42_method_139_code 10 = .ok (.ifCond .eq 16, 3) := by decide +kernel
theorem d1_13 : decode jdk_42_method_139_code 13 = .ok (.new 10, 3) := by decide +kernel
theorem d1_16 : decode jdk_42_method_139_code 16 = .ok (.dup, 1) := by decide +kernel
theorem d1_17 : decode jdk_42_method_139_code 17 = .ok (.iload_n 0, 1) := by decide +kernel
theorem d1_18 : decode jdk_42_method_139_code 18 = .ok (.invokestatic 1018, 3) := by decide +kernel
theorem d1_21 : decode jdk_42_method_139_code 21 = .ok (.iconst 0, 1) := by decide +kernel
theorem d1_22 : decode jdk_42_method_139_code 22 = .ok (.invokespecial 209, 3) := by decide +kernel
theorem d1_25 : decode jdk_42_method_139_code 25 = .ok (.areturn, 1) := by decide +kernel
theorem pn_1 : plainName "java/lang/String" = true := by first | (simp [plainName, overriddenIn]; done) | decide +kernel
theorem pd_1_0 : parseMethodDescriptor "(C)Z" = some ⟨[.char], some .boolean⟩ := by decide +kernel
theorem pd_1_1 : parseMethodDescriptor "(C)[B" = some ⟨[.char], some (.array .byte)⟩ := by decide +kernel
theorem pd_1_2 : parseMethodDescriptor "([BB)V" = some ⟨[(.array .byte), .byte], none⟩ := by decide +kernel
theorem ef_1 (m : MethodId) (P0 : Int32) : entryFrame m #[(.int P0)] 1 = mkF m 0 #[.val (.int P0)] [] := by first | (simp [entryFrame, mkF, argsToLocals, Value.category]; done) | rfl
def Q1 (Z : State) (P0 : Int32) (W0 : Int32) (h0 : Heap) (n0 : Nat) (v : Option Value) (h : Heap) (L : List Loc) : Prop := ∃ R0 : Addr, ∃ R1 : Addr, ∃ K0 : ClassId, ∃ XV0 : Int32, (v = some (.ref R0)) ∧ (Fr n0 L) ∧ (Keep h0 h []) ∧ (h0.size ≤ R0) ∧ (h0.size ≤ R1) ∧ (Exa Z h R0 "java/lang/String") ∧ (Fld Z h R0 "java/lang/String" "value" "[B" (.ref R1)) ∧ (Fld Z h R0 "java/lang/String" "coder" "B" (.int (0 : Int32))) ∧ (Arv Z h R1 K0 .byte (1 : Int32) [(.int XV0)] (.int (0 : Int32)))
set_option maxRecDepth 65536 in
set_option maxHeartbeats 40000000 in
theorem rm1 (l : Launch) (Z : State) (a0 : Array Value) (hw : ∀ d ∈ tables_1, d.before a0 Z = true) (ws : List Jvm.Cond) (P0 : Int32) (W0 : Int32) (h0 : Heap) (n0 : Nat) (Z0 : n0 ≤ h0.size) (pm0 : Sta Z h0 "java/lang/String" "COMPACT_STRINGS" "Z" (.int W0)) (hcs : ¬ (W0 = (0 : Int32))) (hle : ¬ ((255 : Int32) < P0)) :
    MetFree l (⟨"java/lang/String", "valueOf", "(C)Ljava/lang/String;"⟩ : MethodName) (head1 (Jvm.Cond.code (⟨"java/lang/String", "valueOf", "(C)Ljava/lang/String;"⟩ : MethodName) jdk_42_method_139_code 1 (some (.object "java/lang/String")) :: ws) ({ frames := 2, cells := 2, slots := 5, locals := 27 } : Room)) (fun a U => a = #[(.int P0)] ∧ Z.Warmed39 U.vm ∧ U.heap = h0) (fun _ _ _ _ _ => True) (fun _ U o U' => ∃ v L, o = .returned v ∧ Q1 Z P0 W0 h0 n0 v U'.heap L ∧ FrameEnd U o U' L ({ frames := 2, cells := 2, slots := 5, locals := 27 } : Room).cells ({ frames := 2, cells := 2, slots := 5, locals := 27 } : Room).slots) := by
  refine MetFree.of_bodySF (plainFor_of_name pn_1) hisR ?_
  intro p e s m args below meth c s₁ Bd hml0 hP hK
  obtain ⟨rfl, hZ, hh⟩ := hP
  have hx := Bd.exec
  have hby := Bd.bytes
  have hml : c.maxLocals = 1 := hml0
  have hown : s.vm.findClass "java/lang/String" = some m.cls := findClass_of_methodNamed Bd.named
  have hnm := (name_of_methodNamed Bd.named Bd.method).1
  have X0 : Stand p l e ({ frames := 2, cells := 2, slots := 5, locals := 27 } : Room) s m #[(.int P0)] below meth c s₁ [] 0 0 := Stand.of_body Bd
  have e0 : s₁.heap = h0 := by rw [← hh, Bd.state]; rfl
  have N0 := Fr.nil n0
  have pre0 : ∀ t, Steps p.tables e below (s₁.setTop (mkF m 0 #[.val (.int P0)] [])) t → Steps p.tables e below (s₁.setTop (entryFrame m #[(.int P0)] 1)) t := fun t k => castTop (ef_1 m P0) k
  have K_0 : Keep h0 h0 [] := Keep.refl h0 _
  obtain ⟨T101, X101, e101, st101⟩ := getS2 X0 hx hZ hown (host := "") (Or.inl (hw _ (List.mem_of_getElem? (i := 5) rfl))) Via.refl e0 pm0 (g := (mkF m 0 #[.val (.int P0)] [])) rfl (hb hby d1_0)
  obtain ⟨_, _, ⟨T102, L102, k102, n102⟩, -, X102, ⟨Lc102, hQ102, l102, y102, z102⟩, st102⟩ := Jvm.LawKit.callS X101 hx (y := (⟨"java/lang/StringLatin1", "canEncode", "(C)Z"⟩ : MethodName)) hown (mvT hZ (hw _ (List.mem_of_getElem? (i := 6) rfl))) (mvT hZ (hw _ (List.mem_of_getElem? (i := 7) rfl))) (mvT hZ (hw _ (List.mem_of_getElem? (i := 8) rfl))) (mvT hZ (hw _ (List.mem_of_getElem? (i := 9) rfl))) (by decide) (backOf (W := 0) (rm2 l Z a0 hw [] P0 h0 n0 Z0 (show ¬ ((255 : Int32) < P0) from hle)) hZ (hw _ (List.mem_of_getElem? (i := 9) rfl)) (hw _ (List.mem_of_getElem? (i := 8) rfl)) (by decide) (by decide)) (g := (mkF m 7 #[.val (.int P0)] [(.int P0)])) rfl (by rw [hml]; rfl) (argsL := [(.int P0)]) (rest := []) (lenOf pd_1_0 rfl) rfl (by show 2 * 0 + _ ≤ _; exact Nat.le_of_eq rfl) (hb hby d1_7) (fun _ _ => ⟨rfl, e101, (by decide : 0 + 0 ≤ _), (by decide : 0 + 0 ≤ _)⟩)
  dsimp only [Pt.U, Pt.locs, Pt.cells, Pt.slots] at X102 l102 y102 z102 st102 hQ102
  subst l102 y102 z102
  obtain ⟨rfl, N102q, K102⟩ := hQ102
  have N102 := Fr.app N0 N102q
  obtain ⟨T103, h103, X103, e103, E103, A103, D103, -, st103⟩ := newO X102 hx hZ hown (hw _ (List.mem_of_getElem? (i := 10) rfl)) (hw _ (List.mem_of_getElem? (i := 11) rfl)) (hw _ (List.mem_of_getElem? (i := 3) rfl)) K102 (g := (mkF m 13 #[.val (.int P0)] [])) rfl (hb hby d1_13) (by decide) (by decide)
  obtain ⟨b103, q103⟩ : ∃ z, z = h0.size := ⟨_, rfl⟩
  rw [← q103] at A103 D103 st103
  have g_b103 : n0 ≤ b103 := Nat.le_trans Z0 (Nat.le_of_eq q103.symm)
  have sz_b103 : h0.size ≤ b103 := Nat.le_trans K_0.1 (Nat.le_of_eq q103.symm)
  have Z104 : n0 ≤ h103.size := Nat.le_trans Z0 E103.1
  have K_104 : Keep h0 h103 [] := K_0.ext E103
  have F103_24 : Fld Z h103 b103 "java/lang/String" "value" "[B" .null := D103 (Or.inr (hw _ (List.mem_of_getElem? (i := 24) rfl))) (ty := (.array .byte)) (by decide)
  have F103_26 : Fld Z h103 b103 "java/lang/String" "coder" "B" (.int (0 : Int32)) := D103 (Or.inr (hw _ (List.mem_of_getElem? (i := 26) rfl))) (ty := .byte) (by decide)
  have c105 : Sta Z h103 "java/lang/String" "COMPACT_STRINGS" "Z" (.int W0) := (pm0.ext E103)
  obtain ⟨_, _, ⟨T106, L106, k106, n106⟩, -, X106, ⟨Lc106, hQ106, l106, y106, z106⟩, st106⟩ := Jvm.LawKit.callS X103 hx (y := (⟨"java/lang/StringLatin1", "toBytes", "(C)[B"⟩ : MethodName)) hown (mvT hZ (hw _ (List.mem_of_getElem? (i := 12) rfl))) (mvT hZ (hw _ (List.mem_of_getElem? (i := 13) rfl))) (mvT hZ (hw _ (List.mem_of_getElem? (i := 8) rfl))) (mvT hZ (hw _ (List.mem_of_getElem? (i := 14) rfl))) (by decide) (backOf (W := 2) (rm3 l Z a0 hw [] P0 h103 n0 Z104 ) hZ (hw _ (List.mem_of_getElem? (i := 14) rfl)) (hw _ (List.mem_of_getElem? (i := 8) rfl)) (by decide) (by decide)) (g := (mkF m 18 #[.val (.int P0)] [(.int P0), (.ref b103), (.ref b103)])) rfl (by rw [hml]; rfl) (argsL := [(.int P0)]) (rest := [(.ref b103), (.ref b103)]) (lenOf pd_1_1 rfl) rfl (by show 2 * 0 + _ ≤ _; exact Nat.le_of_eq rfl) (hb hby d1_18) (fun _ _ => ⟨rfl, e103, (by decide : 1 + 1 ≤ _), (by decide : 4 + 1 ≤ _)⟩)
  dsimp only [Pt.U, Pt.locs, Pt.cells, Pt.slots] at X106 l106 y106 z106 st106 hQ106
  subst l106 y106 z106
  obtain ⟨x106_R0, x106_K0, x106_XV0, rfl, N106q, K106, lb106_0, p106_0⟩ := hQ106
  have N106 := Fr.app N102 N106q
  have ne107 : b103 ≠ x106_R0 := Nat.ne_of_lt (Nat.lt_of_lt_of_le A103.lt lb106_0)
  have g_x106_R0 : n0 ≤ x106_R0 := Nat.le_trans Z104 lb106_0
  have sz_x106_R0 : h0.size ≤ x106_R0 := Nat.le_trans K_104.1 lb106_0
  have Z108 : n0 ≤ T106.heap.size := Nat.le_trans Z104 K106.1
  have K_108 : Keep h0 T106.heap [] := K_104.trans K106 all0
  have ss106_0 : Sta Z T106.heap "java/lang/String" "COMPACT_STRINGS" "Z" (.int W0) := own_sta_keep c105 K106 all0
  have c109 : Fld Z T106.heap b103 "java/lang/String" "value" "[B" .null := (F103_24.keep K106 nin0)
  have c110 : Fld Z T106.heap b103 "java/lang/String" "coder" "B" (.int (0 : Int32)) := (F103_26.keep K106 nin0)
  have c111 : Exa Z T106.heap b103 "java/lang/String" := (A103.keep K106)
  obtain ⟨_, _, ⟨T112, L112, k112, n112⟩, -, X112, ⟨Lc112, hQ112, l112, y112, z112⟩, st112⟩ := X106.specialBack hx (y := (⟨"java/lang/String", "<init>", "([BB)V"⟩ : MethodName)) rfl hown (mvT hZ (hw _ (List.mem_of_getElem? (i := 16) rfl))) (mvT hZ (hw _ (List.mem_of_getElem? (i := 17) rfl))) (mvT hZ (hw _ (List.mem_of_getElem? (i := 19) rfl))) (by decide) (backOf (W := 1) (rm4 l Z a0 hw [] b103 x106_R0 (0 : Int32) .null (0 : Int32) T106.heap n0 Z108 c109 c110 c111 g_b103) hZ (hw _ (List.mem_of_getElem? (i := 19) rfl)) (hw _ (List.mem_of_getElem? (i := 3) rfl)) (by decide) (by decide)) (g := (mkF m 22 #[.val (.int P0)] [(.int (0 : Int32)), (.ref x106_R0), (.ref b103), (.ref b103)])) rfl (by rw [hml]; rfl) (Steps.refl _) (a := b103) (argsL := [(.ref x106_R0), (.int (0 : Int32))]) (rest := [(.ref b103)]) (lenOf pd_1_2 rfl) rfl (by show 2 * 0 + _ ≤ _; exact Nat.le_of_eq rfl) (hb hby d1_22) (fun _ _ => ⟨rfl, rfl, (by decide : 2 + 0 ≤ _), (by decide : 5 + 0 ≤ _)⟩)
  dsimp only [Pt.U, Pt.locs, Pt.cells, Pt.slots] at X112 l112 y112 z112 st112 hQ112
  subst l112 y112 z112
  obtain ⟨rfl, N112q, K112, p112_0, p112_1, p112_2⟩ := hQ112
  have N112 := Fr.app N106 N112q
  have Z113 : n0 ≤ T112.heap.size := Nat.le_trans Z108 K112.1
  have K_113 : Keep h0 T112.heap [] := K_108.trans K112 (allS (Or.inr sz_b103) all0)
  have ss112_0 : Sta Z T112.heap "java/lang/String" "COMPACT_STRINGS" "Z" (.int W0) := own_sta_keep ss106_0 K112 (allS (own_ns c111) all0)
  have pre114 : ∀ t, Steps p.tables e below (T112.setTop (mkF m 25 #[.val (.int P0)] [(.ref b103)])) t → Steps p.tables e below (s₁.setTop (entryFrame m #[(.int P0)] 1)) t := fun t kt => pre0 t (by
      show Steps p.tables e below (s₁.setTop (mkF m 0 #[.val (.int P0)] [])) _
      refine st101 _ ?_
      show Steps p.tables e below (T101.setTop (mkF m 3 #[.val (.int P0)] [(.int W0)])) _
      refine XS.ifNo X101.here hx rfl (hb hby d1_3) rfl ((if0 _ _).trans (feq hcs).1) ?_
      show Steps p.tables e below (T101.setTop (mkF m 6 #[.val (.int P0)] [])) _
      refine XS.iloadN X101.here hx rfl (hb hby d1_6) rfl ?_
      show Steps p.tables e below (T101.setTop (mkF m 7 #[.val (.int P0)] [(.int P0)])) _
      refine st102 _ ?_
      show Steps p.tables e below (T102.setTop (mkF m 10 #[.val (.int P0)] [(.int (1 : Int32))])) _
      refine XS.ifNo X102.here hx rfl (hb hby d1_10) rfl ((if0 _ _).trans (feq (show ¬ ((1 : Int32) = (0 : Int32)) from (by decide))).1) ?_
      show Steps p.tables e below (T102.setTop (mkF m 13 #[.val (.int P0)] [])) _
      refine st103 _ ?_
      show Steps p.tables e below (T103.setTop (mkF m 16 #[.val (.int P0)] [(.ref b103)])) _
      refine XS.dup X103.here hx rfl (hb hby d1_16) rfl rfl ?_
      show Steps p.tables e below (T103.setTop (mkF m 17 #[.val (.int P0)] [(.ref b103), (.ref b103)])) _
      refine XS.iloadN X103.here hx rfl (hb hby d1_17) rfl ?_
      show Steps p.tables e below (T103.setTop (mkF m 18 #[.val (.int P0)] [(.int P0), (.ref b103), (.ref b103)])) _
      refine st106 _ ?_
      show Steps p.tables e below (T106.setTop (mkF m 21 #[.val (.int P0)] [(.ref x106_R0), (.ref b103), (.ref b103)])) _
      refine XS.iconst X106.here hx rfl (hb hby d1_21) ?_
      show Steps p.tables e below (T106.setTop (mkF m 22 #[.val (.int P0)] [(.int (0 : Int32)), (.ref x106_R0), (.ref b103), (.ref b103)])) _
      refine st112.trans ?_
      exact kt)
  have hcd : ((0 : Int32).toInt8.toInt32) = (0 : Int32) := by decide
  have hcc := p112_2
  rw [hcd] at hcc
  have c115 : Arv Z T112.heap x106_R0 x106_K0 .byte (1 : Int32) [(.int x106_XV0)] (.int (0 : Int32)) := (p106_0.keep K112 (ninS (Ne.symm ne107) nin0))
  obtain ⟨fs, hr, hrun, hended, hW, hsame⟩ := X112.leave (v := some (.ref b103)) (fun h => by rw [Bd.returns] at h; cases h)
  refine ⟨_, _, pre114 _ ?_, hrun, hended, _, _, rfl, ?_, ⟨_, rfl⟩, hW, hsame.mono (by decide) (by decide)⟩
  · show Steps p.tables e below (T112.setTop (mkF m 25 #[.val (.int P0)] [(.ref b103)])) _
    exact retOut X112 hx Bd.returns rfl (Or.inr (Or.inr (Or.inr (Or.inr ⟨rfl, rfl, rfl⟩)))) (hb hby d1_25) hr
  · show Q1 Z P0 W0 h0 n0 _ T112.heap _
    exact ⟨b103, x106_R0, x106_K0, x106_XV0, rfl, N112, K_113, sz_b103, sz_x106_R0, p112_0, p112_1, hcc, c115⟩
theorem d12_0 : decode jdk_42_method_55_code 0 = .ok (.aload_n 0, 1) := by decide +kernel
theorem d12_1 : decode jdk_42_method_55_code 1 = .ok (.getfield 9, 3) := by decide +kernel
theorem d12_4 : decode jdk_42_method_55_code 4 = .ok (.arraylength, 1) := by decide +kernel
theorem d12_5 : decode jdk_42_method_55_code 5 = .ok (.ifCond .ne 7, 3) := by decide +kernel
theorem d12_12 : decode jdk_42_method_55_code 12 = .ok (.iconst 0, 1) := by decide +kernel
theorem d12_13 : decode jdk_42_method_55_code 13 = .ok (.ireturn, 1) := by decide +kernel
theorem pn_12 : plainName "java/lang/String" = true := by first | (simp [plainName, overriddenIn]; done) | decide +kernel
theorem ef_12 (m : MethodId) (A0 : Addr) : entryFrame m #[(.ref A0)] 1 = mkF m 0 #[.val (.ref A0)] [] := by first | (simp [entryFrame, mkF, argsToLocals, Value.category]; done) | rfl
def Q12 (Z : State) (A0 : Addr) (W0 : Addr) (K0 : ClassId) (XV0 : Int32) (h0 : Heap) (n0 : Nat) (v : Option Value) (h : Heap) (L : List Loc) : Prop := (v = some (.int (0 : Int32))) ∧ (Fr n0 L) ∧ (h = h0)
set_option maxRecDepth 65536 in
set_option maxHeartbeats 40000000 in
theorem rm12 (l : Launch) (Z : State) (a0 : Array Value) (hw : ∀ d ∈ tables_1, d.before a0 Z = true) (ws : List Jvm.Cond) (A0 : Addr) (W0 : Addr) (K0 : ClassId) (XV0 : Int32) (h0 : Heap) (n0 : Nat) (Z0 : n0 ≤ h0.size) (pm0 : Fld Z h0 A0 "java/lang/String" "value" "[B" (.ref W0)) (pm1 : Arv Z h0 W0 K0 .byte (1 : Int32) [(.int XV0)] (.int (0 : Int32))) :
    MetFree l (⟨"java/lang/String", "isEmpty", "()Z"⟩ : MethodName) (head1 (Jvm.Cond.code (⟨"java/lang/String", "isEmpty", "()Z"⟩ : MethodName) jdk_42_method_55_code 1 (some .boolean) :: ws) ({ frames := 0, cells := 0, slots := 0, locals := 0 } : Room)) (fun a U => a = #[(.ref A0)] ∧ Z.Warmed39 U.vm ∧ U.heap = h0) (fun _ _ _ _ _ => True) (fun _ U o U' => ∃ v L, o = .returned v ∧ Q12 Z A0 W0 K0 XV0 h0 n0 v U'.heap L ∧ FrameEnd U o U' L ({ frames := 0, cells := 0, slots := 0, locals := 0 } : Room).cells ({ frames := 0, cells := 0, slots := 0, locals := 0 } : Room).slots) := by
  refine MetFree.of_bodySF (plainFor_of_name pn_12) hisR ?_
  intro p e s m args below meth c s₁ Bd hml0 hP hK
  obtain ⟨rfl, hZ, hh⟩ := hP
  have hx := Bd.exec
  have hby := Bd.bytes
  have hml : c.maxLocals = 1 := hml0
  have hown : s.vm.findClass "java/lang/String" = some m.cls := findClass_of_methodNamed Bd.named
  have hnm := (name_of_methodNamed Bd.named Bd.method).1
  have X0 : Stand p l e ({ frames := 0, cells := 0, slots := 0, locals := 0 } : Room) s m #[(.ref A0)] below meth c s₁ [] 0 0 := Stand.of_body Bd
  have e0 : s₁.heap = h0 := by rw [← hh, Bd.state]; rfl
  have N0 := Fr.nil n0
  have pre0 : ∀ t, Steps p.tables e below (s₁.setTop (mkF m 0 #[.val (.ref A0)] [])) t → Steps p.tables e below (s₁.setTop (entryFrame m #[(.ref A0)] 1)) t := fun t k => castTop (ef_12 m A0) k
  obtain ⟨T101, X101, e101, st101⟩ := getF X0 hx hZ hown (host := "") (Or.inl (hw _ (List.mem_of_getElem? (i := 23) rfl))) Via.refl e0 pm0 (g := (mkF m 1 #[.val (.ref A0)] [(.ref A0)])) rfl rfl (hb hby d12_1)
  obtain ⟨cl102, Ar102, -, S102, N_102, -, -⟩ := id pm1
  have pre103 : ∀ t, Steps p.tables e below (T101.setTop (mkF m 13 #[.val (.ref A0)] [(.int (0 : Int32))])) t → Steps p.tables e below (s₁.setTop (entryFrame m #[(.ref A0)] 1)) t := fun t kt => pre0 t (by
      show Steps p.tables e below (s₁.setTop (mkF m 0 #[.val (.ref A0)] [])) _
      refine XS.aloadN X0.here hx rfl (hb hby d12_0) rfl rfl ?_
      show Steps p.tables e below (s₁.setTop (mkF m 1 #[.val (.ref A0)] [(.ref A0)])) _
      refine st101 _ ?_
      show Steps p.tables e below (T101.setTop (mkF m 4 #[.val (.ref A0)] [(.ref W0)])) _
      refine X101.arraylength hx (by rw [e101]; exact Ar102.1) (State.isArrayOf_alike hZ.alike Ar102.2.1) (g := (mkF m 4 #[.val (.ref A0)] [(.ref W0)])) rfl rfl (hb hby d12_4) _ ?_
      rw [len_of S102 N_102]
      show Steps p.tables e below (T101.setTop (mkF m 5 #[.val (.ref A0)] [(.int (1 : Int32))])) _
      refine XS.ifYes X101.here hx rfl (pc0 := 5) (pc' := 12) rfl (hb hby d12_5) rfl ((if0 _ _).trans (feq (show ¬ ((1 : Int32) = (0 : Int32)) from (by decide))).2) (by decide) (by decide) ?_
      show Steps p.tables e below (T101.setTop (mkF m 12 #[.val (.ref A0)] [])) _
      refine XS.iconst X101.here hx rfl (hb hby d12_12) ?_
      exact kt)
  obtain ⟨fs, hr, hrun, hended, hW, hsame⟩ := X101.leave (v := some (.int (0 : Int32))) (fun h => by rw [Bd.returns] at h; cases h)
  refine ⟨_, _, pre103 _ ?_, hrun, hended, _, _, rfl, ?_, ⟨_, rfl⟩, hW, hsame.mono (by decide) (by decide)⟩
  · show Steps p.tables e below (T101.setTop (mkF m 13 #[.val (.ref A0)] [(.int (0 : Int32))])) _
    exact retN X101 hx (t := .boolean) Bd.returns (by simp) (hb hby d12_13) hr
  · show Q12 Z A0 W0 K0 XV0 h0 n0 _ T101.heap _
    rw [e101]
    exact ⟨rfl, N0, rfl⟩
theorem d15_0 : decode jdk_42_method_152_code 0 = .ok (.getstatic 38, 3) := by decide +kernel
theorem d15_3 : decode jdk_42_method_152_code 3 = .ok (.ifCond .eq 10, 3) := by decide +kernel
theorem d15_6 : decode jdk_42_method_152_code 6 = .ok (.aload_n 0, 1) := by decide +kernel
theorem d15_7 : decode jdk_42_method_152_code 7 = .ok (.getfield 15, 3) := by decide +kernel
theorem d15_10 : decode jdk_42_method_152_code 10 = .ok (.goto 4, 3) := by decide +kernel
theorem d15_14 : decode jdk_42_method_152_code 14 = .ok (.ireturn, 1) := by decide +kernel
theorem pn_15 : plainName "java/lang/String" = true := by first | (simp [plainName, overriddenIn]; done) | decide +kernel
theorem ef_15 (m : MethodId) (A0 : Addr) : entryFrame m #[(.ref A0)] 1 = mkF m 0 #[.val (.ref A0)] [] := by first | (simp [entryFrame, mkF, argsToLocals, Value.category]; done) | rfl
def Q15 (Z : State) (A0 : Addr) (W1 : Int32) (h0 : Heap) (n0 : Nat) (v : Option Value) (h : Heap) (L : List Loc) : Prop := (v = some (.int (0 : Int32))) ∧ (Fr n0 L) ∧ (h = h0)
set_option maxRecDepth 65536 in
set_option maxHeartbeats 40000000 in
theorem rm15 (l : Launch) (Z : State) (a0 : Array Value) (hw : ∀ d ∈ tables_1, d.before a0 Z = true) (ws : List Jvm.Cond) (A0 : Addr) (W1 : Int32) (h0 : Heap) (n0 : Nat) (Z0 : n0 ≤ h0.size) (pm0 : Fld Z h0 A0 "java/lang/String" "coder" "B" (.int (0 : Int32))) (pm1 : Sta Z h0 "java/lang/String" "COMPACT_STRINGS" "Z" (.int W1)) (hcs : ¬ (W1 = (0 : Int32))) :
    MetFree l (⟨"java/lang/String", "coder", "()B"⟩ : MethodName) (head1 (Jvm.Cond.code (⟨"java/lang/String", "coder", "()B"⟩ : MethodName) jdk_42_method_152_code 1 (some .byte) :: ws) ({ frames := 0, cells := 0, slots := 0, locals := 0 } : Room)) (fun a U => a = #[(.ref A0)] ∧ Z.Warmed39 U.vm ∧ U.heap = h0) (fun _ _ _ _ _ => True) (fun _ U o U' => ∃ v L, o = .returned v ∧ Q15 Z A0 W1 h0 n0 v U'.heap L ∧ FrameEnd U o U' L ({ frames := 0, cells := 0, slots := 0, locals := 0 } : Room).cells ({ frames := 0, cells := 0, slots := 0, locals := 0 } : Room).slots) := by
  refine MetFree.of_bodySF (plainFor_of_name pn_15) hisR ?_
  intro p e s m args below meth c s₁ Bd hml0 hP hK
  obtain ⟨rfl, hZ, hh⟩ := hP
  have hx := Bd.exec
  have hby := Bd.bytes
  have hml : c.maxLocals = 1 := hml0
  have hown : s.vm.findClass "java/lang/String" = some m.cls := findClass_of_methodNamed Bd.named
  have hnm := (name_of_methodNamed Bd.named Bd.method).1
  have X0 : Stand p l e ({ frames := 0, cells := 0, slots := 0, locals := 0 } : Room) s m #[(.ref A0)] below meth c s₁ [] 0 0 := Stand.of_body Bd
  have e0 : s₁.heap = h0 := by rw [← hh, Bd.state]; rfl
  have N0 := Fr.nil n0
  have pre0 : ∀ t, Steps p.tables e below (s₁.setTop (mkF m 0 #[.val (.ref A0)] [])) t → Steps p.tables e below (s₁.setTop (entryFrame m #[(.ref A0)] 1)) t := fun t k => castTop (ef_15 m A0) k
  obtain ⟨T101, X101, e101, st101⟩ := getS2 X0 hx hZ hown (host := "") (Or.inl (hw _ (List.mem_of_getElem? (i := 5) rfl))) Via.refl e0 pm1 (g := (mkF m 0 #[.val (.ref A0)] [])) rfl (hb hby d15_0)
  obtain ⟨T102, X102, e102, st102⟩ := getF X101 hx hZ hown (host := "") (Or.inl (hw _ (List.mem_of_getElem? (i := 25) rfl))) Via.refl e101 pm0 (g := (mkF m 7 #[.val (.ref A0)] [(.ref A0)])) rfl rfl (hb hby d15_7)
  have pre103 : ∀ t, Steps p.tables e below (T102.setTop (mkF m 14 #[.val (.ref A0)] [(.int (0 : Int32))])) t → Steps p.tables e below (s₁.setTop (entryFrame m #[(.ref A0)] 1)) t := fun t kt => pre0 t (by
      show Steps p.tables e below (s₁.setTop (mkF m 0 #[.val (.ref A0)] [])) _
      refine st101 _ ?_
      show Steps p.tables e below (T101.setTop (mkF m 3 #[.val (.ref A0)] [(.int W1)])) _
      refine XS.ifNo X101.here hx rfl (hb hby d15_3) rfl ((if0 _ _).trans (feq hcs).1) ?_
      show Steps p.tables e below (T101.setTop (mkF m 6 #[.val (.ref A0)] [])) _
      refine XS.aloadN X101.here hx rfl (hb hby d15_6) rfl rfl ?_
      show Steps p.tables e below (T101.setTop (mkF m 7 #[.val (.ref A0)] [(.ref A0)])) _
      refine st102 _ ?_
      show Steps p.tables e below (T102.setTop (mkF m 10 #[.val (.ref A0)] [(.int (0 : Int32))])) _
      refine XS.goto X102.here hx rfl (pc0 := 10) (pc' := 14) rfl (hb hby d15_10) (by decide) (by decide) ?_
      exact kt)
  obtain ⟨fs, hr, hrun, hended, hW, hsame⟩ := X102.leave (v := some (.int (0 : Int32))) (fun h => by rw [Bd.returns] at h; cases h)
  refine ⟨_, _, pre103 _ ?_, hrun, hended, _, _, rfl, ?_, ⟨_, rfl⟩, hW, hsame.mono (by decide) (by decide)⟩
  · show Steps p.tables e below (T102.setTop (mkF m 14 #[.val (.ref A0)] [(.int (0 : Int32))])) _
    exact retN X102 hx (t := .byte) Bd.returns (by simp) (hb hby d15_14) hr
  · show Q15 Z A0 W1 h0 n0 _ T102.heap _
    rw [e102]
    exact ⟨rfl, N0, rfl⟩
theorem d14_0 : decode jdk_42_method_54_code 0 = .ok (.aload_n 0, 1) := by decide +kernel
theorem d14_1 : decode jdk_42_method_54_code 1 = .ok (.getfield 9, 3) := by decide +kernel
theorem d14_4 : decode jdk_42_method_54_code 4 = .ok (.arraylength, 1) := by decide +kernel
theorem d14_5 : decode jdk_42_method_54_code 5 = .ok (.aload_n 0, 1) := by decide +kernel
theorem d14_6 : decode jdk_42_method_54_code 6 = .ok (.invokevirtual 335, 3) := by decide +kernel
theorem d14_9 : decode jdk_42_method_54_code 9 = .ok (.ishr, 1) := by decide +kernel
theorem d14_10 : decode jdk_42_method_54_code 10 = .ok (.ireturn, 1) := by decide +kernel
theorem pn_14 : plainName "java/lang/String" = true := by first | (simp [plainName, overriddenIn]; done) | decide +kernel
theorem pd_14_0 : parseMethodDescriptor "()B" = some ⟨[], some .byte⟩ := by decide +kernel
theorem ef_14 (m : MethodId) (A0 : Addr) : entryFrame m #[(.ref A0)] 1 = mkF m 0 #[.val (.ref A0)] [] := by first | (simp [entryFrame, mkF, argsToLocals, Value.category]; done) | rfl
def Q14 (Z : State) (A0 : Addr) (W0 : Addr) (K0 : ClassId) (XV0 : Int32) (W1 : Int32) (h0 : Heap) (n0 : Nat) (v : Option Value) (h : Heap) (L : List Loc) : Prop := (v = some (.int (1 : Int32))) ∧ (Fr n0 L) ∧ (h = h0)
set_option maxRecDepth 65536 in
set_option maxHeartbeats 40000000 in
theorem rm14 (l : Launch) (Z : State) (a0 : Array Value) (hw : ∀ d ∈ tables_1, d.before a0 Z = true) (ws : List Jvm.Cond) (A0 : Addr) (W0 : Addr) (K0 : ClassId) (XV0 : Int32) (W1 : Int32) (h0 : Heap) (n0 : Nat) (Z0 : n0 ≤ h0.size) (pm0 : Exa Z h0 A0 "java/lang/String") (pm1 : Fld Z h0 A0 "java/lang/String" "value" "[B" (.ref W0)) (pm2 : Fld Z h0 A0 "java/lang/String" "coder" "B" (.int (0 : Int32))) (pm3 : Arv Z h0 W0 K0 .byte (1 : Int32) [(.int XV0)] (.int (0 : Int32))) (pm4 : Sta Z h0 "java/lang/String" "COMPACT_STRINGS" "Z" (.int W1)) (hcs : ¬ (W1 = (0 : Int32))) :
    MetFree l (⟨"java/lang/String", "length", "()I"⟩ : MethodName) (head1 (Jvm.Cond.code (⟨"java/lang/String", "length", "()I"⟩ : MethodName) jdk_42_method_54_code 1 (some .int) :: ws) ({ frames := 1, cells := 0, slots := 0, locals := 13 } : Room)) (fun a U => a = #[(.ref A0)] ∧ Z.Warmed39 U.vm ∧ U.heap = h0) (fun _ _ _ _ _ => True) (fun _ U o U' => ∃ v L, o = .returned v ∧ Q14 Z A0 W0 K0 XV0 W1 h0 n0 v U'.heap L ∧ FrameEnd U o U' L ({ frames := 1, cells := 0, slots := 0, locals := 13 } : Room).cells ({ frames := 1, cells := 0, slots := 0, locals := 13 } : Room).slots) := by
  refine MetFree.of_bodySF (plainFor_of_name pn_14) hisR ?_
  intro p e s m args below meth c s₁ Bd hml0 hP hK
  obtain ⟨rfl, hZ, hh⟩ := hP
  have hx := Bd.exec
  have hby := Bd.bytes
  have hml : c.maxLocals = 1 := hml0
  have hown : s.vm.findClass "java/lang/String" = some m.cls := findClass_of_methodNamed Bd.named
  have hnm := (name_of_methodNamed Bd.named Bd.method).1
  have X0 : Stand p l e ({ frames := 1, cells := 0, slots := 0, locals := 13 } : Room) s m #[(.ref A0)] below meth c s₁ [] 0 0 := Stand.of_body Bd
  have e0 : s₁.heap = h0 := by rw [← hh, Bd.state]; rfl
  have N0 := Fr.nil n0
  have pre0 : ∀ t, Steps p.tables e below (s₁.setTop (mkF m 0 #[.val (.ref A0)] [])) t → Steps p.tables e below (s₁.setTop (entryFrame m #[(.ref A0)] 1)) t := fun t k => castTop (ef_14 m A0) k
  obtain ⟨T101, X101, e101, st101⟩ := getF X0 hx hZ hown (host := "") (Or.inl (hw _ (List.mem_of_getElem? (i := 23) rfl))) Via.refl e0 pm1 (g := (mkF m 1 #[.val (.ref A0)] [(.ref A0)])) rfl rfl (hb hby d14_1)
  obtain ⟨cl102, Ar102, -, S102, N_102, -, -⟩ := id pm3
  obtain ⟨cq103, kq103, q103a, q103b, q103c⟩ := isOf hZ e101 pm0
  obtain ⟨_, _, ⟨T103, L103, k103, n103⟩, -, X103, ⟨Lc103, hQ103, l103, y103, z103⟩, st103⟩ := X101.virtualBack hx (y := (⟨"java/lang/String", "coder", "()B"⟩ : MethodName)) (z := (⟨"java/lang/String", "coder", "()B"⟩ : MethodName)) hown (mvT hZ (hw _ (List.mem_of_getElem? (i := 85) rfl))) (mvT hZ (hw _ (List.mem_of_getElem? (i := 86) rfl))) (notFace_of_selects (args := #[]) (mvT hZ (hw _ (List.mem_of_getElem? (i := 88) rfl)))) (mvT hZ (hw _ (List.mem_of_getElem? (i := 88) rfl))) (mvT hZ (hw _ (List.mem_of_getElem? (i := 87) rfl))) (by decide) (backOf (W := 1) (rm15 l Z a0 hw [] A0 W1 h0 n0 Z0 pm2 pm4 (show ¬ (W1 = (0 : Int32)) from hcs)) hZ (hw _ (List.mem_of_getElem? (i := 89) rfl)) (hw _ (List.mem_of_getElem? (i := 3) rfl)) (by decide) (by decide)) q103a q103c (g := (mkF m 6 #[.val (.ref A0)] [(.ref A0), (.int (1 : Int32))])) rfl (by rw [hml]; rfl) (Steps.refl _) (argsL := []) (rest := [(.int (1 : Int32))]) (lenOf pd_14_0 rfl) rfl (by show 2 * 0 + _ ≤ _; exact Nat.le_of_eq rfl) (hb hby d14_6) (fun _ _ => ⟨rfl, e101, (by decide : 0 + 0 ≤ _), (by decide : 0 + 0 ≤ _)⟩)
  dsimp only [Pt.U, Pt.locs, Pt.cells, Pt.slots] at X103 l103 y103 z103 st103 hQ103
  subst l103 y103 z103
  obtain ⟨rfl, N103q, K103⟩ := hQ103
  have N103 := Fr.app N0 N103q
  have pre104 : ∀ t, Steps p.tables e below (T103.setTop (mkF m 10 #[.val (.ref A0)] [(.int ((1 : Int32) >>> ((0 : Int32) &&& 31)))])) t → Steps p.tables e below (s₁.setTop (entryFrame m #[(.ref A0)] 1)) t := fun t kt => pre0 t (by
      show Steps p.tables e below (s₁.setTop (mkF m 0 #[.val (.ref A0)] [])) _
      refine XS.aloadN X0.here hx rfl (hb hby d14_0) rfl rfl ?_
      show Steps p.tables e below (s₁.setTop (mkF m 1 #[.val (.ref A0)] [(.ref A0)])) _
      refine st101 _ ?_
      show Steps p.tables e below (T101.setTop (mkF m 4 #[.val (.ref A0)] [(.ref W0)])) _
      refine X101.arraylength hx (by rw [e101]; exact Ar102.1) (State.isArrayOf_alike hZ.alike Ar102.2.1) (g := (mkF m 4 #[.val (.ref A0)] [(.ref W0)])) rfl rfl (hb hby d14_4) _ ?_
      rw [len_of S102 N_102]
      show Steps p.tables e below (T101.setTop (mkF m 5 #[.val (.ref A0)] [(.int (1 : Int32))])) _
      refine XS.aloadN X101.here hx rfl (hb hby d14_5) rfl rfl ?_
      show Steps p.tables e below (T101.setTop (mkF m 6 #[.val (.ref A0)] [(.ref A0), (.int (1 : Int32))])) _
      refine st103.trans ?_
      show Steps p.tables e below (T103.setTop (mkF m 9 #[.val (.ref A0)] [(.int (0 : Int32)), (.int (1 : Int32))])) _
      refine XS.ishr X103.here hx rfl (hb hby d14_9) rfl ?_
      exact kt)
  obtain ⟨fs, hr, hrun, hended, hW, hsame⟩ := X103.leave (v := some (.int ((1 : Int32) >>> ((0 : Int32) &&& 31)))) (fun h => by rw [Bd.returns] at h; cases h)
  refine ⟨_, _, pre104 _ ?_, hrun, hended, _, _, rfl, ?_, ⟨_, rfl⟩, hW, hsame.mono (by decide) (by decide)⟩
  · show Steps p.tables e below (T103.setTop (mkF m 10 #[.val (.ref A0)] [(.int ((1 : Int32) >>> ((0 : Int32) &&& 31)))])) _
    exact retI X103 hx Bd.returns (hb hby d14_10) hr
  · show Q14 Z A0 W0 K0 XV0 W1 h0 n0 _ T103.heap _
    rw [K103]
    exact ⟨(congrArg (fun z => some (Value.int z)) (show ((1 : Int32) >>> ((0 : Int32) &&& 31)) = (1 : Int32) from by decide)), N103, rfl⟩
theorem d13_0 : decode prog_27_method_2_code 0 = .ok (.aload_n 0, 1) := by decide +kernel
theorem d13_1 : decode prog_27_method_2_code 1 = .ok (.invokevirtual 18, 3) := by decide +kernel
theorem d13_4 : decode prog_27_method_2_code 4 = .ok (.i2l, 1) := by decide +kernel
theorem d13_5 : decode prog_27_method_2_code 5 = .ok (.ldc2_w 24, 3) := by decide +kernel
theorem d13_8 : decode prog_27_method_2_code 8 = .ok (.ladd, 1) := by decide +kernel
theorem d13_9 : decode prog_27_method_2_code 9 = .ok (.lreturn, 1) := by decide +kernel
theorem pn_13 : plainName "com/example/terseform/terseform/datatypes/HeldCharacters" = true := by first | (simp [plainName, overriddenIn]; done) | decide +kernel
theorem pd_13_0 : parseMethodDescriptor "()I" = some ⟨[], some .int⟩ := by decide +kernel
theorem ef_13 (m : MethodId) (A0 : Addr) : entryFrame m #[(.ref A0)] 1 = mkF m 0 #[.val (.ref A0)] [] := by first | (simp [entryFrame, mkF, argsToLocals, Value.category]; done) | rfl
def Q13 (Z : State) (A0 : Addr) (W0 : Addr) (K0 : ClassId) (XV0 : Int32) (W1 : Int32) (h0 : Heap) (n0 : Nat) (v : Option Value) (h : Heap) (L : List Loc) : Prop := (v = some (.long (33 : Int64))) ∧ (Fr n0 L) ∧ (h = h0)
set_option maxRecDepth 65536 in
set_option maxHeartbeats 40000000 in
theorem rm13 (l : Launch) (Z : State) (a0 : Array Value) (hw : ∀ d ∈ tables_1, d.before a0 Z = true) (ws : List Jvm.Cond) (A0 : Addr) (W0 : Addr) (K0 : ClassId) (XV0 : Int32) (W1 : Int32) (h0 : Heap) (n0 : Nat) (Z0 : n0 ≤ h0.size) (pm0 : Exa Z h0 A0 "java/lang/String") (pm1 : Fld Z h0 A0 "java/lang/String" "value" "[B" (.ref W0)) (pm2 : Fld Z h0 A0 "java/lang/String" "coder" "B" (.int (0 : Int32))) (pm3 : Arv Z h0 W0 K0 .byte (1 : Int32) [(.int XV0)] (.int (0 : Int32))) (pm4 : Sta Z h0 "java/lang/String" "COMPACT_STRINGS" "Z" (.int W1)) (hcs : ¬ (W1 = (0 : Int32))) :
    MetFree l (⟨"com/example/terseform/terseform/datatypes/HeldCharacters", "count", "(Ljava/lang/String;)J"⟩ : MethodName) (head1 (Jvm.Cond.code (⟨"com/example/terseform/terseform/datatypes/HeldCharacters", "count", "(Ljava/lang/String;)J"⟩ : MethodName) prog_27_method_2_code 1 (some .long) :: ws) ({ frames := 2, cells := 0, slots := 0, locals := 25 } : Room)) (fun a U => a = #[(.ref A0)] ∧ Z.Warmed39 U.vm ∧ U.heap = h0) (fun _ _ _ _ _ => True) (fun _ U o U' => ∃ v L, o = .returned v ∧ Q13 Z A0 W0 K0 XV0 W1 h0 n0 v U'.heap L ∧ FrameEnd U o U' L ({ frames := 2, cells := 0, slots := 0, locals := 25 } : Room).cells ({ frames := 2, cells := 0, slots := 0, locals := 25 } : Room).slots) := by
  refine MetFree.of_bodySF (plainFor_of_name pn_13) hisR ?_
  intro p e s m args below meth c s₁ Bd hml0 hP hK
  obtain ⟨rfl, hZ, hh⟩ := hP
  have hx := Bd.exec
  have hby := Bd.bytes
  have hml : c.maxLocals = 1 := hml0
  have hown : s.vm.findClass "com/example/terseform/terseform/datatypes/HeldCharacters" = some m.cls := findClass_of_methodNamed Bd.named
  have hnm := (name_of_methodNamed Bd.named Bd.method).1
  have X0 : Stand p l e ({ frames := 2, cells := 0, slots := 0, locals := 25 } : Room) s m #[(.ref A0)] below meth c s₁ [] 0 0 := Stand.of_body Bd
  have e0 : s₁.heap = h0 := by rw [← hh, Bd.state]; rfl
  have N0 := Fr.nil n0
  have pre0 : ∀ t, Steps p.tables e below (s₁.setTop (mkF m 0 #[.val (.ref A0)] [])) t → Steps p.tables e below (s₁.setTop (entryFrame m #[(.ref A0)] 1)) t := fun t k => castTop (ef_13 m A0) k
  obtain ⟨cq101, kq101, q101a, q101b, q101c⟩ := isOf hZ e0 pm0
  obtain ⟨_, _, ⟨T101, L101, k101, n101⟩, -, X101, ⟨Lc101, hQ101, l101, y101, z101⟩, st101⟩ := X0.virtualBack hx (y := (⟨"java/lang/String", "length", "()I"⟩ : MethodName)) (z := (⟨"java/lang/String", "length", "()I"⟩ : MethodName)) hown (mvT hZ (hw _ (List.mem_of_getElem? (i := 80) rfl))) (mvT hZ (hw _ (List.mem_of_getElem? (i := 81) rfl))) (notFace_of_selects (args := #[]) (mvT hZ (hw _ (List.mem_of_getElem? (i := 83) rfl)))) (mvT hZ (hw _ (List.mem_of_getElem? (i := 83) rfl))) (mvT hZ (hw _ (List.mem_of_getElem? (i := 82) rfl))) (by decide) (backOf (W := 0) (rm14 l Z a0 hw [] A0 W0 K0 XV0 W1 h0 n0 Z0 pm0 pm1 pm2 pm3 pm4 (show ¬ (W1 = (0 : Int32)) from hcs)) hZ (hw _ (List.mem_of_getElem? (i := 84) rfl)) (hw _ (List.mem_of_getElem? (i := 3) rfl)) (by decide) (by decide)) q101a q101c (g := (mkF m 1 #[.val (.ref A0)] [(.ref A0)])) rfl (by rw [hml]; rfl) (Steps.refl _) (argsL := []) (rest := []) (lenOf pd_13_0 rfl) rfl (by show 2 * 0 + _ ≤ _; exact Nat.le_of_eq rfl) (hb hby d13_1) (fun _ _ => ⟨rfl, e0, (by decide : 0 + 0 ≤ _), (by decide : 0 + 0 ≤ _)⟩)
  dsimp only [Pt.U, Pt.locs, Pt.cells, Pt.slots] at X101 l101 y101 z101 st101 hQ101
  subst l101 y101 z101
  obtain ⟨rfl, N101q, K101⟩ := hQ101
  have N101 := Fr.app N0 N101q
  have pre102 : ∀ t, Steps p.tables e below (T101.setTop (mkF m 9 #[.val (.ref A0)] [(.long (((1 : Int32).toInt64) + (32 : Int64)))])) t → Steps p.tables e below (s₁.setTop (entryFrame m #[(.ref A0)] 1)) t := fun t kt => pre0 t (by
      show Steps p.tables e below (s₁.setTop (mkF m 0 #[.val (.ref A0)] [])) _
      refine XS.aloadN X0.here hx rfl (hb hby d13_0) rfl rfl ?_
      show Steps p.tables e below (s₁.setTop (mkF m 1 #[.val (.ref A0)] [(.ref A0)])) _
      refine st101.trans ?_
      show Steps p.tables e below (T101.setTop (mkF m 4 #[.val (.ref A0)] [(.int (1 : Int32))])) _
      refine XS.i2l X101.here hx rfl (hb hby d13_4) rfl ?_
      show Steps p.tables e below (T101.setTop (mkF m 5 #[.val (.ref A0)] [(.long ((1 : Int32).toInt64))])) _
      refine X101.ldc2Long hx hown (mvT hZ (hw _ (List.mem_of_getElem? (i := 90) rfl))) (g := (mkF m 5 #[.val (.ref A0)] [(.long ((1 : Int32).toInt64))])) rfl (hb hby d13_5) _ ?_
      show Steps p.tables e below (T101.setTop (mkF m 8 #[.val (.ref A0)] [(.long (32 : Int64)), (.long ((1 : Int32).toInt64))])) _
      refine XS.ladd X101.here hx rfl (hb hby d13_8) rfl ?_
      exact kt)
  obtain ⟨fs, hr, hrun, hended, hW, hsame⟩ := X101.leave (v := some (.long (((1 : Int32).toInt64) + (32 : Int64)))) (fun h => by rw [Bd.returns] at h; cases h)
  refine ⟨_, _, pre102 _ ?_, hrun, hended, _, _, rfl, ?_, ⟨_, rfl⟩, hW, hsame.mono (by decide) (by decide)⟩
  · show Steps p.tables e below (T101.setTop (mkF m 9 #[.val (.ref A0)] [(.long (((1 : Int32).toInt64) + (32 : Int64)))])) _
    exact retOut X101 hx Bd.returns rfl (Or.inr (Or.inl ⟨rfl, rfl, _, rfl⟩)) (hb hby d13_9) hr
  · show Q13 Z A0 W0 K0 XV0 W1 h0 n0 _ T101.heap _
    rw [K101]
    exact ⟨(congrArg (fun z => some (Value.long z)) (show (((1 : Int32).toInt64) + (32 : Int64)) = (33 : Int64) from by decide)), N101, rfl⟩
theorem d6_0 : decode prog_27_method_1_code 0 = .ok (.aload_n 0, 1) := by decide +kernel
theorem d6_1 : decode prog_27_method_1_code 1 = .ok (.invokespecial 3, 3) := by decide +kernel
theorem d6_4 : decode prog_27_method_1_code 4 = .ok (.aload_n 0, 1) := by decide +kernel
theorem d6_5 : decode prog_27_method_1_code 5 = .ok (.iload_n 1, 1) := by decide +kernel
theorem d6_6 : decode prog_27_method_1_code 6 = .ok (.putfield 9, 3) := by decide +kernel
theorem d6_9 : decode prog_27_method_1_code 9 = .ok (.aload_n 0, 1) := by decide +kernel
theorem d6_10 : decode prog_27_method_1_code 10 = .ok (.iload_n 2, 1) := by decide +kernel
theorem d6_11 : decode prog_27_method_1_code 11 = .ok (.putfield 15, 3) := by decide +kernel
theorem d6_14 : decode prog_27_method_1_code 14 = .ok (.return_, 1) := by decide +kernel
theorem pn_6 : plainName "com/example/terseform/terseform/datatypes/HeldCharacters" = true := by first | (simp [plainName, overriddenIn]; done) | decide +kernel
theorem ef_6 (m : MethodId) (A0 : Addr) (P1 : Int32) (P2 : Int32) : entryFrame m #[(.ref A0), (.int P1), (.int P2)] 3 = mkF m 0 #[.val (.ref A0), .val (.int P1), .val (.int P2)] [] := by first | (simp [entryFrame, mkF, argsToLocals, Value.category]; done) | rfl
def Q6 (Z : State) (A0 : Addr) (P1 : Int32) (P2 : Int32) (V0 : Int32) (V1 : Int32) (V2 : Int64) (V3 : Int64) (V4 : Int64) (V5 : Int64) (h0 : Heap) (n0 : Nat) (v : Option Value) (h : Heap) (L : List Loc) : Prop := (v = none) ∧ (Fr n0 L) ∧ (Keep h0 h [A0]) ∧ (Exa Z h A0 "com/example/terseform/terseform/datatypes/HeldCharacters") ∧ (Fld Z h A0 "com/example/terseform/terseform/datatypes/HeldCharacters" "limit" "I" (.int P1)) ∧ (Fld Z h A0 "com/example/terseform/terseform/datatypes/HeldCharacters" "nameLimit" "I" (.int P2)) ∧ (Fld Z h A0 "com/example/terseform/terseform/datatypes/HeldCharacters" "kept" "J" (.long V2)) ∧ (Fld Z h A0 "com/example/terseform/terseform/datatypes/HeldCharacters" "held" "J" (.long V3)) ∧ (Fld Z h A0 "com/example/terseform/terseform/datatypes/HeldCharacters" "reading" "J" (.long V4)) ∧ (Fld Z h A0 "com/example/terseform/terseform/datatypes/HeldCharacters" "given" "J" (.long V5))
set_option maxRecDepth 65536 in
set_option maxHeartbeats 40000000 in
theorem rm6 (l : Launch) (Z : State) (a0 : Array Value) (hw : ∀ d ∈ tables_1, d.before a0 Z = true) (ws : List Jvm.Cond) (A0 : Addr) (P1 : Int32) (P2 : Int32) (V0 : Int32) (V1 : Int32) (V2 : Int64) (V3 : Int64) (V4 : Int64) (V5 : Int64) (h0 : Heap) (n0 : Nat) (Z0 : n0 ≤ h0.size) (pm0 : Fld Z h0 A0 "com/example/terseform/terseform/datatypes/HeldCharacters" "limit" "I" (.int V0)) (pm1 : Fld Z h0 A0 "com/example/terseform/terseform/datatypes/HeldCharacters" "nameLimit" "I" (.int V1)) (pm2 : Fld Z h0 A0 "com/example/terseform/terseform/datatypes/HeldCharacters" "kept" "J" (.long V2)) (pm3 : Fld Z h0 A0 "com/example/terseform/terseform/datatypes/HeldCharacters" "held" "J" (.long V3)) (pm4 : Fld Z h0 A0 "com/example/terseform/terseform/datatypes/HeldCharacters" "reading" "J" (.long V4)) (pm5 : Fld Z h0 A0 "com/example/terseform/terseform/datatypes/HeldCharacters" "given" "J" (.long V5)) (pm6 : Exa Z h0 A0 "com/example/terseform/terseform/datatypes/HeldCharacters") (g_A0 : n0 ≤ A0) :
    MetFree l (⟨"com/example/terseform/terseform/datatypes/HeldCharacters", "<init>", "(II)V"⟩ : MethodName) (head1 (Jvm.Cond.code (⟨"com/example/terseform/terseform/datatypes/HeldCharacters", "<init>", "(II)V"⟩ : MethodName) prog_27_method_1_code 3 none :: ws) ({ frames := 1, cells := 0, slots := 0, locals := 12 } : Room)) (fun a U => a = #[(.ref A0), (.int P1), (.int P2)] ∧ Z.Warmed39 U.vm ∧ U.heap = h0) (fun _ _ _ _ _ => True) (fun _ U o U' => ∃ v L, o = .returned v ∧ Q6 Z A0 P1 P2 V0 V1 V2 V3 V4 V5 h0 n0 v U'.heap L ∧ FrameEnd U o U' L ({ frames := 1, cells := 0, slots := 0, locals := 12 } : Room).cells ({ frames := 1, cells := 0, slots := 0, locals := 12 } : Room).slots) := by
  refine MetFree.of_bodySF (plainFor_of_name pn_6) hisR ?_
  intro p e s m args below meth c s₁ Bd hml0 hP hK
  obtain ⟨rfl, hZ, hh⟩ := hP
  have hx := Bd.exec
  have hby := Bd.bytes
  have hml : c.maxLocals = 3 := hml0
  have hown : s.vm.findClass "com/example/terseform/terseform/datatypes/HeldCharacters" = some m.cls := findClass_of_methodNamed Bd.named
  have hnm := (name_of_methodNamed Bd.named Bd.method).1
  have X0 : Stand p l e ({ frames := 1, cells := 0, slots := 0, locals := 12 } : Room) s m #[(.ref A0), (.int P1), (.int P2)] below meth c s₁ [] 0 0 := Stand.of_body Bd
  have e0 : s₁.heap = h0 := by rw [← hh, Bd.state]; rfl
  have N0 := Fr.nil n0
  have pre0 : ∀ t, Steps p.tables e below (s₁.setTop (mkF m 0 #[.val (.ref A0), .val (.int P1), .val (.int P2)] [])) t → Steps p.tables e below (s₁.setTop (entryFrame m #[(.ref A0), (.int P1), (.int P2)] 3)) t := fun t k => castTop (ef_6 m A0 P1 P2) k
  have K_0 : Keep h0 h0 [A0] := Keep.refl h0 _
  obtain ⟨T101, X101, e101, st101⟩ := initO X0 hx hZ hown (hw _ (List.mem_of_getElem? (i := 33) rfl)) (hw _ (List.mem_of_getElem? (i := 21) rfl)) (hw _ (List.mem_of_getElem? (i := 22) rfl)) e0 (g := (mkF m 1 #[.val (.ref A0), .val (.int P1), .val (.int P2)] [(.ref A0)])) rfl (by rw [hml]; rfl) rfl (hb hby d6_1) (by decide) (W := 0) (by show 2 * 0 + _ ≤ _; exact Nat.le_of_eq rfl) (by decide)
  obtain ⟨T102, h102, X102, e102, W102, st102⟩ := putF X101 hx hZ hown (host := "") (Or.inl (hw _ (List.mem_of_getElem? (i := 34) rfl))) Via.refl e101 pm0 pm6 (Or.inr ⟨(hw _ (List.mem_of_getElem? (i := 35) rfl)), rfl, hnm⟩) (hw _ (List.mem_of_getElem? (i := 28) rfl)) (ty := .int) (by decide) rfl rfl (g := (mkF m 6 #[.val (.ref A0), .val (.int P1), .val (.int P2)] [(.int P1), (.ref A0)])) rfl rfl (hb hby d6_6)
  have Z103 : n0 ≤ h102.size := Nat.le_trans Z0 (Nat.le_of_eq W102.size.symm)
  have K_103 : Keep h0 h102 [A0] := K_0.wr W102 (Or.inl (List.mem_of_getElem? (i := 0) rfl))
  have Fw102 : Fld Z h102 A0 "com/example/terseform/terseform/datatypes/HeldCharacters" "limit" "I" (.int P1) := pm0.same W102
  have N102 := Fr.snoc X102 N0 g_A0
  have c104 : Exa Z h102 A0 "com/example/terseform/terseform/datatypes/HeldCharacters" := (pm6.wr W102)
  have c105 : Fld Z h102 A0 "com/example/terseform/terseform/datatypes/HeldCharacters" "nameLimit" "I" (.int V1) := (pm1.other W102 (Or.inr (slot_ne (Or.inr (hw _ (List.mem_of_getElem? (i := 37) rfl))) (Or.inr (hw _ (List.mem_of_getElem? (i := 35) rfl))) (by decide) (t := .int) (t' := .int) (by decide) (by decide))))
  obtain ⟨T106, h106, X106, e106, W106, st106⟩ := putF X102 hx hZ hown (host := "") (Or.inl (hw _ (List.mem_of_getElem? (i := 36) rfl))) Via.refl e102 c105 c104 (Or.inr ⟨(hw _ (List.mem_of_getElem? (i := 37) rfl)), rfl, hnm⟩) (hw _ (List.mem_of_getElem? (i := 28) rfl)) (ty := .int) (by decide) rfl rfl (g := (mkF m 11 #[.val (.ref A0), .val (.int P1), .val (.int P2)] [(.int P2), (.ref A0)])) rfl rfl (hb hby d6_11)
  have Z107 : n0 ≤ h106.size := Nat.le_trans Z103 (Nat.le_of_eq W106.size.symm)
  have K_107 : Keep h0 h106 [A0] := K_103.wr W106 (Or.inl (List.mem_of_getElem? (i := 0) rfl))
  have Fw106 : Fld Z h106 A0 "com/example/terseform/terseform/datatypes/HeldCharacters" "nameLimit" "I" (.int P2) := c105.same W106
  have N106 := Fr.snoc X106 N102 g_A0
  have pre108 : ∀ t, Steps p.tables e below (T106.setTop (mkF m 14 #[.val (.ref A0), .val (.int P1), .val (.int P2)] [])) t → Steps p.tables e below (s₁.setTop (entryFrame m #[(.ref A0), (.int P1), (.int P2)] 3)) t := fun t kt => pre0 t (by
      show Steps p.tables e below (s₁.setTop (mkF m 0 #[.val (.ref A0), .val (.int P1), .val (.int P2)] [])) _
      refine XS.aloadN X0.here hx rfl (hb hby d6_0) rfl rfl ?_
      show Steps p.tables e below (s₁.setTop (mkF m 1 #[.val (.ref A0), .val (.int P1), .val (.int P2)] [(.ref A0)])) _
      refine st101 _ ?_
      show Steps p.tables e below (T101.setTop (mkF m 4 #[.val (.ref A0), .val (.int P1), .val (.int P2)] [])) _
      refine XS.aloadN X101.here hx rfl (hb hby d6_4) rfl rfl ?_
      show Steps p.tables e below (T101.setTop (mkF m 5 #[.val (.ref A0), .val (.int P1), .val (.int P2)] [(.ref A0)])) _
      refine XS.iloadN X101.here hx rfl (hb hby d6_5) rfl ?_
      show Steps p.tables e below (T101.setTop (mkF m 6 #[.val (.ref A0), .val (.int P1), .val (.int P2)] [(.int P1), (.ref A0)])) _
      refine st102 _ ?_
      show Steps p.tables e below (T102.setTop (mkF m 9 #[.val (.ref A0), .val (.int P1), .val (.int P2)] [])) _
      refine XS.aloadN X102.here hx rfl (hb hby d6_9) rfl rfl ?_
      show Steps p.tables e below (T102.setTop (mkF m 10 #[.val (.ref A0), .val (.int P1), .val (.int P2)] [(.ref A0)])) _
      refine XS.iloadN X102.here hx rfl (hb hby d6_10) rfl ?_
      show Steps p.tables e below (T102.setTop (mkF m 11 #[.val (.ref A0), .val (.int P1), .val (.int P2)] [(.int P2), (.ref A0)])) _
      refine st106 _ ?_
      exact kt)
  have c109 : Exa Z h106 A0 "com/example/terseform/terseform/datatypes/HeldCharacters" := (c104.wr W106)
  have c110 : Fld Z h106 A0 "com/example/terseform/terseform/datatypes/HeldCharacters" "limit" "I" (.int P1) := (Fw102.other W106 (Or.inr (slot_ne (Or.inr (hw _ (List.mem_of_getElem? (i := 35) rfl))) (Or.inr (hw _ (List.mem_of_getElem? (i := 37) rfl))) (by decide) (t := .int) (t' := .int) (by decide) (by decide))))
  have c111 : Fld Z h106 A0 "com/example/terseform/terseform/datatypes/HeldCharacters" "kept" "J" (.long V2) := ((pm2.other W102 (Or.inr (slot_ne (Or.inl (hw _ (List.mem_of_getElem? (i := 44) rfl))) (Or.inr (hw _ (List.mem_of_getElem? (i := 35) rfl))) (by decide) (t := .long) (t' := .int) (by decide) (by decide)))).other W106 (Or.inr (slot_ne (Or.inl (hw _ (List.mem_of_getElem? (i := 44) rfl))) (Or.inr (hw _ (List.mem_of_getElem? (i := 37) rfl))) (by decide) (t := .long) (t' := .int) (by decide) (by decide))))
  have c112 : Fld Z h106 A0 "com/example/terseform/terseform/datatypes/HeldCharacters" "held" "J" (.long V3) := ((pm3.other W102 (Or.inr (slot_ne (Or.inl (hw _ (List.mem_of_getElem? (i := 46) rfl))) (Or.inr (hw _ (List.mem_of_getElem? (i := 35) rfl))) (by decide) (t := .long) (t' := .int) (by decide) (by decide)))).other W106 (Or.inr (slot_ne (Or.inl (hw _ (List.mem_of_getElem? (i := 46) rfl))) (Or.inr (hw _ (List.mem_of_getElem? (i := 37) rfl))) (by decide) (t := .long) (t' := .int) (by decide) (by decide))))
  have c113 : Fld Z h106 A0 "com/example/terseform/terseform/datatypes/HeldCharacters" "reading" "J" (.long V4) := ((pm4.other W102 (Or.inr (slot_ne (Or.inl (hw _ (List.mem_of_getElem? (i := 54) rfl))) (Or.inr (hw _ (List.mem_of_getElem? (i := 35) rfl))) (by decide) (t := .long) (t' := .int) (by decide) (by decide)))).other W106 (Or.inr (slot_ne (Or.inl (hw _ (List.mem_of_getElem? (i := 54) rfl))) (Or.inr (hw _ (List.mem_of_getElem? (i := 37) rfl))) (by decide) (t := .long) (t' := .int) (by decide) (by decide))))
  have c114 : Fld Z h106 A0 "com/example/terseform/terseform/datatypes/HeldCharacters" "given" "J" (.long V5) := ((pm5.other W102 (Or.inr (slot_ne (Or.inl (hw _ (List.mem_of_getElem? (i := 61) rfl))) (Or.inr (hw _ (List.mem_of_getElem? (i := 35) rfl))) (by decide) (t := .long) (t' := .int) (by decide) (by decide)))).other W106 (Or.inr (slot_ne (Or.inl (hw _ (List.mem_of_getElem? (i := 61) rfl))) (Or.inr (hw _ (List.mem_of_getElem? (i := 37) rfl))) (by decide) (t := .long) (t' := .int) (by decide) (by decide))))
  obtain ⟨fs, hr, hrun, hended, hW, hsame⟩ := X106.leave (v := none) (fun _ => rfl)
  refine ⟨_, _, pre108 _ ?_, hrun, hended, _, _, rfl, ?_, ⟨_, rfl⟩, hW, hsame.mono (by decide) (by decide)⟩
  · show Steps p.tables e below (T106.setTop (mkF m 14 #[.val (.ref A0), .val (.int P1), .val (.int P2)] [])) _
    exact X106.returnOut hx Bd.returns (hb hby d6_14) hr
  · show Q6 Z A0 P1 P2 V0 V1 V2 V3 V4 V5 h0 n0 _ T106.heap _
    rw [e106]
    exact ⟨rfl, N106, K_107, c109, c110, Fw106, c111, c112, c113, c114⟩
theorem d7_0 : decode prog_27_method_6_code 0 = .ok (.aload_n 0, 1) := by decide +kernel
theorem d7_1 : decode prog_27_method_6_code 1 = .ok (.dup, 1) := by decide +kernel
theorem d7_2 : decode prog_27_method_6_code 2 = .ok (.getfield 27, 3) := by decide +kernel
theorem d7_5 : decode prog_27_method_6_code 5 = .ok (.lload_n 1, 1) := by decide +kernel
theorem d7_6 : decode prog_27_method_6_code 6 = .ok (.lsub, 1) := by decide +kernel
theorem d7_7 : decode prog_27_method_6_code 7 = .ok (.putfield 27, 3) := by decide +kernel
theorem d7_10 : decode prog_27_method_6_code 10 = .ok (.aload_n 0, 1) := by decide +kernel
theorem d7_11 : decode prog_27_method_6_code 11 = .ok (.dup, 1) := by decide +kernel
theorem d7_12 : decode prog_27_method_6_code 12 = .ok (.getfield 31, 3) := by decide +kernel
theorem d7_15 : decode prog_27_method_6_code 15 = .ok (.lload_n 1, 1) := by decide +kernel
theorem d7_16 : decode prog_27_method_6_code 16 = .ok (.ladd, 1) := by decide +kernel
theorem d7_17 : decode prog_27_method_6_code 17 = .ok (.putfield 31, 3) := by decide +kernel
theorem d7_20 : decode prog_27_method_6_code 20 = .ok (.return_, 1) := by decide +kernel
theorem pn_7 : plainName "com/example/terseform/terseform/datatypes/HeldCharacters" = true := by first | (simp [plainName, overriddenIn]; done) | decide +kernel
theorem ef_7 (m : MethodId) (A0 : Addr) (P1 : Int64) : entryFrame m #[(.ref A0), (.long P1)] 3 = mkF m 0 #[.val (.ref A0), .val (.long P1), .second] [] := by first | (simp [entryFrame, mkF, argsToLocals, Value.category]; done) | rfl
def Q7 (Z : State) (A0 : Addr) (P1 : Int64) (V0 : Int32) (V1 : Int32) (V2 : Int64) (V3 : Int64) (V4 : Int64) (V5 : Int64) (h0 : Heap) (n0 : Nat) (v : Option Value) (h : Heap) (L : List Loc) : Prop := (v = none) ∧ (Fr n0 L) ∧ (Keep h0 h [A0]) ∧ (Exa Z h A0 "com/example/terseform/terseform/datatypes/HeldCharacters") ∧ (Fld Z h A0 "com/example/terseform/terseform/datatypes/HeldCharacters" "limit" "I" (.int V0)) ∧ (Fld Z h A0 "com/example/terseform/terseform/datatypes/HeldCharacters" "nameLimit" "I" (.int V1)) ∧ (Fld Z h A0 "com/example/terseform/terseform/datatypes/HeldCharacters" "kept" "J" (.long (V2 - P1))) ∧ (Fld Z h A0 "com/example/terseform/terseform/datatypes/HeldCharacters" "held" "J" (.long (V3 + P1))) ∧ (Fld Z h A0 "com/example/terseform/terseform/datatypes/HeldCharacters" "reading" "J" (.long V4)) ∧ (Fld Z h A0 "com/example/terseform/terseform/datatypes/HeldCharacters" "given" "J" (.long V5))
set_option maxRecDepth 65536 in
set_option maxHeartbeats 40000000 in
theorem rm7 (l : Launch) (Z : State) (a0 : Array Value) (hw : ∀ d ∈ tables_1, d.before a0 Z = true) (ws : List Jvm.Cond) (A0 : Addr) (P1 : Int64) (V0 : Int32) (V1 : Int32) (V2 : Int64) (V3 : Int64) (V4 : Int64) (V5 : Int64) (h0 : Heap) (n0 : Nat) (Z0 : n0 ≤ h0.size) (pm0 : Fld Z h0 A0 "com/example/terseform/terseform/datatypes/HeldCharacters" "limit" "I" (.int V0)) (pm1 : Fld Z h0 A0 "com/example/terseform/terseform/datatypes/HeldCharacters" "nameLimit" "I" (.int V1)) (pm2 : Fld Z h0 A0 "com/example/terseform/terseform/datatypes/HeldCharacters" "kept" "J" (.long V2)) (pm3 : Fld Z h0 A0 "com/example/terseform/terseform/datatypes/HeldCharacters" "held" "J" (.long V3)) (pm4 : Fld Z h0 A0 "com/example/terseform/terseform/datatypes/HeldCharacters" "reading" "J" (.long V4)) (pm5 : Fld Z h0 A0 "com/example/terseform/terseform/datatypes/HeldCharacters" "given" "J" (.long V5)) (pm6 : Exa Z h0 A0 "com/example/terseform/terseform/datatypes/HeldCharacters") (g_A0 : n0 ≤ A0) :
    MetFree l (⟨"com/example/terseform/terseform/datatypes/HeldCharacters", "letGo", "(J)V"⟩ : MethodName) (head1 (Jvm.Cond.code (⟨"com/example/terseform/terseform/datatypes/HeldCharacters", "letGo", "(J)V"⟩ : MethodName) prog_27_method_6_code 3 none :: ws) ({ frames := 0, cells := 0, slots := 0, locals := 0 } : Room)) (fun a U => a = #[(.ref A0), (.long P1)] ∧ Z.Warmed39 U.vm ∧ U.heap = h0) (fun _ _ _ _ _ => True) (fun _ U o U' => ∃ v L, o = .returned v ∧ Q7 Z A0 P1 V0 V1 V2 V3 V4 V5 h0 n0 v U'.heap L ∧ FrameEnd U o U' L ({ frames := 0, cells := 0, slots := 0, locals := 0 } : Room).cells ({ frames := 0, cells := 0, slots := 0, locals := 0 } : Room).slots) := by
  refine MetFree.of_bodySF (plainFor_of_name pn_7) hisR ?_
  intro p e s m args below meth c s₁ Bd hml0 hP hK
  obtain ⟨rfl, hZ, hh⟩ := hP
  have hx := Bd.exec
  have hby := Bd.bytes
  have hml : c.maxLocals = 3 := hml0
  have hown : s.vm.findClass "com/example/terseform/terseform/datatypes/HeldCharacters" = some m.cls := findClass_of_methodNamed Bd.named
  have hnm := (name_of_methodNamed Bd.named Bd.method).1
  have X0 : Stand p l e ({ frames := 0, cells := 0, slots := 0, locals := 0 } : Room) s m #[(.ref A0), (.long P1)] below meth c s₁ [] 0 0 := Stand.of_body Bd
  have e0 : s₁.heap = h0 := by rw [← hh, Bd.state]; rfl
  have N0 := Fr.nil n0
  have pre0 : ∀ t, Steps p.tables e below (s₁.setTop (mkF m 0 #[.val (.ref A0), .val (.long P1), .second] [])) t → Steps p.tables e below (s₁.setTop (entryFrame m #[(.ref A0), (.long P1)] 3)) t := fun t k => castTop (ef_7 m A0 P1) k
  have K_0 : Keep h0 h0 [A0] := Keep.refl h0 _
  obtain ⟨T101, X101, e101, st101⟩ := getF X0 hx hZ hown (host := "") (Or.inl (hw _ (List.mem_of_getElem? (i := 43) rfl))) Via.refl e0 pm2 (g := (mkF m 2 #[.val (.ref A0), .val (.long P1), .second] [(.ref A0), (.ref A0)])) rfl rfl (hb hby d7_2)
  obtain ⟨T102, h102, X102, e102, W102, st102⟩ := putF X101 hx hZ hown (host := "") (Or.inl (hw _ (List.mem_of_getElem? (i := 43) rfl))) Via.refl e101 pm2 pm6 (Or.inl (hw _ (List.mem_of_getElem? (i := 44) rfl))) (hw _ (List.mem_of_getElem? (i := 28) rfl)) (ty := .long) (by decide) rfl rfl (g := (mkF m 7 #[.val (.ref A0), .val (.long P1), .second] [(.long (V2 - P1)), (.ref A0)])) rfl rfl (hb hby d7_7)
  have Z103 : n0 ≤ h102.size := Nat.le_trans Z0 (Nat.le_of_eq W102.size.symm)
  have K_103 : Keep h0 h102 [A0] := K_0.wr W102 (Or.inl (List.mem_of_getElem? (i := 0) rfl))
  have Fw102 : Fld Z h102 A0 "com/example/terseform/terseform/datatypes/HeldCharacters" "kept" "J" (.long (V2 - P1)) := pm2.same W102
  have N102 := Fr.snoc X102 N0 g_A0
  have c104 : Fld Z h102 A0 "com/example/terseform/terseform/datatypes/HeldCharacters" "held" "J" (.long V3) := (pm3.other W102 (Or.inr (slot_ne (Or.inl (hw _ (List.mem_of_getElem? (i := 46) rfl))) (Or.inl (hw _ (List.mem_of_getElem? (i := 44) rfl))) (by decide) (t := .long) (t' := .long) (by decide) (by decide))))
  obtain ⟨T105, X105, e105, st105⟩ := getF X102 hx hZ hown (host := "") (Or.inl (hw _ (List.mem_of_getElem? (i := 45) rfl))) Via.refl e102 c104 (g := (mkF m 12 #[.val (.ref A0), .val (.long P1), .second] [(.ref A0), (.ref A0)])) rfl rfl (hb hby d7_12)
  have c106 : Exa Z h102 A0 "com/example/terseform/terseform/datatypes/HeldCharacters" := (pm6.wr W102)
  obtain ⟨T107, h107, X107, e107, W107, st107⟩ := putF X105 hx hZ hown (host := "") (Or.inl (hw _ (List.mem_of_getElem? (i := 45) rfl))) Via.refl e105 c104 c106 (Or.inl (hw _ (List.mem_of_getElem? (i := 46) rfl))) (hw _ (List.mem_of_getElem? (i := 28) rfl)) (ty := .long) (by decide) rfl rfl (g := (mkF m 17 #[.val (.ref A0), .val (.long P1), .second] [(.long (V3 + P1)), (.ref A0)])) rfl rfl (hb hby d7_17)
  have Z108 : n0 ≤ h107.size := Nat.le_trans Z103 (Nat.le_of_eq W107.size.symm)
  have K_108 : Keep h0 h107 [A0] := K_103.wr W107 (Or.inl (List.mem_of_getElem? (i := 0) rfl))
  have Fw107 : Fld Z h107 A0 "com/example/terseform/terseform/datatypes/HeldCharacters" "held" "J" (.long (V3 + P1)) := c104.same W107
  have N107 := Fr.snoc X107 N102 g_A0
  have pre109 : ∀ t, Steps p.tables e below (T107.setTop (mkF m 20 #[.val (.ref A0), .val (.long P1), .second] [])) t → Steps p.tables e below (s₁.setTop (entryFrame m #[(.ref A0), (.long P1)] 3)) t := fun t kt => pre0 t (by
      show Steps p.tables e below (s₁.setTop (mkF m 0 #[.val (.ref A0), .val (.long P1), .second] [])) _
      refine XS.aloadN X0.here hx rfl (hb hby d7_0) rfl rfl ?_
      show Steps p.tables e below (s₁.setTop (mkF m 1 #[.val (.ref A0), .val (.long P1), .second] [(.ref A0)])) _
      refine XS.dup X0.here hx rfl (hb hby d7_1) rfl rfl ?_
      show Steps p.tables e below (s₁.setTop (mkF m 2 #[.val (.ref A0), .val (.long P1), .second] [(.ref A0), (.ref A0)])) _
      refine st101 _ ?_
      show Steps p.tables e below (T101.setTop (mkF m 5 #[.val (.ref A0), .val (.long P1), .second] [(.long V2), (.ref A0)])) _
      refine XS.lloadN X101.here hx rfl (hb hby d7_5) rfl ?_
      show Steps p.tables e below (T101.setTop (mkF m 6 #[.val (.ref A0), .val (.long P1), .second] [(.long P1), (.long V2), (.ref A0)])) _
      refine XS.lsub X101.here hx rfl (hb hby d7_6) rfl ?_
      show Steps p.tables e below (T101.setTop (mkF m 7 #[.val (.ref A0), .val (.long P1), .second] [(.long (V2 - P1)), (.ref A0)])) _
      refine st102 _ ?_
      show Steps p.tables e below (T102.setTop (mkF m 10 #[.val (.ref A0), .val (.long P1), .second] [])) _
      refine XS.aloadN X102.here hx rfl (hb hby d7_10) rfl rfl ?_
      show Steps p.tables e below (T102.setTop (mkF m 11 #[.val (.ref A0), .val (.long P1), .second] [(.ref A0)])) _
      refine XS.dup X102.here hx rfl (hb hby d7_11) rfl rfl ?_
      show Steps p.tables e below (T102.setTop (mkF m 12 #[.val (.ref A0), .val (.long P1), .second] [(.ref A0), (.ref A0)])) _
      refine st105 _ ?_
      show Steps p.tables e below (T105.setTop (mkF m 15 #[.val (.ref A0), .val (.long P1), .second] [(.long V3), (.ref A0)])) _
      refine XS.lloadN X105.here hx rfl (hb hby d7_15) rfl ?_
      show Steps p.tables e below (T105.setTop (mkF m 16 #[.val (.ref A0), .val (.long P1), .second] [(.long P1), (.long V3), (.ref A0)])) _
      refine XS.ladd X105.here hx rfl (hb hby d7_16) rfl ?_
      show Steps p.tables e below (T105.setTop (mkF m 17 #[.val (.ref A0), .val (.long P1), .second] [(.long (V3 + P1)), (.ref A0)])) _
      refine st107 _ ?_
      exact kt)
  have c110 : Exa Z h107 A0 "com/example/terseform/terseform/datatypes/HeldCharacters" := (c106.wr W107)
  have c111 : Fld Z h107 A0 "com/example/terseform/terseform/datatypes/HeldCharacters" "limit" "I" (.int V0) := ((pm0.other W102 (Or.inr (slot_ne (Or.inr (hw _ (List.mem_of_getElem? (i := 35) rfl))) (Or.inl (hw _ (List.mem_of_getElem? (i := 44) rfl))) (by decide) (t := .int) (t' := .long) (by decide) (by decide)))).other W107 (Or.inr (slot_ne (Or.inr (hw _ (List.mem_of_getElem? (i := 35) rfl))) (Or.inl (hw _ (List.mem_of_getElem? (i := 46) rfl))) (by decide) (t := .int) (t' := .long) (by decide) (by decide))))
  have c112 : Fld Z h107 A0 "com/example/terseform/terseform/datatypes/HeldCharacters" "nameLimit" "I" (.int V1) := ((pm1.other W102 (Or.inr (slot_ne (Or.inr (hw _ (List.mem_of_getElem? (i := 37) rfl))) (Or.inl (hw _ (List.mem_of_getElem? (i := 44) rfl))) (by decide) (t := .int) (t' := .long) (by decide) (by decide)))).other W107 (Or.inr (slot_ne (Or.inr (hw _ (List.mem_of_getElem? (i := 37) rfl))) (Or.inl (hw _ (List.mem_of_getElem? (i := 46) rfl))) (by decide) (t := .int) (t' := .long) (by decide) (by decide))))
  have c113 : Fld Z h107 A0 "com/example/terseform/terseform/datatypes/HeldCharacters" "kept" "J" (.long (V2 - P1)) := (Fw102.other W107 (Or.inr (slot_ne (Or.inl (hw _ (List.mem_of_getElem? (i := 44) rfl))) (Or.inl (hw _ (List.mem_of_getElem? (i := 46) rfl))) (by decide) (t := .long) (t' := .long) (by decide) (by decide))))
  have c114 : Fld Z h107 A0 "com/example/terseform/terseform/datatypes/HeldCharacters" "reading" "J" (.long V4) := ((pm4.other W102 (Or.inr (slot_ne (Or.inl (hw _ (List.mem_of_getElem? (i := 54) rfl))) (Or.inl (hw _ (List.mem_of_getElem? (i := 44) rfl))) (by decide) (t := .long) (t' := .long) (by decide) (by decide)))).other W107 (Or.inr (slot_ne (Or.inl (hw _ (List.mem_of_getElem? (i := 54) rfl))) (Or.inl (hw _ (List.mem_of_getElem? (i := 46) rfl))) (by decide) (t := .long) (t' := .long) (by decide) (by decide))))
  have c115 : Fld Z h107 A0 "com/example/terseform/terseform/datatypes/HeldCharacters" "given" "J" (.long V5) := ((pm5.other W102 (Or.inr (slot_ne (Or.inl (hw _ (List.mem_of_getElem? (i := 61) rfl))) (Or.inl (hw _ (List.mem_of_getElem? (i := 44) rfl))) (by decide) (t := .long) (t' := .long) (by decide) (by decide)))).other W107 (Or.inr (slot_ne (Or.inl (hw _ (List.mem_of_getElem? (i := 61) rfl))) (Or.inl (hw _ (List.mem_of_getElem? (i := 46) rfl))) (by decide) (t := .long) (t' := .long) (by decide) (by decide))))
  obtain ⟨fs, hr, hrun, hended, hW, hsame⟩ := X107.leave (v := none) (fun _ => rfl)
  refine ⟨_, _, pre109 _ ?_, hrun, hended, _, _, rfl, ?_, ⟨_, rfl⟩, hW, hsame.mono (by decide) (by decide)⟩
  · show Steps p.tables e below (T107.setTop (mkF m 20 #[.val (.ref A0), .val (.long P1), .second] [])) _
    exact X107.returnOut hx Bd.returns (hb hby d7_20) hr
  · show Q7 Z A0 P1 V0 V1 V2 V3 V4 V5 h0 n0 _ T107.heap _
    rw [e107]
    exact ⟨rfl, N107, K_108, c110, c111, c112, c113, Fw107, c114, c115⟩
theorem d8_0 : decode prog_27_method_3_code 0 = .ok (.aload_n 0, 1) := by decide +kernel
theorem d8_1 : decode prog_27_method_3_code 1 = .ok (.getfield 9, 3) := by decide +kernel
theorem d8_4 : decode prog_27_method_3_code 4 = .ok (.ldc 26, 2) := by decide +kernel
theorem d8_6 : decode prog_27_method_3_code 6 = .ok (.if_icmp .eq 60, 3) := by decide +kernel
theorem d8_9 : decode prog_27_method_3_code 9 = .ok (.aload_n 0, 1) := by decide +kernel
theorem d8_10 : decode prog_27_method_3_code 10 = .ok (.getfield 27, 3) := by decide +kernel
theorem d8_13 : decode prog_27_method_3_code 13 = .ok (.aload_n 0, 1) := by decide +kernel
theorem d8_14 : decode prog_27_method_3_code 14 = .ok (.getfield 31, 3) := by decide +kernel
theorem d8_17 : decode prog_27_method_3_code 17 = .ok (.ladd, 1) := by decide +kernel
theorem d8_18 : decode prog_27_method_3_code 18 = .ok (.aload_n 0, 1) := by decide +kernel
theorem d8_19 : decode prog_27_method_3_code 19 = .ok (.getfield 34, 3) := by decide +kernel
theorem d8_22 : decode prog_27_method_3_code 22 = .ok (.ladd, 1) := by decide +kernel
theorem d8_23 : decode prog_27_method_3_code 23 = .ok (.lload_n 1, 1) := by decide +kernel
theorem d8_24 : decode prog_27_method_3_code 24 = .ok (.ladd, 1) := by decide +kernel
theorem d8_25 : decode prog_27_method_3_code 25 = .ok (.aload_n 0, 1) := by decide +kernel
theorem d8_26 : decode prog_27_method_3_code 26 = .ok (.getfield 9, 3) := by decide +kernel
theorem d8_29 : decode prog_27_method_3_code 29 = .ok (.i2l, 1) := by decide +kernel
theorem d8_30 : decode prog_27_method_3_code 30 = .ok (.lcmp, 1) := by decide +kernel
theorem d8_31 : decode prog_27_method_3_code 31 = .ok (.ifCond .le 35, 3) := by decide +kernel
theorem d8_66 : decode prog_27_method_3_code 66 = .ok (.return_, 1) := by decide +kernel
theorem pn_8 : plainName "com/example/terseform/terseform/datatypes/HeldCharacters" = true := by first | (simp [plainName, overriddenIn]; done) | decide +kernel
theorem ef_8 (m : MethodId) (A0 : Addr) (P1 : Int64) : entryFrame m #[(.ref A0), (.long P1)] 3 = mkF m 0 #[.val (.ref A0), .val (.long P1), .second] [] := by first | (simp [entryFrame, mkF, argsToLocals, Value.category]; done) | rfl
def Q8 (Z : State) (A0 : Addr) (P1 : Int64) (V0 : Int32) (V2 : Int64) (V3 : Int64) (V4 : Int64) (h0 : Heap) (n0 : Nat) (v : Option Value) (h : Heap) (L : List Loc) : Prop := (v = none) ∧ (Fr n0 L) ∧ (h = h0)
set_option maxRecDepth 65536 in
set_option maxHeartbeats 40000000 in
theorem rm8 (l : Launch) (Z : State) (a0 : Array Value) (hw : ∀ d ∈ tables_1, d.before a0 Z = true) (ws : List Jvm.Cond) (A0 : Addr) (P1 : Int64) (V0 : Int32) (V2 : Int64) (V3 : Int64) (V4 : Int64) (h0 : Heap) (n0 : Nat) (Z0 : n0 ≤ h0.size) (pm0 : Fld Z h0 A0 "com/example/terseform/terseform/datatypes/HeldCharacters" "limit" "I" (.int V0)) (pm1 : Fld Z h0 A0 "com/example/terseform/terseform/datatypes/HeldCharacters" "kept" "J" (.long V2)) (pm2 : Fld Z h0 A0 "com/example/terseform/terseform/datatypes/HeldCharacters" "held" "J" (.long V3)) (pm3 : Fld Z h0 A0 "com/example/terseform/terseform/datatypes/HeldCharacters" "reading" "J" (.long V4)) (hroom : ¬ ((V0.toInt64) < (((V2 + V3) + V4) + P1))) :
    MetFree l (⟨"com/example/terseform/terseform/datatypes/HeldCharacters", "checkRoom", "(J)V"⟩ : MethodName) (head1 (Jvm.Cond.code (⟨"com/example/terseform/terseform/datatypes/HeldCharacters", "checkRoom", "(J)V"⟩ : MethodName) prog_27_method_3_code 3 none :: ws) ({ frames := 0, cells := 0, slots := 0, locals := 0 } : Room)) (fun a U => a = #[(.ref A0), (.long P1)] ∧ Z.Warmed39 U.vm ∧ U.heap = h0) (fun _ _ _ _ _ => True) (fun _ U o U' => ∃ v L, o = .returned v ∧ Q8 Z A0 P1 V0 V2 V3 V4 h0 n0 v U'.heap L ∧ FrameEnd U o U' L ({ frames := 0, cells := 0, slots := 0, locals := 0 } : Room).cells ({ frames := 0, cells := 0, slots := 0, locals := 0 } : Room).slots) := by
  refine MetFree.of_bodySF (plainFor_of_name pn_8) hisR ?_
  intro p e s m args below meth c s₁ Bd hml0 hP hK
  obtain ⟨rfl, hZ, hh⟩ := hP
  have hx := Bd.exec
  have hby := Bd.bytes
  have hml : c.maxLocals = 3 := hml0
  have hown : s.vm.findClass "com/example/terseform/terseform/datatypes/HeldCharacters" = some m.cls := findClass_of_methodNamed Bd.named
  have hnm := (name_of_methodNamed Bd.named Bd.method).1
  have X0 : Stand p l e ({ frames := 0, cells := 0, slots := 0, locals := 0 } : Room) s m #[(.ref A0), (.long P1)] below meth c s₁ [] 0 0 := Stand.of_body Bd
  have e0 : s₁.heap = h0 := by rw [← hh, Bd.state]; rfl
  have N0 := Fr.nil n0
  have pre0 : ∀ t, Steps p.tables e below (s₁.setTop (mkF m 0 #[.val (.ref A0), .val (.long P1), .second] [])) t → Steps p.tables e below (s₁.setTop (entryFrame m #[(.ref A0), (.long P1)] 3)) t := fun t k => castTop (ef_8 m A0 P1) k
  obtain ⟨T101, X101, e101, st101⟩ := getF X0 hx hZ hown (host := "") (Or.inl (hw _ (List.mem_of_getElem? (i := 34) rfl))) Via.refl e0 pm0 (g := (mkF m 1 #[.val (.ref A0), .val (.long P1), .second] [(.ref A0)])) rfl rfl (hb hby d8_1)
  have pre102 : ∀ t, Steps p.tables e below (T101.setTop (mkF m 6 #[.val (.ref A0), .val (.long P1), .second] [(.int (2147483647 : Int32)), (.int V0)])) t → Steps p.tables e below (s₁.setTop (entryFrame m #[(.ref A0), (.long P1)] 3)) t := fun t kt => pre0 t (by
      show Steps p.tables e below (s₁.setTop (mkF m 0 #[.val (.ref A0), .val (.long P1), .second] [])) _
      refine XS.aloadN X0.here hx rfl (hb hby d8_0) rfl rfl ?_
      show Steps p.tables e below (s₁.setTop (mkF m 1 #[.val (.ref A0), .val (.long P1), .second] [(.ref A0)])) _
      refine st101 _ ?_
      show Steps p.tables e below (T101.setTop (mkF m 4 #[.val (.ref A0), .val (.long P1), .second] [(.int V0)])) _
      refine X101.ldcInt hx hown (mvT hZ (hw _ (List.mem_of_getElem? (i := 52) rfl))) (g := (mkF m 4 #[.val (.ref A0), .val (.long P1), .second] [(.int V0)])) rfl (hb hby d8_4) _ ?_
      exact kt)
  by_cases hc6 : V0 = (2147483647 : Int32)
  · have pre103 : ∀ t, Steps p.tables e below (T101.setTop (mkF m 66 #[.val (.ref A0), .val (.long P1), .second] [])) t → Steps p.tables e below (s₁.setTop (entryFrame m #[(.ref A0), (.long P1)] 3)) t := fun t kt => pre102 t (by
        show Steps p.tables e below (T101.setTop (mkF m 6 #[.val (.ref A0), .val (.long P1), .second] [(.int (2147483647 : Int32)), (.int V0)])) _
        refine XS.icmpYes X101.here hx rfl (pc0 := 6) (pc' := 66) rfl (hb hby d8_6) rfl (teq hc6).1 (by decide) (by decide) ?_
        exact kt)
    obtain ⟨fs, hr, hrun, hended, hW, hsame⟩ := X101.leave (v := none) (fun _ => rfl)
    refine ⟨_, _, pre103 _ ?_, hrun, hended, _, _, rfl, ?_, ⟨_, rfl⟩, hW, hsame.mono (by decide) (by decide)⟩
    · show Steps p.tables e below (T101.setTop (mkF m 66 #[.val (.ref A0), .val (.long P1), .second] [])) _
      exact X101.returnOut hx Bd.returns (hb hby d8_66) hr
    · show Q8 Z A0 P1 V0 V2 V3 V4 h0 n0 _ T101.heap _
      rw [e101]
      exact ⟨rfl, N0, rfl⟩
  · obtain ⟨T104, X104, e104, st104⟩ := getF X101 hx hZ hown (host := "") (Or.inl (hw _ (List.mem_of_getElem? (i := 43) rfl))) Via.refl e101 pm1 (g := (mkF m 10 #[.val (.ref A0), .val (.long P1), .second] [(.ref A0)])) rfl rfl (hb hby d8_10)
    obtain ⟨T105, X105, e105, st105⟩ := getF X104 hx hZ hown (host := "") (Or.inl (hw _ (List.mem_of_getElem? (i := 45) rfl))) Via.refl e104 pm2 (g := (mkF m 14 #[.val (.ref A0), .val (.long P1), .second] [(.ref A0), (.long V2)])) rfl rfl (hb hby d8_14)
    obtain ⟨T106, X106, e106, st106⟩ := getF X105 hx hZ hown (host := "") (Or.inl (hw _ (List.mem_of_getElem? (i := 53) rfl))) Via.refl e105 pm3 (g := (mkF m 19 #[.val (.ref A0), .val (.long P1), .second] [(.ref A0), (.long (V2 + V3))])) rfl rfl (hb hby d8_19)
    obtain ⟨T107, X107, e107, st107⟩ := getF X106 hx hZ hown (host := "") (Or.inl (hw _ (List.mem_of_getElem? (i := 34) rfl))) Via.refl e106 pm0 (g := (mkF m 26 #[.val (.ref A0), .val (.long P1), .second] [(.ref A0), (.long (((V2 + V3) + V4) + P1))])) rfl rfl (hb hby d8_26)
    have pre108 : ∀ t, Steps p.tables e below (T107.setTop (mkF m 66 #[.val (.ref A0), .val (.long P1), .second] [])) t → Steps p.tables e below (s₁.setTop (entryFrame m #[(.ref A0), (.long P1)] 3)) t := fun t kt => pre102 t (by
        show Steps p.tables e below (T101.setTop (mkF m 6 #[.val (.ref A0), .val (.long P1), .second] [(.int (2147483647 : Int32)), (.int V0)])) _
        refine XS.icmpNo X101.here hx rfl (hb hby d8_6) rfl (feq hc6).1 ?_
        show Steps p.tables e below (T101.setTop (mkF m 9 #[.val (.ref A0), .val (.long P1), .second] [])) _
        refine XS.aloadN X101.here hx rfl (hb hby d8_9) rfl rfl ?_
        show Steps p.tables e below (T101.setTop (mkF m 10 #[.val (.ref A0), .val (.long P1), .second] [(.ref A0)])) _
        refine st104 _ ?_
        show Steps p.tables e below (T104.setTop (mkF m 13 #[.val (.ref A0), .val (.long P1), .second] [(.long V2)])) _
        refine XS.aloadN X104.here hx rfl (hb hby d8_13) rfl rfl ?_
        show Steps p.tables e below (T104.setTop (mkF m 14 #[.val (.ref A0), .val (.long P1), .second] [(.ref A0), (.long V2)])) _
        refine st105 _ ?_
        show Steps p.tables e below (T105.setTop (mkF m 17 #[.val (.ref A0), .val (.long P1), .second] [(.long V3), (.long V2)])) _
        refine XS.ladd X105.here hx rfl (hb hby d8_17) rfl ?_
        show Steps p.tables e below (T105.setTop (mkF m 18 #[.val (.ref A0), .val (.long P1), .second] [(.long (V2 + V3))])) _
        refine XS.aloadN X105.here hx rfl (hb hby d8_18) rfl rfl ?_
        show Steps p.tables e below (T105.setTop (mkF m 19 #[.val (.ref A0), .val (.long P1), .second] [(.ref A0), (.long (V2 + V3))])) _
        refine st106 _ ?_
        show Steps p.tables e below (T106.setTop (mkF m 22 #[.val (.ref A0), .val (.long P1), .second] [(.long V4), (.long (V2 + V3))])) _
        refine XS.ladd X106.here hx rfl (hb hby d8_22) rfl ?_
        show Steps p.tables e below (T106.setTop (mkF m 23 #[.val (.ref A0), .val (.long P1), .second] [(.long ((V2 + V3) + V4))])) _
        refine XS.lloadN X106.here hx rfl (hb hby d8_23) rfl ?_
        show Steps p.tables e below (T106.setTop (mkF m 24 #[.val (.ref A0), .val (.long P1), .second] [(.long P1), (.long ((V2 + V3) + V4))])) _
        refine XS.ladd X106.here hx rfl (hb hby d8_24) rfl ?_
        show Steps p.tables e below (T106.setTop (mkF m 25 #[.val (.ref A0), .val (.long P1), .second] [(.long (((V2 + V3) + V4) + P1))])) _
        refine XS.aloadN X106.here hx rfl (hb hby d8_25) rfl rfl ?_
        show Steps p.tables e below (T106.setTop (mkF m 26 #[.val (.ref A0), .val (.long P1), .second] [(.ref A0), (.long (((V2 + V3) + V4) + P1))])) _
        refine st107 _ ?_
        show Steps p.tables e below (T107.setTop (mkF m 29 #[.val (.ref A0), .val (.long P1), .second] [(.int V0), (.long (((V2 + V3) + V4) + P1))])) _
        refine XS.i2l X107.here hx rfl (hb hby d8_29) rfl ?_
        show Steps p.tables e below (T107.setTop (mkF m 30 #[.val (.ref A0), .val (.long P1), .second] [(.long (V0.toInt64)), (.long (((V2 + V3) + V4) + P1))])) _
        refine XS.lcmp X107.here hx rfl (hb hby d8_30) rfl ?_
        show Steps p.tables e below (T107.setTop (mkF m 31 #[.val (.ref A0), .val (.long P1), .second] [(.int (lcmpW (((V2 + V3) + V4) + P1) (V0.toInt64)))])) _
        refine XS.ifYes X107.here hx rfl (pc0 := 31) (pc' := 66) rfl (hb hby d8_31) rfl ((if0 _ _).trans (flt (fun q => (show ¬ ((V0.toInt64) < (((V2 + V3) + V4) + P1)) from hroom) ((lw_gt (((V2 + V3) + V4) + P1) (V0.toInt64)).mp q))).2.2.2) (by decide) (by decide) ?_
        exact kt)
    obtain ⟨fs, hr, hrun, hended, hW, hsame⟩ := X107.leave (v := none) (fun _ => rfl)
    refine ⟨_, _, pre108 _ ?_, hrun, hended, _, _, rfl, ?_, ⟨_, rfl⟩, hW, hsame.mono (by decide) (by decide)⟩
    · show Steps p.tables e below (T107.setTop (mkF m 66 #[.val (.ref A0), .val (.long P1), .second] [])) _
      exact X107.returnOut hx Bd.returns (hb hby d8_66) hr
    · show Q8 Z A0 P1 V0 V2 V3 V4 h0 n0 _ T107.heap _
      rw [e107]
      exact ⟨rfl, N0, rfl⟩
theorem d10_0 : decode jdk_29_method_70_code 0 = .ok (.lload_n 0, 1) := by decide +kernel
theorem d10_1 : decode jdk_29_method_70_code 1 = .ok (.lload_n 2, 1) := by decide +kernel
theorem d10_2 : decode jdk_29_method_70_code 2 = .ok (.lcmp, 1) := by decide +kernel
theorem d10_3 : decode jdk_29_method_70_code 3 = .ok (.ifCond .gt 7, 3) := by decide +kernel
theorem d10_6 : decode jdk_29_method_70_code 6 = .ok (.lload_n 0, 1) := by decide +kernel
theorem d10_7 : decode jdk_29_method_70_code 7 = .ok (.goto 4, 3) := by decide +kernel
theorem d10_10 : decode jdk_29_method_70_code 10 = .ok (.lload_n 2, 1) := by decide +kernel
theorem d10_11 : decode jdk_29_method_70_code 11 = .ok (.lreturn, 1) := by decide +kernel
theorem ef_10 (m : MethodId) (P0 : Int64) (P1 : Int64) : entryFrame m #[(.long P0), (.long P1)] 4 = mkF m 0 #[.val (.long P0), .second, .val (.long P1), .second] [] := by first | (simp [entryFrame, mkF, argsToLocals, Value.category]; done) | rfl
def Q10 (Z : State) (P0 : Int64) (P1 : Int64) (h0 : Heap) (n0 : Nat) (v : Option Value) (h : Heap) (L : List Loc) : Prop := (v = some (.long (own_min P0 P1))) ∧ (Fr n0 L) ∧ (h = h0)
set_option maxRecDepth 65536 in
set_option maxHeartbeats 40000000 in
theorem rm10 (l : Launch) (Z : State) (a0 : Array Value) (hw : ∀ d ∈ tables_1, d.before a0 Z = true) (ws : List Jvm.Cond) (P0 : Int64) (P1 : Int64) (h0 : Heap) (n0 : Nat) (Z0 : n0 ≤ h0.size) :
    MetFree l (⟨"java/lang/Math", "min", "(JJ)J"⟩ : MethodName) (head1 (Jvm.Cond.code (⟨"java/lang/Math", "min", "(JJ)J"⟩ : MethodName) jdk_29_method_70_code 4 (some .long) :: ws) ({ frames := 0, cells := 0, slots := 0, locals := 0 } : Room)) (fun a U => a = #[(.long P0), (.long P1)] ∧ Z.Warmed39 U.vm ∧ U.heap = h0) (fun _ _ _ _ _ => True) (fun _ U o U' => ∃ v L, o = .returned v ∧ Q10 Z P0 P1 h0 n0 v U'.heap L ∧ FrameEnd U o U' L ({ frames := 0, cells := 0, slots := 0, locals := 0 } : Room).cells ({ frames := 0, cells := 0, slots := 0, locals := 0 } : Room).slots) := by
  refine MetFree.of_bodySF (Jvm.Free.JP.mathPlain rfl (by decide +kernel)) hisR ?_
  intro p e s m args below meth c s₁ Bd hml0 hP hK
  obtain ⟨rfl, hZ, hh⟩ := hP
  have hx := Bd.exec
  have hby := Bd.bytes
  have hml : c.maxLocals = 4 := hml0
  have hown : s.vm.findClass "java/lang/Math" = some m.cls := findClass_of_methodNamed Bd.named
  have hnm := (name_of_methodNamed Bd.named Bd.method).1
  have X0 : Stand p l e ({ frames := 0, cells := 0, slots := 0, locals := 0 } : Room) s m #[(.long P0), (.long P1)] below meth c s₁ [] 0 0 := Stand.of_body Bd
  have e0 : s₁.heap = h0 := by rw [← hh, Bd.state]; rfl
  have N0 := Fr.nil n0
  have pre0 : ∀ t, Steps p.tables e below (s₁.setTop (mkF m 0 #[.val (.long P0), .second, .val (.long P1), .second] [])) t → Steps p.tables e below (s₁.setTop (entryFrame m #[(.long P0), (.long P1)] 4)) t := fun t k => castTop (ef_10 m P0 P1) k
  have pre101 : ∀ t, Steps p.tables e below (s₁.setTop (mkF m 3 #[.val (.long P0), .second, .val (.long P1), .second] [(.int (lcmpW P0 P1))])) t → Steps p.tables e below (s₁.setTop (entryFrame m #[(.long P0), (.long P1)] 4)) t := fun t kt => pre0 t (by
      show Steps p.tables e below (s₁.setTop (mkF m 0 #[.val (.long P0), .second, .val (.long P1), .second] [])) _
      refine XS.lloadN X0.here hx rfl (hb hby d10_0) rfl ?_
      show Steps p.tables e below (s₁.setTop (mkF m 1 #[.val (.long P0), .second, .val (.long P1), .second] [(.long P0)])) _
      refine XS.lloadN X0.here hx rfl (hb hby d10_1) rfl ?_
      show Steps p.tables e below (s₁.setTop (mkF m 2 #[.val (.long P0), .second, .val (.long P1), .second] [(.long P1), (.long P0)])) _
      refine XS.lcmp X0.here hx rfl (hb hby d10_2) rfl ?_
      exact kt)
  by_cases hc3 : P1 < P0
  · have pre102 : ∀ t, Steps p.tables e below (s₁.setTop (mkF m 11 #[.val (.long P0), .second, .val (.long P1), .second] [(.long P1)])) t → Steps p.tables e below (s₁.setTop (entryFrame m #[(.long P0), (.long P1)] 4)) t := fun t kt => pre101 t (by
        show Steps p.tables e below (s₁.setTop (mkF m 3 #[.val (.long P0), .second, .val (.long P1), .second] [(.int (lcmpW P0 P1))])) _
        refine XS.ifYes X0.here hx rfl (pc0 := 3) (pc' := 10) rfl (hb hby d10_3) rfl ((if0 _ _).trans (tlt ((lw_gt P0 P1).mpr hc3)).2.2.1) (by decide) (by decide) ?_
        show Steps p.tables e below (s₁.setTop (mkF m 10 #[.val (.long P0), .second, .val (.long P1), .second] [])) _
        refine XS.lloadN X0.here hx rfl (hb hby d10_10) rfl ?_
        exact kt)
    obtain ⟨fs, hr, hrun, hended, hW, hsame⟩ := X0.leave (v := some (.long P1)) (fun h => by rw [Bd.returns] at h; cases h)
    refine ⟨_, _, pre102 _ ?_, hrun, hended, _, _, rfl, ?_, ⟨_, rfl⟩, hW, hsame.mono (by decide) (by decide)⟩
    · show Steps p.tables e below (s₁.setTop (mkF m 11 #[.val (.long P0), .second, .val (.long P1), .second] [(.long P1)])) _
      exact retOut X0 hx Bd.returns rfl (Or.inr (Or.inl ⟨rfl, rfl, _, rfl⟩)) (hb hby d10_11) hr
    · show Q10 Z P0 P1 h0 n0 _ s₁.heap _
      rw [e0]
      exact ⟨(congrArg (fun z => some (Value.long z)) (show P1 = (own_min P0 P1) from by unfold own_min; rw [if_pos hc3])), N0, rfl⟩
  · have pre103 : ∀ t, Steps p.tables e below (s₁.setTop (mkF m 11 #[.val (.long P0), .second, .val (.long P1), .second] [(.long P0)])) t → Steps p.tables e below (s₁.setTop (entryFrame m #[(.long P0), (.long P1)] 4)) t := fun t kt => pre101 t (by
        show Steps p.tables e below (s₁.setTop (mkF m 3 #[.val (.long P0), .second, .val (.long P1), .second] [(.int (lcmpW P0 P1))])) _
        refine XS.ifNo X0.here hx rfl (hb hby d10_3) rfl ((if0 _ _).trans (flt (fun q => hc3 ((lw_gt P0 P1).mp q))).2.2.1) ?_
        show Steps p.tables e below (s₁.setTop (mkF m 6 #[.val (.long P0), .second, .val (.long P1), .second] [])) _
        refine XS.lloadN X0.here hx rfl (hb hby d10_6) rfl ?_
        show Steps p.tables e below (s₁.setTop (mkF m 7 #[.val (.long P0), .second, .val (.long P1), .second] [(.long P0)])) _
        refine XS.goto X0.here hx rfl (pc0 := 7) (pc' := 11) rfl (hb hby d10_7) (by decide) (by decide) ?_
        exact kt)
    obtain ⟨fs, hr, hrun, hended, hW, hsame⟩ := X0.leave (v := some (.long P0)) (fun h => by rw [Bd.returns] at h; cases h)
    refine ⟨_, _, pre103 _ ?_, hrun, hended, _, _, rfl, ?_, ⟨_, rfl⟩, hW, hsame.mono (by decide) (by decide)⟩
    · show Steps p.tables e below (s₁.setTop (mkF m 11 #[.val (.long P0), .second, .val (.long P1), .second] [(.long P0)])) _
      exact retOut X0 hx Bd.returns rfl (Or.inr (Or.inl ⟨rfl, rfl, _, rfl⟩)) (hb hby d10_11) hr
    · show Q10 Z P0 P1 h0 n0 _ s₁.heap _
      rw [e0]
      exact ⟨(congrArg (fun z => some (Value.long z)) (show P0 = (own_min P0 P1) from by unfold own_min; rw [if_neg hc3])), N0, rfl⟩
theorem d9_0 : decode prog_27_method_13_code 0 = .ok (.aload_n 0, 1) := by decide +kernel
theorem d9_1 : decode prog_27_method_13_code 1 = .ok (.aload_n 0, 1) := by decide +kernel
theorem d9_2 : decode prog_27_method_13_code 2 = .ok (.getfield 31, 3) := by decide +kernel
theorem d9_5 : decode prog_27_method_13_code 5 = .ok (.aload_n 0, 1) := by decide +kernel
theorem d9_6 : decode prog_27_method_13_code 6 = .ok (.getfield 59, 3) := by decide +kernel
theorem d9_9 : decode prog_27_method_13_code 9 = .ok (.invokestatic 68, 3) := by decide +kernel
theorem d9_12 : decode prog_27_method_13_code 12 = .ok (.putfield 31, 3) := by decide +kernel
theorem d9_15 : decode prog_27_method_13_code 15 = .ok (.aload_n 0, 1) := by decide +kernel
theorem d9_16 : decode prog_27_method_13_code 16 = .ok (.lconst 0, 1) := by decide +kernel
theorem d9_17 : decode prog_27_method_13_code 17 = .ok (.putfield 34, 3) := by decide +kernel
theorem d9_20 : decode prog_27_method_13_code 20 = .ok (.return_, 1) := by decide +kernel
theorem pn_9 : plainName "com/example/terseform/terseform/datatypes/HeldCharacters" = true := by first | (simp [plainName, overriddenIn]; done) | decide +kernel
theorem pd_9_0 : parseMethodDescriptor "(JJ)J" = some ⟨[.long, .long], some .long⟩ := by decide +kernel
theorem ef_9 (m : MethodId) (A0 : Addr) : entryFrame m #[(.ref A0)] 1 = mkF m 0 #[.val (.ref A0)] [] := by first | (simp [entryFrame, mkF, argsToLocals, Value.category]; done) | rfl
def Q9 (Z : State) (A0 : Addr) (V0 : Int32) (V1 : Int32) (V2 : Int64) (V3 : Int64) (V4 : Int64) (V5 : Int64) (h0 : Heap) (n0 : Nat) (v : Option Value) (h : Heap) (L : List Loc) : Prop := (v = none) ∧ (Fr n0 L) ∧ (Keep h0 h [A0]) ∧ (Exa Z h A0 "com/example/terseform/terseform/datatypes/HeldCharacters") ∧ (Fld Z h A0 "com/example/terseform/terseform/datatypes/HeldCharacters" "limit" "I" (.int V0)) ∧ (Fld Z h A0 "com/example/terseform/terseform/datatypes/HeldCharacters" "nameLimit" "I" (.int V1)) ∧ (Fld Z h A0 "com/example/terseform/terseform/datatypes/HeldCharacters" "kept" "J" (.long V2)) ∧ (Fld Z h A0 "com/example/terseform/terseform/datatypes/HeldCharacters" "held" "J" (.long (own_min V3 V5))) ∧ (Fld Z h A0 "com/example/terseform/terseform/datatypes/HeldCharacters" "reading" "J" (.long (0 : Int64))) ∧ (Fld Z h A0 "com/example/terseform/terseform/datatypes/HeldCharacters" "given" "J" (.long V5))
set_option maxRecDepth 65536 in
set_option maxHeartbeats 40000000 in
theorem rm9 (l : Launch) (Z : State) (a0 : Array Value) (hw : ∀ d ∈ tables_1, d.before a0 Z = true) (ws : List Jvm.Cond) (A0 : Addr) (V0 : Int32) (V1 : Int32) (V2 : Int64) (V3 : Int64) (V4 : Int64) (V5 : Int64) (h0 : Heap) (n0 : Nat) (Z0 : n0 ≤ h0.size) (pm0 : Fld Z h0 A0 "com/example/terseform/terseform/datatypes/HeldCharacters" "limit" "I" (.int V0)) (pm1 : Fld Z h0 A0 "com/example/terseform/terseform/datatypes/HeldCharacters" "nameLimit" "I" (.int V1)) (pm2 : Fld Z h0 A0 "com/example/terseform/terseform/datatypes/HeldCharacters" "kept" "J" (.long V2)) (pm3 : Fld Z h0 A0 "com/example/terseform/terseform/datatypes/HeldCharacters" "held" "J" (.long V3)) (pm4 : Fld Z h0 A0 "com/example/terseform/terseform/datatypes/HeldCharacters" "reading" "J" (.long V4)) (pm5 : Fld Z h0 A0 "com/example/terseform/terseform/datatypes/HeldCharacters" "given" "J" (.long V5)) (pm6 : Exa Z h0 A0 "com/example/terseform/terseform/datatypes/HeldCharacters") (g_A0 : n0 ≤ A0) :
    MetFree l (⟨"com/example/terseform/terseform/datatypes/HeldCharacters", "release", "()V"⟩ : MethodName) (head1 (Jvm.Cond.code (⟨"com/example/terseform/terseform/datatypes/HeldCharacters", "release", "()V"⟩ : MethodName) prog_27_method_13_code 1 none :: ws) ({ frames := 1, cells := 0, slots := 0, locals := 16 } : Room)) (fun a U => a = #[(.ref A0)] ∧ Z.Warmed39 U.vm ∧ U.heap = h0) (fun _ _ _ _ _ => True) (fun _ U o U' => ∃ v L, o = .returned v ∧ Q9 Z A0 V0 V1 V2 V3 V4 V5 h0 n0 v U'.heap L ∧ FrameEnd U o U' L ({ frames := 1, cells := 0, slots := 0, locals := 16 } : Room).cells ({ frames := 1, cells := 0, slots := 0, locals := 16 } : Room).slots) := by
  refine MetFree.of_bodySF (plainFor_of_name pn_9) hisR ?_
  intro p e s m args below meth c s₁ Bd hml0 hP hK
  obtain ⟨rfl, hZ, hh⟩ := hP
  have hx := Bd.exec
  have hby := Bd.bytes
  have hml : c.maxLocals = 1 := hml0
  have hown : s.vm.findClass "com/example/terseform/terseform/datatypes/HeldCharacters" = some m.cls := findClass_of_methodNamed Bd.named
  have hnm := (name_of_methodNamed Bd.named Bd.method).1
  have X0 : Stand p l e ({ frames := 1, cells := 0, slots := 0, locals := 16 } : Room) s m #[(.ref A0)] below meth c s₁ [] 0 0 := Stand.of_body Bd
  have e0 : s₁.heap = h0 := by rw [← hh, Bd.state]; rfl
  have N0 := Fr.nil n0
  have pre0 : ∀ t, Steps p.tables e below (s₁.setTop (mkF m 0 #[.val (.ref A0)] [])) t → Steps p.tables e below (s₁.setTop (entryFrame m #[(.ref A0)] 1)) t := fun t k => castTop (ef_9 m A0) k
  have K_0 : Keep h0 h0 [A0] := Keep.refl h0 _
  obtain ⟨T101, X101, e101, st101⟩ := getF X0 hx hZ hown (host := "") (Or.inl (hw _ (List.mem_of_getElem? (i := 45) rfl))) Via.refl e0 pm3 (g := (mkF m 2 #[.val (.ref A0)] [(.ref A0), (.ref A0)])) rfl rfl (hb hby d9_2)
  obtain ⟨T102, X102, e102, st102⟩ := getF X101 hx hZ hown (host := "") (Or.inl (hw _ (List.mem_of_getElem? (i := 60) rfl))) Via.refl e101 pm5 (g := (mkF m 6 #[.val (.ref A0)] [(.ref A0), (.long V3), (.ref A0)])) rfl rfl (hb hby d9_6)
  obtain ⟨_, _, ⟨T103, L103, k103, n103⟩, -, X103, ⟨Lc103, hQ103, l103, y103, z103⟩, st103⟩ := Jvm.LawKit.callS X102 hx (y := (⟨"java/lang/Math", "min", "(JJ)J"⟩ : MethodName)) hown (mvT hZ (hw _ (List.mem_of_getElem? (i := 62) rfl))) (mvT hZ (hw _ (List.mem_of_getElem? (i := 63) rfl))) (mvT hZ (hw _ (List.mem_of_getElem? (i := 64) rfl))) (mvT hZ (hw _ (List.mem_of_getElem? (i := 65) rfl))) (by decide) (backOf (W := 1) (rm10 l Z a0 hw [] V3 V5 h0 n0 Z0 ) hZ (hw _ (List.mem_of_getElem? (i := 65) rfl)) (hw _ (List.mem_of_getElem? (i := 64) rfl)) (by decide) (by decide)) (g := (mkF m 9 #[.val (.ref A0)] [(.long V5), (.long V3), (.ref A0)])) rfl (by rw [hml]; rfl) (argsL := [(.long V3), (.long V5)]) (rest := [(.ref A0)]) (lenOf pd_9_0 rfl) rfl (by show 2 * 0 + _ ≤ _; exact Nat.le_of_eq rfl) (hb hby d9_9) (fun _ _ => ⟨rfl, e102, (by decide : 0 + 0 ≤ _), (by decide : 0 + 0 ≤ _)⟩)
  dsimp only [Pt.U, Pt.locs, Pt.cells, Pt.slots] at X103 l103 y103 z103 st103 hQ103
  subst l103 y103 z103
  obtain ⟨rfl, N103q, K103⟩ := hQ103
  have N103 := Fr.app N0 N103q
  obtain ⟨T104, h104, X104, e104, W104, st104⟩ := putF X103 hx hZ hown (host := "") (Or.inl (hw _ (List.mem_of_getElem? (i := 45) rfl))) Via.refl K103 pm3 pm6 (Or.inl (hw _ (List.mem_of_getElem? (i := 46) rfl))) (hw _ (List.mem_of_getElem? (i := 28) rfl)) (ty := .long) (by decide) rfl rfl (g := (mkF m 12 #[.val (.ref A0)] [(.long (own_min V3 V5)), (.ref A0)])) rfl rfl (hb hby d9_12)
  have Z105 : n0 ≤ h104.size := Nat.le_trans Z0 (Nat.le_of_eq W104.size.symm)
  have K_105 : Keep h0 h104 [A0] := K_0.wr W104 (Or.inl (List.mem_of_getElem? (i := 0) rfl))
  have Fw104 : Fld Z h104 A0 "com/example/terseform/terseform/datatypes/HeldCharacters" "held" "J" (.long (own_min V3 V5)) := pm3.same W104
  have N104 := Fr.snoc X104 N103 g_A0
  have c106 : Exa Z h104 A0 "com/example/terseform/terseform/datatypes/HeldCharacters" := (pm6.wr W104)
  have c107 : Fld Z h104 A0 "com/example/terseform/terseform/datatypes/HeldCharacters" "reading" "J" (.long V4) := (pm4.other W104 (Or.inr (slot_ne (Or.inl (hw _ (List.mem_of_getElem? (i := 54) rfl))) (Or.inl (hw _ (List.mem_of_getElem? (i := 46) rfl))) (by decide) (t := .long) (t' := .long) (by decide) (by decide))))
  obtain ⟨T108, h108, X108, e108, W108, st108⟩ := putF X104 hx hZ hown (host := "") (Or.inl (hw _ (List.mem_of_getElem? (i := 53) rfl))) Via.refl e104 c107 c106 (Or.inl (hw _ (List.mem_of_getElem? (i := 54) rfl))) (hw _ (List.mem_of_getElem? (i := 28) rfl)) (ty := .long) (by decide) rfl rfl (g := (mkF m 17 #[.val (.ref A0)] [(.long (0 : Int64)), (.ref A0)])) rfl rfl (hb hby d9_17)
  have Z109 : n0 ≤ h108.size := Nat.le_trans Z105 (Nat.le_of_eq W108.size.symm)
  have K_109 : Keep h0 h108 [A0] := K_105.wr W108 (Or.inl (List.mem_of_getElem? (i := 0) rfl))
  have Fw108 : Fld Z h108 A0 "com/example/terseform/terseform/datatypes/HeldCharacters" "reading" "J" (.long (0 : Int64)) := c107.same W108
  have N108 := Fr.snoc X108 N104 g_A0
  have pre110 : ∀ t, Steps p.tables e below (T108.setTop (mkF m 20 #[.val (.ref A0)] [])) t → Steps p.tables e below (s₁.setTop (entryFrame m #[(.ref A0)] 1)) t := fun t kt => pre0 t (by
      show Steps p.tables e below (s₁.setTop (mkF m 0 #[.val (.ref A0)] [])) _
      refine XS.aloadN X0.here hx rfl (hb hby d9_0) rfl rfl ?_
      show Steps p.tables e below (s₁.setTop (mkF m 1 #[.val (.ref A0)] [(.ref A0)])) _
      refine XS.aloadN X0.here hx rfl (hb hby d9_1) rfl rfl ?_
      show Steps p.tables e below (s₁.setTop (mkF m 2 #[.val (.ref A0)] [(.ref A0), (.ref A0)])) _
      refine st101 _ ?_
      show Steps p.tables e below (T101.setTop (mkF m 5 #[.val (.ref A0)] [(.long V3), (.ref A0)])) _
      refine XS.aloadN X101.here hx rfl (hb hby d9_5) rfl rfl ?_
      show Steps p.tables e below (T101.setTop (mkF m 6 #[.val (.ref A0)] [(.ref A0), (.long V3), (.ref A0)])) _
      refine st102 _ ?_
      show Steps p.tables e below (T102.setTop (mkF m 9 #[.val (.ref A0)] [(.long V5), (.long V3), (.ref A0)])) _
      refine st103 _ ?_
      show Steps p.tables e below (T103.setTop (mkF m 12 #[.val (.ref A0)] [(.long (own_min V3 V5)), (.ref A0)])) _
      refine st104 _ ?_
      show Steps p.tables e below (T104.setTop (mkF m 15 #[.val (.ref A0)] [])) _
      refine XS.aloadN X104.here hx rfl (hb hby d9_15) rfl rfl ?_
      show Steps p.tables e below (T104.setTop (mkF m 16 #[.val (.ref A0)] [(.ref A0)])) _
      refine XS.lconst X104.here hx rfl (hb hby d9_16) ?_
      show Steps p.tables e below (T104.setTop (mkF m 17 #[.val (.ref A0)] [(.long (0 : Int64)), (.ref A0)])) _
      refine st108 _ ?_
      exact kt)
  have c111 : Exa Z h108 A0 "com/example/terseform/terseform/datatypes/HeldCharacters" := (c106.wr W108)
  have c112 : Fld Z h108 A0 "com/example/terseform/terseform/datatypes/HeldCharacters" "limit" "I" (.int V0) := ((pm0.other W104 (Or.inr (slot_ne (Or.inr (hw _ (List.mem_of_getElem? (i := 35) rfl))) (Or.inl (hw _ (List.mem_of_getElem? (i := 46) rfl))) (by decide) (t := .int) (t' := .long) (by decide) (by decide)))).other W108 (Or.inr (slot_ne (Or.inr (hw _ (List.mem_of_getElem? (i := 35) rfl))) (Or.inl (hw _ (List.mem_of_getElem? (i := 54) rfl))) (by decide) (t := .int) (t' := .long) (by decide) (by decide))))
  have c113 : Fld Z h108 A0 "com/example/terseform/terseform/datatypes/HeldCharacters" "nameLimit" "I" (.int V1) := ((pm1.other W104 (Or.inr (slot_ne (Or.inr (hw _ (List.mem_of_getElem? (i := 37) rfl))) (Or.inl (hw _ (List.mem_of_getElem? (i := 46) rfl))) (by decide) (t := .int) (t' := .long) (by decide) (by decide)))).other W108 (Or.inr (slot_ne (Or.inr (hw _ (List.mem_of_getElem? (i := 37) rfl))) (Or.inl (hw _ (List.mem_of_getElem? (i := 54) rfl))) (by decide) (t := .int) (t' := .long) (by decide) (by decide))))
  have c114 : Fld Z h108 A0 "com/example/terseform/terseform/datatypes/HeldCharacters" "kept" "J" (.long V2) := ((pm2.other W104 (Or.inr (slot_ne (Or.inl (hw _ (List.mem_of_getElem? (i := 44) rfl))) (Or.inl (hw _ (List.mem_of_getElem? (i := 46) rfl))) (by decide) (t := .long) (t' := .long) (by decide) (by decide)))).other W108 (Or.inr (slot_ne (Or.inl (hw _ (List.mem_of_getElem? (i := 44) rfl))) (Or.inl (hw _ (List.mem_of_getElem? (i := 54) rfl))) (by decide) (t := .long) (t' := .long) (by decide) (by decide))))
  have c115 : Fld Z h108 A0 "com/example/terseform/terseform/datatypes/HeldCharacters" "held" "J" (.long (own_min V3 V5)) := (Fw104.other W108 (Or.inr (slot_ne (Or.inl (hw _ (List.mem_of_getElem? (i := 46) rfl))) (Or.inl (hw _ (List.mem_of_getElem? (i := 54) rfl))) (by decide) (t := .long) (t' := .long) (by decide) (by decide))))
  have c116 : Fld Z h108 A0 "com/example/terseform/terseform/datatypes/HeldCharacters" "given" "J" (.long V5) := ((pm5.other W104 (Or.inr (slot_ne (Or.inl (hw _ (List.mem_of_getElem? (i := 61) rfl))) (Or.inl (hw _ (List.mem_of_getElem? (i := 46) rfl))) (by decide) (t := .long) (t' := .long) (by decide) (by decide)))).other W108 (Or.inr (slot_ne (Or.inl (hw _ (List.mem_of_getElem? (i := 61) rfl))) (Or.inl (hw _ (List.mem_of_getElem? (i := 54) rfl))) (by decide) (t := .long) (t' := .long) (by decide) (by decide))))
  obtain ⟨fs, hr, hrun, hended, hW, hsame⟩ := X108.leave (v := none) (fun _ => rfl)
  refine ⟨_, _, pre110 _ ?_, hrun, hended, _, _, rfl, ?_, ⟨_, rfl⟩, hW, hsame.mono (by decide) (by decide)⟩
  · show Steps p.tables e below (T108.setTop (mkF m 20 #[.val (.ref A0)] [])) _
    exact X108.returnOut hx Bd.returns (hb hby d9_20) hr
  · show Q9 Z A0 V0 V1 V2 V3 V4 V5 h0 n0 _ T108.heap _
    rw [e108]
    exact ⟨rfl, N108, K_109, c111, c112, c113, c114, c115, Fw108, c116⟩
theorem d11_0 : decode prog_27_method_10_code 0 = .ok (.aload_n 1, 1) := by decide +kernel
theorem d11_1 : decode prog_27_method_10_code 1 = .ok (.invokevirtual 53, 3) := by decide +kernel
theorem d11_4 : decode prog_27_method_10_code 4 = .ok (.ifCond .ne 16, 3) := by decide +kernel
theorem d11_7 : decode prog_27_method_10_code 7 = .ok (.aload_n 0, 1) := by decide +kernel
theorem d11_8 : decode prog_27_method_10_code 8 = .ok (.dup, 1) := by decide +kernel
theorem d11_9 : decode prog_27_method_10_code 9 = .ok (.getfield 59, 3) := by decide +kernel
theorem d11_12 : decode prog_27_method_10_code 12 = .ok (.aload_n 1, 1) := by decide +kernel
theorem d11_13 : decode prog_27_method_10_code 13 = .ok (.invokestatic 46, 3) := by decide +kernel
theorem d11_16 : decode prog_27_method_10_code 16 = .ok (.ladd, 1) := by decide +kernel
theorem d11_17 : decode prog_27_method_10_code 17 = .ok (.putfield 59, 3) := by decide +kernel
theorem d11_20 : decode prog_27_method_10_code 20 = .ok (.return_, 1) := by decide +kernel
theorem pn_11 : plainName "com/example/terseform/terseform/datatypes/HeldCharacters" = true := by first | (simp [plainName, overriddenIn]; done) | decide +kernel
theorem pd_11_0 : parseMethodDescriptor "()Z" = some ⟨[], some .boolean⟩ := by decide +kernel
theorem pd_11_1 : parseMethodDescriptor "(Ljava/lang/String;)J" = some ⟨[(.object "java/lang/String")], some .long⟩ := by decide +kernel
theorem ef_11 (m : MethodId) (A0 : Addr) (A1 : Addr) : entryFrame m #[(.ref A0), (.ref A1)] 2 = mkF m 0 #[.val (.ref A0), .val (.ref A1)] [] := by first | (simp [entryFrame, mkF, argsToLocals, Value.category]; done) | rfl
def Q11 (Z : State) (A0 : Addr) (A1 : Addr) (V0 : Int32) (V1 : Int32) (V2 : Int64) (V3 : Int64) (V4 : Int64) (V5 : Int64) (W0 : Addr) (K0 : ClassId) (XV0 : Int32) (W1 : Int32) (h0 : Heap) (n0 : Nat) (v : Option Value) (h : Heap) (L : List Loc) : Prop := (v = none) ∧ (Fr n0 L) ∧ (Keep h0 h [A0]) ∧ (Exa Z h A0 "com/example/terseform/terseform/datatypes/HeldCharacters") ∧ (Fld Z h A0 "com/example/terseform/terseform/datatypes/HeldCharacters" "limit" "I" (.int V0)) ∧ (Fld Z h A0 "com/example/terseform/terseform/datatypes/HeldCharacters" "nameLimit" "I" (.int V1)) ∧ (Fld Z h A0 "com/example/terseform/terseform/datatypes/HeldCharacters" "kept" "J" (.long V2)) ∧ (Fld Z h A0 "com/example/terseform/terseform/datatypes/HeldCharacters" "held" "J" (.long V3)) ∧ (Fld Z h A0 "com/example/terseform/terseform/datatypes/HeldCharacters" "reading" "J" (.long V4)) ∧ (Fld Z h A0 "com/example/terseform/terseform/datatypes/HeldCharacters" "given" "J" (.long (V5 + (33 : Int64))))
set_option maxRecDepth 65536 in
set_option maxHeartbeats 40000000 in
theorem rm11 (l : Launch) (Z : State) (a0 : Array Value) (hw : ∀ d ∈ tables_1, d.before a0 Z = true) (ws : List Jvm.Cond) (A0 : Addr) (A1 : Addr) (V0 : Int32) (V1 : Int32) (V2 : Int64) (V3 : Int64) (V4 : Int64) (V5 : Int64) (W0 : Addr) (K0 : ClassId) (XV0 : Int32) (W1 : Int32) (h0 : Heap) (n0 : Nat) (Z0 : n0 ≤ h0.size) (pm0 : Fld Z h0 A0 "com/example/terseform/terseform/datatypes/HeldCharacters" "limit" "I" (.int V0)) (pm1 : Fld Z h0 A0 "com/example/terseform/terseform/datatypes/HeldCharacters" "nameLimit" "I" (.int V1)) (pm2 : Fld Z h0 A0 "com/example/terseform/terseform/datatypes/HeldCharacters" "kept" "J" (.long V2)) (pm3 : Fld Z h0 A0 "com/example/terseform/terseform/datatypes/HeldCharacters" "held" "J" (.long V3)) (pm4 : Fld Z h0 A0 "com/example/terseform/terseform/datatypes/HeldCharacters" "reading" "J" (.long V4)) (pm5 : Fld Z h0 A0 "com/example/terseform/terseform/datatypes/HeldCharacters" "given" "J" (.long V5)) (pm6 : Exa Z h0 A0 "com/example/terseform/terseform/datatypes/HeldCharacters") (pm7 : Exa Z h0 A1 "java/lang/String") (pm8 : Fld Z h0 A1 "java/lang/String" "value" "[B" (.ref W0)) (pm9 : Fld Z h0 A1 "java/lang/String" "coder" "B" (.int (0 : Int32))) (pm10 : Arv Z h0 W0 K0 .byte (1 : Int32) [(.int XV0)] (.int (0 : Int32))) (pm11 : Sta Z h0 "java/lang/String" "COMPACT_STRINGS" "Z" (.int W1)) (hcs : ¬ (W1 = (0 : Int32))) (hne : A1 ≠ A0) (hne2 : W0 ≠ A0) (g_A0 : n0 ≤ A0) :
    MetFree l (⟨"com/example/terseform/terseform/datatypes/HeldCharacters", "holdGiven", "(Ljava/lang/String;)V"⟩ : MethodName) (head1 (Jvm.Cond.code (⟨"com/example/terseform/terseform/datatypes/HeldCharacters", "holdGiven", "(Ljava/lang/String;)V"⟩ : MethodName) prog_27_method_10_code 2 none :: ws) ({ frames := 3, cells := 0, slots := 0, locals := 40 } : Room)) (fun a U => a = #[(.ref A0), (.ref A1)] ∧ Z.Warmed39 U.vm ∧ U.heap = h0) (fun _ _ _ _ _ => True) (fun _ U o U' => ∃ v L, o = .returned v ∧ Q11 Z A0 A1 V0 V1 V2 V3 V4 V5 W0 K0 XV0 W1 h0 n0 v U'.heap L ∧ FrameEnd U o U' L ({ frames := 3, cells := 0, slots := 0, locals := 40 } : Room).cells ({ frames := 3, cells := 0, slots := 0, locals := 40 } : Room).slots) := by
  refine MetFree.of_bodySF (plainFor_of_name pn_11) hisR ?_
  intro p e s m args below meth c s₁ Bd hml0 hP hK
  obtain ⟨rfl, hZ, hh⟩ := hP
  have hx := Bd.exec
  have hby := Bd.bytes
  have hml : c.maxLocals = 2 := hml0
  have hown : s.vm.findClass "com/example/terseform/terseform/datatypes/HeldCharacters" = some m.cls := findClass_of_methodNamed Bd.named
  have hnm := (name_of_methodNamed Bd.named Bd.method).1
  have X0 : Stand p l e ({ frames := 3, cells := 0, slots := 0, locals := 40 } : Room) s m #[(.ref A0), (.ref A1)] below meth c s₁ [] 0 0 := Stand.of_body Bd
  have e0 : s₁.heap = h0 := by rw [← hh, Bd.state]; rfl
  have N0 := Fr.nil n0
  have pre0 : ∀ t, Steps p.tables e below (s₁.setTop (mkF m 0 #[.val (.ref A0), .val (.ref A1)] [])) t → Steps p.tables e below (s₁.setTop (entryFrame m #[(.ref A0), (.ref A1)] 2)) t := fun t k => castTop (ef_11 m A0 A1) k
  have K_0 : Keep h0 h0 [A0] := Keep.refl h0 _
  obtain ⟨cq101, kq101, q101a, q101b, q101c⟩ := isOf hZ e0 pm7
  obtain ⟨_, _, ⟨T101, L101, k101, n101⟩, -, X101, ⟨Lc101, hQ101, l101, y101, z101⟩, st101⟩ := X0.virtualBack hx (y := (⟨"java/lang/String", "isEmpty", "()Z"⟩ : MethodName)) (z := (⟨"java/lang/String", "isEmpty", "()Z"⟩ : MethodName)) hown (mvT hZ (hw _ (List.mem_of_getElem? (i := 72) rfl))) (mvT hZ (hw _ (List.mem_of_getElem? (i := 73) rfl))) (notFace_of_selects (args := #[]) (mvT hZ (hw _ (List.mem_of_getElem? (i := 75) rfl)))) (mvT hZ (hw _ (List.mem_of_getElem? (i := 75) rfl))) (mvT hZ (hw _ (List.mem_of_getElem? (i := 74) rfl))) (by decide) (backOf (W := 0) (rm12 l Z a0 hw [] A1 W0 K0 XV0 h0 n0 Z0 pm8 pm10) hZ (hw _ (List.mem_of_getElem? (i := 76) rfl)) (hw _ (List.mem_of_getElem? (i := 3) rfl)) (by decide) (by decide)) q101a q101c (g := (mkF m 1 #[.val (.ref A0), .val (.ref A1)] [(.ref A1)])) rfl (by rw [hml]; rfl) (Steps.refl _) (argsL := []) (rest := []) (lenOf pd_11_0 rfl) rfl (by show 2 * 0 + _ ≤ _; exact Nat.le_of_eq rfl) (hb hby d11_1) (fun _ _ => ⟨rfl, e0, (by decide : 0 + 0 ≤ _), (by decide : 0 + 0 ≤ _)⟩)
  dsimp only [Pt.U, Pt.locs, Pt.cells, Pt.slots] at X101 l101 y101 z101 st101 hQ101
  subst l101 y101 z101
  obtain ⟨rfl, N101q, K101⟩ := hQ101
  have N101 := Fr.app N0 N101q
  obtain ⟨T102, X102, e102, st102⟩ := getF X101 hx hZ hown (host := "") (Or.inl (hw _ (List.mem_of_getElem? (i := 60) rfl))) Via.refl K101 pm5 (g := (mkF m 9 #[.val (.ref A0), .val (.ref A1)] [(.ref A0), (.ref A0)])) rfl rfl (hb hby d11_9)
  obtain ⟨_, _, ⟨T103, L103, k103, n103⟩, -, X103, ⟨Lc103, hQ103, l103, y103, z103⟩, st103⟩ := Jvm.LawKit.callS X102 hx (y := (⟨"com/example/terseform/terseform/datatypes/HeldCharacters", "count", "(Ljava/lang/String;)J"⟩ : MethodName)) hown (mvT hZ (hw _ (List.mem_of_getElem? (i := 77) rfl))) (mvT hZ (hw _ (List.mem_of_getElem? (i := 78) rfl))) (mvT hZ (hw _ (List.mem_of_getElem? (i := 29) rfl))) (mvT hZ (hw _ (List.mem_of_getElem? (i := 79) rfl))) (by decide) (backOf (W := 3) (rm13 l Z a0 hw [] A1 W0 K0 XV0 W1 h0 n0 Z0 pm7 pm8 pm9 pm10 pm11 (show ¬ (W1 = (0 : Int32)) from hcs)) hZ (hw _ (List.mem_of_getElem? (i := 79) rfl)) (hw _ (List.mem_of_getElem? (i := 29) rfl)) (by decide) (by decide)) (g := (mkF m 13 #[.val (.ref A0), .val (.ref A1)] [(.ref A1), (.long V5), (.ref A0)])) rfl (by rw [hml]; rfl) (argsL := [(.ref A1)]) (rest := [(.long V5), (.ref A0)]) (lenOf pd_11_1 rfl) rfl (by show 2 * 0 + _ ≤ _; exact Nat.le_of_eq rfl) (hb hby d11_13) (fun _ _ => ⟨rfl, e102, (by decide : 0 + 0 ≤ _), (by decide : 0 + 0 ≤ _)⟩)
  dsimp only [Pt.U, Pt.locs, Pt.cells, Pt.slots] at X103 l103 y103 z103 st103 hQ103
  subst l103 y103 z103
  obtain ⟨rfl, N103q, K103⟩ := hQ103
  have N103 := Fr.app N101 N103q
  obtain ⟨T104, h104, X104, e104, W104, st104⟩ := putF X103 hx hZ hown (host := "") (Or.inl (hw _ (List.mem_of_getElem? (i := 60) rfl))) Via.refl K103 pm5 pm6 (Or.inl (hw _ (List.mem_of_getElem? (i := 61) rfl))) (hw _ (List.mem_of_getElem? (i := 28) rfl)) (ty := .long) (by decide) rfl rfl (g := (mkF m 17 #[.val (.ref A0), .val (.ref A1)] [(.long (V5 + (33 : Int64))), (.ref A0)])) rfl rfl (hb hby d11_17)
  have Z105 : n0 ≤ h104.size := Nat.le_trans Z0 (Nat.le_of_eq W104.size.symm)
  have K_105 : Keep h0 h104 [A0] := K_0.wr W104 (Or.inl (List.mem_of_getElem? (i := 0) rfl))
  have Fw104 : Fld Z h104 A0 "com/example/terseform/terseform/datatypes/HeldCharacters" "given" "J" (.long (V5 + (33 : Int64))) := pm5.same W104
  have N104 := Fr.snoc X104 N103 g_A0
  have pre106 : ∀ t, Steps p.tables e below (T104.setTop (mkF m 20 #[.val (.ref A0), .val (.ref A1)] [])) t → Steps p.tables e below (s₁.setTop (entryFrame m #[(.ref A0), (.ref A1)] 2)) t := fun t kt => pre0 t (by
      show Steps p.tables e below (s₁.setTop (mkF m 0 #[.val (.ref A0), .val (.ref A1)] [])) _
      refine XS.aloadN X0.here hx rfl (hb hby d11_0) rfl rfl ?_
      show Steps p.tables e below (s₁.setTop (mkF m 1 #[.val (.ref A0), .val (.ref A1)] [(.ref A1)])) _
      refine st101.trans ?_
      show Steps p.tables e below (T101.setTop (mkF m 4 #[.val (.ref A0), .val (.ref A1)] [(.int (0 : Int32))])) _
      refine XS.ifNo X101.here hx rfl (hb hby d11_4) rfl ((if0 _ _).trans (teq (show (0 : Int32) = (0 : Int32) from (by decide))).2) ?_
      show Steps p.tables e below (T101.setTop (mkF m 7 #[.val (.ref A0), .val (.ref A1)] [])) _
      refine XS.aloadN X101.here hx rfl (hb hby d11_7) rfl rfl ?_
      show Steps p.tables e below (T101.setTop (mkF m 8 #[.val (.ref A0), .val (.ref A1)] [(.ref A0)])) _
      refine XS.dup X101.here hx rfl (hb hby d11_8) rfl rfl ?_
      show Steps p.tables e below (T101.setTop (mkF m 9 #[.val (.ref A0), .val (.ref A1)] [(.ref A0), (.ref A0)])) _
      refine st102 _ ?_
      show Steps p.tables e below (T102.setTop (mkF m 12 #[.val (.ref A0), .val (.ref A1)] [(.long V5), (.ref A0)])) _
      refine XS.aloadN X102.here hx rfl (hb hby d11_12) rfl rfl ?_
      show Steps p.tables e below (T102.setTop (mkF m 13 #[.val (.ref A0), .val (.ref A1)] [(.ref A1), (.long V5), (.ref A0)])) _
      refine st103 _ ?_
      show Steps p.tables e below (T103.setTop (mkF m 16 #[.val (.ref A0), .val (.ref A1)] [(.long (33 : Int64)), (.long V5), (.ref A0)])) _
      refine XS.ladd X103.here hx rfl (hb hby d11_16) rfl ?_
      show Steps p.tables e below (T103.setTop (mkF m 17 #[.val (.ref A0), .val (.ref A1)] [(.long (V5 + (33 : Int64))), (.ref A0)])) _
      refine st104 _ ?_
      exact kt)
  have c107 : Exa Z h104 A0 "com/example/terseform/terseform/datatypes/HeldCharacters" := (pm6.wr W104)
  have c108 : Fld Z h104 A0 "com/example/terseform/terseform/datatypes/HeldCharacters" "limit" "I" (.int V0) := (pm0.other W104 (Or.inr (slot_ne (Or.inr (hw _ (List.mem_of_getElem? (i := 35) rfl))) (Or.inl (hw _ (List.mem_of_getElem? (i := 61) rfl))) (by decide) (t := .int) (t' := .long) (by decide) (by decide))))
  have c109 : Fld Z h104 A0 "com/example/terseform/terseform/datatypes/HeldCharacters" "nameLimit" "I" (.int V1) := (pm1.other W104 (Or.inr (slot_ne (Or.inr (hw _ (List.mem_of_getElem? (i := 37) rfl))) (Or.inl (hw _ (List.mem_of_getElem? (i := 61) rfl))) (by decide) (t := .int) (t' := .long) (by decide) (by decide))))
  have c110 : Fld Z h104 A0 "com/example/terseform/terseform/datatypes/HeldCharacters" "kept" "J" (.long V2) := (pm2.other W104 (Or.inr (slot_ne (Or.inl (hw _ (List.mem_of_getElem? (i := 44) rfl))) (Or.inl (hw _ (List.mem_of_getElem? (i := 61) rfl))) (by decide) (t := .long) (t' := .long) (by decide) (by decide))))
  have c111 : Fld Z h104 A0 "com/example/terseform/terseform/datatypes/HeldCharacters" "held" "J" (.long V3) := (pm3.other W104 (Or.inr (slot_ne (Or.inl (hw _ (List.mem_of_getElem? (i := 46) rfl))) (Or.inl (hw _ (List.mem_of_getElem? (i := 61) rfl))) (by decide) (t := .long) (t' := .long) (by decide) (by decide))))
  have c112 : Fld Z h104 A0 "com/example/terseform/terseform/datatypes/HeldCharacters" "reading" "J" (.long V4) := (pm4.other W104 (Or.inr (slot_ne (Or.inl (hw _ (List.mem_of_getElem? (i := 54) rfl))) (Or.inl (hw _ (List.mem_of_getElem? (i := 61) rfl))) (by decide) (t := .long) (t' := .long) (by decide) (by decide))))
  obtain ⟨fs, hr, hrun, hended, hW, hsame⟩ := X104.leave (v := none) (fun _ => rfl)
  refine ⟨_, _, pre106 _ ?_, hrun, hended, _, _, rfl, ?_, ⟨_, rfl⟩, hW, hsame.mono (by decide) (by decide)⟩
  · show Steps p.tables e below (T104.setTop (mkF m 20 #[.val (.ref A0), .val (.ref A1)] [])) _
    exact X104.returnOut hx Bd.returns (hb hby d11_20) hr
  · show Q11 Z A0 A1 V0 V1 V2 V3 V4 V5 W0 K0 XV0 W1 h0 n0 _ T104.heap _
    rw [e104]
    exact ⟨rfl, N104, K_105, c107, c108, c109, c110, c111, c112, Fw104⟩
theorem own_le (x : Int32) : ¬ ((255 : Int32) < ((x &&& (255 : Int32)).toUInt32.toUInt16.toUInt32.toInt32)) := by
  rw [i2c_mask, Int32.lt_iff_toInt_lt]
  have h := c_and x 255 (by decide)
  have e : (255 : Int32).toInt = 255 := rfl
  omega
theorem own_irr (x y : Int64) (h : y = x) : ¬ (x < y) := by
  rw [h, Int64.lt_iff_toInt_lt]; omega
theorem own_r1 (a x : Int64) : (((((0 : Int64) - a) + ((0 : Int64) + a)) + (0 : Int64)) + x) = x := by grind
theorem own_r2 (a b x : Int64) : ((((((0 : Int64) - a) - b) + (((0 : Int64) + a) + b)) + (0 : Int64)) + (x - (((-a) - b) + (a + b)))) = x := by grind
theorem own_m0 (a b g : Int64) : own_min (((0 : Int64) + a) + b) g = own_min (a + b) g := by rw [Int64.zero_add]
theorem own_r3 (a b x m : Int64) : ((((((0 : Int64) - a) - b) + m) + (0 : Int64)) + (x - (((-a) - b) + m))) = x := by grind
theorem own_g33 : ((0 : Int64) + (33 : Int64)) = (33 : Int64) := by decide
theorem pn_0 : plainName "com/example/terseform/terseform/datatypes/HeldCharactersLetGoPinLaw" = true := by first | (simp [plainName, overriddenIn]; done) | decide +kernel
theorem pd_0_0 : parseMethodDescriptor "(C)Ljava/lang/String;" = some ⟨[.char], some (.object "java/lang/String")⟩ := by decide +kernel
theorem pd_0_1 : parseMethodDescriptor "(II)V" = some ⟨[.int, .int], none⟩ := by decide +kernel
theorem pd_0_2 : parseMethodDescriptor "(J)V" = some ⟨[.long], none⟩ := by decide +kernel
theorem pd_0_3 : parseMethodDescriptor "()V" = some ⟨[], none⟩ := by decide +kernel
theorem pd_0_4 : parseMethodDescriptor "(JJ)J" = some ⟨[.long, .long], some .long⟩ := by decide +kernel
theorem pd_0_5 : parseMethodDescriptor "(Ljava/lang/String;)V" = some ⟨[(.object "java/lang/String")], none⟩ := by decide +kernel
theorem ef_0 (m : MethodId) (P0 : Int32) (P1 : Int64) (P2 : Int64) (P3 : Int32) (P4 : Int32) : entryFrame m #[(.int P0), (.long P1), (.long P2), (.int P3), (.int P4)] maxLocals = mkF m 0 #[.val (.int P0), .val (.long P1), .second, .val (.long P2), .second, .val (.int P3), .val (.int P4), .unset, .unset, .unset, .unset, .unset, .unset, .unset, .unset, .unset, .unset, .unset, .unset] [] := by first | (simp [entryFrame, mkF, argsToLocals, Value.category, maxLocals]; done) | rfl
def Q0 (Z : State) (P0 : Int32) (P1 : Int64) (P2 : Int64) (P3 : Int32) (P4 : Int32) (U0 : Int32) (h0 : Heap) (n0 : Nat) (v : Option Value) (h : Heap) (L : List Loc) : Prop := v = some (.int (1 : Int32)) ∧ Fr n0 L
set_option maxRecDepth 65536 in
set_option maxHeartbeats 40000000 in
theorem rm0 (l : Launch) (Z : State) (a0 : Array Value) (hw : ∀ d ∈ tables_1, d.before a0 Z = true) (ws : List Jvm.Cond) (P0 : Int32) (P1 : Int64) (P2 : Int64) (P3 : Int32) (P4 : Int32) (U0 : Int32) (h0 : Heap) (n0 : Nat) (Z0 : n0 ≤ h0.size) (pm0 : Sta Z h0 "java/lang/String" "COMPACT_STRINGS" "Z" (.int U0)) (hcs : ¬ (U0 = (0 : Int32))) :
    MetFree l x (head1 (Jvm.Cond.code x code maxLocals ret :: ws) room_1) (fun a U => a = #[(.int P0), (.long P1), (.long P2), (.int P3), (.int P4)] ∧ Z.Warmed39 U.vm ∧ U.heap = h0) (fun _ _ _ _ _ => True) (fun _ U o U' => ∃ v L, o = .returned v ∧ Q0 Z P0 P1 P2 P3 P4 U0 h0 n0 v U'.heap L ∧ FrameEnd U o U' L 16 128) := by
  refine MetFree.of_bodySF (plainFor_of_name pn_0) hisR ?_
  intro p e s m args below meth c s₁ Bd hml0 hP hK
  obtain ⟨rfl, hZ, hh⟩ := hP
  have hx := Bd.exec
  have hby := Bd.bytes
  have hml : c.maxLocals = 19 := hml0
  have hown : s.vm.findClass "com/example/terseform/terseform/datatypes/HeldCharactersLetGoPinLaw" = some m.cls := findClass_of_methodNamed Bd.named
  have hnm := (name_of_methodNamed Bd.named Bd.method).1
  have X0 : Stand p l e room_1 s m #[(.int P0), (.long P1), (.long P2), (.int P3), (.int P4)] below meth c s₁ [] 0 0 := Stand.of_body Bd
  have e0 : s₁.heap = h0 := by rw [← hh, Bd.state]; rfl
  have N0 := Fr.nil n0
  have pre0 : ∀ t, Steps p.tables e below (s₁.setTop (mkF m 0 #[.val (.int P0), .val (.long P1), .second, .val (.long P2), .second, .val (.int P3), .val (.int P4), .unset, .unset, .unset, .unset, .unset, .unset, .unset, .unset, .unset, .unset, .unset, .unset] [])) t → Steps p.tables e below (s₁.setTop (entryFrame m #[(.int P0), (.long P1), (.long P2), (.int P3), (.int P4)] maxLocals)) t := fun t k => castTop (ef_0 m P0 P1 P2 P3 P4) k
  have pre101 : ∀ t, Steps p.tables e below (s₁.setTop (mkF m 3 #[.val (.int P0), .val (.long P1), .second, .val (.long P2), .second, .val (.int P3), .val (.int P4), .unset, .unset, .unset, .unset, .unset, .unset, .unset, .unset, .unset, .unset, .unset, .unset] [(.int (2147483647 : Int32)), (.int P0)])) t → Steps p.tables e below (s₁.setTop (entryFrame m #[(.int P0), (.long P1), (.long P2), (.int P3), (.int P4)] maxLocals)) t := fun t kt => pre0 t (by
      show Steps p.tables e below (s₁.setTop (mkF m 0 #[.val (.int P0), .val (.long P1), .second, .val (.long P2), .second, .val (.int P3), .val (.int P4), .unset, .unset, .unset, .unset, .unset, .unset, .unset, .unset, .unset, .unset, .unset, .unset] [])) _
      refine XS.iloadN X0.here hx rfl (hb hby at_0) rfl ?_
      show Steps p.tables e below (s₁.setTop (mkF m 1 #[.val (.int P0), .val (.long P1), .second, .val (.long P2), .second, .val (.int P3), .val (.int P4), .unset, .unset, .unset, .unset, .unset, .unset, .unset, .unset, .unset, .unset, .unset, .unset] [(.int P0)])) _
      refine X0.ldcInt hx hown (mvT hZ (hw _ (List.mem_of_getElem? (i := 0) rfl))) (g := (mkF m 1 #[.val (.int P0), .val (.long P1), .second, .val (.long P2), .second, .val (.int P3), .val (.int P4), .unset, .unset, .unset, .unset, .unset, .unset, .unset, .unset, .unset, .unset, .unset, .unset] [(.int P0)])) rfl (hb hby at_1) _ ?_
      exact kt)
  by_cases hc3 : P0 = (2147483647 : Int32)
  · have pre102 : ∀ t, Steps p.tables e below (s₁.setTop (mkF m 17 #[.val (.int P0), .val (.long P1), .second, .val (.long P2), .second, .val (.int P3), .val (.int P4), .val (.int (0 : Int32)), .unset, .unset, .unset, .unset, .unset, .unset, .unset, .unset, .unset, .unset, .unset] [(.int (P3 &&& (1 : Int32)))])) t → Steps p.tables e below (s₁.setTop (entryFrame m #[(.int P0), (.long P1), (.long P2), (.int P3), (.int P4)] maxLocals)) t := fun t kt => pre101 t (by
        show Steps p.tables e below (s₁.setTop (mkF m 3 #[.val (.int P0), .val (.long P1), .second, .val (.long P2), .second, .val (.int P3), .val (.int P4), .unset, .unset, .unset, .unset, .unset, .unset, .unset, .unset, .unset, .unset, .unset, .unset] [(.int (2147483647 : Int32)), (.int P0)])) _
        refine XS.icmpNo X0.here hx rfl (hb hby at_3) rfl (teq hc3).2 ?_
        show Steps p.tables e below (s₁.setTop (mkF m 6 #[.val (.int P0), .val (.long P1), .second, .val (.long P2), .second, .val (.int P3), .val (.int P4), .unset, .unset, .unset, .unset, .unset, .unset, .unset, .unset, .unset, .unset, .unset, .unset] [])) _
        refine XS.iconst X0.here hx rfl (hb hby at_6) ?_
        show Steps p.tables e below (s₁.setTop (mkF m 7 #[.val (.int P0), .val (.long P1), .second, .val (.long P2), .second, .val (.int P3), .val (.int P4), .unset, .unset, .unset, .unset, .unset, .unset, .unset, .unset, .unset, .unset, .unset, .unset] [(.int (0 : Int32))])) _
        refine XS.goto X0.here hx rfl (pc0 := 7) (pc' := 11) rfl (hb hby at_7) (by decide) (by decide) ?_
        show Steps p.tables e below (s₁.setTop (mkF m 11 #[.val (.int P0), .val (.long P1), .second, .val (.long P2), .second, .val (.int P3), .val (.int P4), .unset, .unset, .unset, .unset, .unset, .unset, .unset, .unset, .unset, .unset, .unset, .unset] [(.int (0 : Int32))])) _
        refine XS.istore X0.here hx rfl (hb hby at_11) rfl (l' := #[.val (.int P0), .val (.long P1), .second, .val (.long P2), .second, .val (.int P3), .val (.int P4), .val (.int (0 : Int32)), .unset, .unset, .unset, .unset, .unset, .unset, .unset, .unset, .unset, .unset, .unset]) rfl ?_
        show Steps p.tables e below (s₁.setTop (mkF m 13 #[.val (.int P0), .val (.long P1), .second, .val (.long P2), .second, .val (.int P3), .val (.int P4), .val (.int (0 : Int32)), .unset, .unset, .unset, .unset, .unset, .unset, .unset, .unset, .unset, .unset, .unset] [])) _
        refine XS.iload X0.here hx rfl (hb hby at_13) rfl ?_
        show Steps p.tables e below (s₁.setTop (mkF m 15 #[.val (.int P0), .val (.long P1), .second, .val (.long P2), .second, .val (.int P3), .val (.int P4), .val (.int (0 : Int32)), .unset, .unset, .unset, .unset, .unset, .unset, .unset, .unset, .unset, .unset, .unset] [(.int P3)])) _
        refine XS.iconst X0.here hx rfl (hb hby at_15) ?_
        show Steps p.tables e below (s₁.setTop (mkF m 16 #[.val (.int P0), .val (.long P1), .second, .val (.long P2), .second, .val (.int P3), .val (.int P4), .val (.int (0 : Int32)), .unset, .unset, .unset, .unset, .unset, .unset, .unset, .unset, .unset, .unset, .unset] [(.int (1 : Int32)), (.int P3)])) _
        refine XS.iand X0.here hx rfl (hb hby at_16) rfl ?_
        exact kt)
    by_cases hc17 : (P3 &&& (1 : Int32)) = (0 : Int32)
    · obtain ⟨_, _, ⟨T103, L103, k103, n103⟩, -, X103, ⟨Lc103, hQ103, l103, y103, z103⟩, st103⟩ := Jvm.LawKit.callS X0 hx (y := (⟨"java/lang/String", "valueOf", "(C)Ljava/lang/String;"⟩ : MethodName)) hown (mvT hZ (hw _ (List.mem_of_getElem? (i := 1) rfl))) (mvT hZ (hw _ (List.mem_of_getElem? (i := 2) rfl))) (mvT hZ (hw _ (List.mem_of_getElem? (i := 3) rfl))) (mvT hZ (hw _ (List.mem_of_getElem? (i := 4) rfl))) (by decide) (backOf (W := 0) (rm1 l Z a0 hw [] ((P4 &&& (255 : Int32)).toUInt32.toUInt16.toUInt32.toInt32) U0 h0 n0 Z0 pm0 (show ¬ (U0 = (0 : Int32)) from hcs) (show ¬ ((255 : Int32) < ((P4 &&& (255 : Int32)).toUInt32.toUInt16.toUInt32.toInt32)) from (own_le _))) hZ (hw _ (List.mem_of_getElem? (i := 4) rfl)) (hw _ (List.mem_of_getElem? (i := 3) rfl)) (by decide) (by decide)) (g := (mkF m 34 #[.val (.int P0), .val (.long P1), .second, .val (.long P2), .second, .val (.int P3), .val (.int P4), .val (.int (0 : Int32)), .val (.int (0 : Int32)), .unset, .unset, .unset, .unset, .unset, .unset, .unset, .unset, .unset, .unset] [(.int ((P4 &&& (255 : Int32)).toUInt32.toUInt16.toUInt32.toInt32))])) rfl (by rw [hml]; rfl) (argsL := [(.int ((P4 &&& (255 : Int32)).toUInt32.toUInt16.toUInt32.toInt32))]) (rest := []) (lenOf pd_0_0 rfl) rfl (by show 2 * 0 + _ ≤ _; exact Nat.le_of_eq rfl) (hb hby at_34) (fun _ _ => ⟨rfl, e0, (by decide : 0 + 2 ≤ _), (by decide : 0 + 5 ≤ _)⟩)
      dsimp only [Pt.U, Pt.locs, Pt.cells, Pt.slots] at X103 l103 y103 z103 st103 hQ103
      subst l103 y103 z103
      obtain ⟨x103_R0, x103_R1, x103_K0, x103_XV0, rfl, N103q, K103, lb103_0, lb103_1, p103_0, p103_1, p103_2, p103_3⟩ := hQ103
      have N103 := Fr.app N0 N103q
      have g_x103_R0 : n0 ≤ x103_R0 := Nat.le_trans Z0 lb103_0
      have g_x103_R1 : n0 ≤ x103_R1 := Nat.le_trans Z0 lb103_1
      have Z104 : n0 ≤ T103.heap.size := Nat.le_trans Z0 K103.1
      have ss103_0 : Sta Z T103.heap "java/lang/String" "COMPACT_STRINGS" "Z" (.int U0) := own_sta_keep pm0 K103 all0
      obtain ⟨T105, h105, X105, e105, E105, A105, D105, -, st105⟩ := newO X103 hx hZ hown (hw _ (List.mem_of_getElem? (i := 27) rfl)) (hw _ (List.mem_of_getElem? (i := 28) rfl)) (hw _ (List.mem_of_getElem? (i := 29) rfl)) rfl (g := (mkF m 39 #[.val (.int P0), .val (.long P1), .second, .val (.long P2), .second, .val (.int P3), .val (.int P4), .val (.int (0 : Int32)), .val (.int (0 : Int32)), .val (.ref x103_R0), .unset, .unset, .unset, .unset, .unset, .unset, .unset, .unset, .unset] [])) rfl (hb hby at_39) (by decide) (by decide)
      obtain ⟨b105, q105⟩ : ∃ z, z = T103.heap.size := ⟨_, rfl⟩
      rw [← q105] at A105 D105 st105
      have ne106 : x103_R0 ≠ b105 := Nat.ne_of_lt (Nat.lt_of_lt_of_le p103_0.lt (Nat.le_of_eq q105.symm))
      have ne107 : x103_R1 ≠ b105 := Nat.ne_of_lt (Nat.lt_of_lt_of_le p103_3.lt (Nat.le_of_eq q105.symm))
      have g_b105 : n0 ≤ b105 := Nat.le_trans Z104 (Nat.le_of_eq q105.symm)
      have Z108 : n0 ≤ h105.size := Nat.le_trans Z104 E105.1
      have F105_35 : Fld Z h105 b105 "com/example/terseform/terseform/datatypes/HeldCharacters" "limit" "I" (.int (0 : Int32)) := D105 (Or.inr (hw _ (List.mem_of_getElem? (i := 35) rfl))) (ty := .int) (by decide)
      have F105_37 : Fld Z h105 b105 "com/example/terseform/terseform/datatypes/HeldCharacters" "nameLimit" "I" (.int (0 : Int32)) := D105 (Or.inr (hw _ (List.mem_of_getElem? (i := 37) rfl))) (ty := .int) (by decide)
      have F105_44 : Fld Z h105 b105 "com/example/terseform/terseform/datatypes/HeldCharacters" "kept" "J" (.long (0 : Int64)) := D105 (Or.inl (hw _ (List.mem_of_getElem? (i := 44) rfl))) (ty := .long) (by decide)
      have F105_46 : Fld Z h105 b105 "com/example/terseform/terseform/datatypes/HeldCharacters" "held" "J" (.long (0 : Int64)) := D105 (Or.inl (hw _ (List.mem_of_getElem? (i := 46) rfl))) (ty := .long) (by decide)
      have F105_54 : Fld Z h105 b105 "com/example/terseform/terseform/datatypes/HeldCharacters" "reading" "J" (.long (0 : Int64)) := D105 (Or.inl (hw _ (List.mem_of_getElem? (i := 54) rfl))) (ty := .long) (by decide)
      have F105_61 : Fld Z h105 b105 "com/example/terseform/terseform/datatypes/HeldCharacters" "given" "J" (.long (0 : Int64)) := D105 (Or.inl (hw _ (List.mem_of_getElem? (i := 61) rfl))) (ty := .long) (by decide)
      have c109 : Sta Z h105 "java/lang/String" "COMPACT_STRINGS" "Z" (.int U0) := (ss103_0.ext E105)
      obtain ⟨_, _, ⟨T110, L110, k110, n110⟩, -, X110, ⟨Lc110, hQ110, l110, y110, z110⟩, st110⟩ := X105.specialBack hx (y := (⟨"com/example/terseform/terseform/datatypes/HeldCharacters", "<init>", "(II)V"⟩ : MethodName)) rfl hown (mvT hZ (hw _ (List.mem_of_getElem? (i := 30) rfl))) (mvT hZ (hw _ (List.mem_of_getElem? (i := 31) rfl))) (mvT hZ (hw _ (List.mem_of_getElem? (i := 32) rfl))) (by decide) (backOf (W := 1) (rm6 l Z a0 hw [] b105 (0 : Int32) (2147483647 : Int32) (0 : Int32) (0 : Int32) (0 : Int64) (0 : Int64) (0 : Int64) (0 : Int64) h105 n0 Z108 F105_35 F105_37 F105_44 F105_46 F105_54 F105_61 A105 g_b105) hZ (hw _ (List.mem_of_getElem? (i := 32) rfl)) (hw _ (List.mem_of_getElem? (i := 29) rfl)) (by decide) (by decide)) (g := (mkF m 47 #[.val (.int P0), .val (.long P1), .second, .val (.long P2), .second, .val (.int P3), .val (.int P4), .val (.int (0 : Int32)), .val (.int (0 : Int32)), .val (.ref x103_R0), .unset, .unset, .unset, .unset, .unset, .unset, .unset, .unset, .unset] [(.int (2147483647 : Int32)), (.int (0 : Int32)), (.ref b105), (.ref b105)])) rfl (by rw [hml]; rfl) (Steps.refl _) (a := b105) (argsL := [(.int (0 : Int32)), (.int (2147483647 : Int32))]) (rest := [(.ref b105)]) (lenOf pd_0_1 rfl) rfl (by show 2 * 0 + _ ≤ _; exact Nat.le_of_eq rfl) (hb hby at_47) (fun _ _ => ⟨rfl, e105, (by decide : 3 + 0 ≤ _), (by decide : 12 + 0 ≤ _)⟩)
      dsimp only [Pt.U, Pt.locs, Pt.cells, Pt.slots] at X110 l110 y110 z110 st110 hQ110
      subst l110 y110 z110
      obtain ⟨rfl, N110q, K110, p110_0, p110_1, p110_2, p110_3, p110_4, p110_5, p110_6⟩ := hQ110
      have N110 := Fr.app N103 N110q
      have Z111 : n0 ≤ T110.heap.size := Nat.le_trans Z108 K110.1
      have ss110_0 : Sta Z T110.heap "java/lang/String" "COMPACT_STRINGS" "Z" (.int U0) := own_sta_keep c109 K110 (allS (own_ns A105) all0)
      obtain ⟨cq112, kq112, q112a, q112b, q112c⟩ := isOf hZ rfl p110_0
      obtain ⟨_, _, ⟨T112, L112, k112, n112⟩, -, X112, ⟨Lc112, hQ112, l112, y112, z112⟩, st112⟩ := X110.virtualBack hx (y := (⟨"com/example/terseform/terseform/datatypes/HeldCharacters", "letGo", "(J)V"⟩ : MethodName)) (z := (⟨"com/example/terseform/terseform/datatypes/HeldCharacters", "letGo", "(J)V"⟩ : MethodName)) hown (mvT hZ (hw _ (List.mem_of_getElem? (i := 38) rfl))) (mvT hZ (hw _ (List.mem_of_getElem? (i := 39) rfl))) (notFace_of_selects (args := #[]) (mvT hZ (hw _ (List.mem_of_getElem? (i := 41) rfl)))) (mvT hZ (hw _ (List.mem_of_getElem? (i := 41) rfl))) (mvT hZ (hw _ (List.mem_of_getElem? (i := 40) rfl))) (by decide) (backOf (W := 0) (rm7 l Z a0 hw [] b105 P1 (0 : Int32) (2147483647 : Int32) (0 : Int64) (0 : Int64) (0 : Int64) (0 : Int64) T110.heap n0 Z111 p110_1 p110_2 p110_3 p110_4 p110_5 p110_6 p110_0 g_b105) hZ (hw _ (List.mem_of_getElem? (i := 42) rfl)) (hw _ (List.mem_of_getElem? (i := 29) rfl)) (by decide) (by decide)) q112a q112c (g := (mkF m 55 #[.val (.int P0), .val (.long P1), .second, .val (.long P2), .second, .val (.int P3), .val (.int P4), .val (.int (0 : Int32)), .val (.int (0 : Int32)), .val (.ref x103_R0), .val (.ref b105), .unset, .unset, .unset, .unset, .unset, .unset, .unset, .unset] [(.long P1), (.ref b105)])) rfl (by rw [hml]; rfl) (Steps.refl _) (argsL := [(.long P1)]) (rest := []) (lenOf pd_0_2 rfl) rfl (by show 2 * 0 + _ ≤ _; exact Nat.le_of_eq rfl) (hb hby at_55) (fun _ _ => ⟨rfl, rfl, (by decide : 3 + 0 ≤ _), (by decide : 12 + 0 ≤ _)⟩)
      dsimp only [Pt.U, Pt.locs, Pt.cells, Pt.slots] at X112 l112 y112 z112 st112 hQ112
      subst l112 y112 z112
      obtain ⟨rfl, N112q, K112, p112_0, p112_1, p112_2, p112_3, p112_4, p112_5, p112_6⟩ := hQ112
      have N112 := Fr.app N110 N112q
      have Z113 : n0 ≤ T112.heap.size := Nat.le_trans Z111 K112.1
      have ss112_0 : Sta Z T112.heap "java/lang/String" "COMPACT_STRINGS" "Z" (.int U0) := own_sta_keep ss110_0 K112 (allS (own_ns p110_0) all0)
      obtain ⟨cq114, kq114, q114a, q114b, q114c⟩ := isOf hZ rfl p112_0
      obtain ⟨_, _, ⟨T114, L114, k114, n114⟩, -, X114, ⟨Lc114, hQ114, l114, y114, z114⟩, st114⟩ := X112.virtualBack hx (y := (⟨"com/example/terseform/terseform/datatypes/HeldCharacters", "checkRoom", "(J)V"⟩ : MethodName)) (z := (⟨"com/example/terseform/terseform/datatypes/HeldCharacters", "checkRoom", "(J)V"⟩ : MethodName)) hown (mvT hZ (hw _ (List.mem_of_getElem? (i := 47) rfl))) (mvT hZ (hw _ (List.mem_of_getElem? (i := 48) rfl))) (notFace_of_selects (args := #[]) (mvT hZ (hw _ (List.mem_of_getElem? (i := 50) rfl)))) (mvT hZ (hw _ (List.mem_of_getElem? (i := 50) rfl))) (mvT hZ (hw _ (List.mem_of_getElem? (i := 49) rfl))) (by decide) (backOf (W := 0) (rm8 l Z a0 hw [] b105 ((0 : Int32).toInt64) (0 : Int32) ((0 : Int64) - P1) ((0 : Int64) + P1) (0 : Int64) T112.heap n0 Z113 p112_1 p112_3 p112_4 p112_5 (show ¬ (((0 : Int32).toInt64) < (((((0 : Int64) - P1) + ((0 : Int64) + P1)) + (0 : Int64)) + ((0 : Int32).toInt64))) from (own_irr _ _ (own_r1 _ _)))) hZ (hw _ (List.mem_of_getElem? (i := 51) rfl)) (hw _ (List.mem_of_getElem? (i := 29) rfl)) (by decide) (by decide)) q114a q114c (g := (mkF m 63 #[.val (.int P0), .val (.long P1), .second, .val (.long P2), .second, .val (.int P3), .val (.int P4), .val (.int (0 : Int32)), .val (.int (0 : Int32)), .val (.ref x103_R0), .val (.ref b105), .unset, .unset, .unset, .unset, .unset, .unset, .unset, .unset] [(.long ((0 : Int32).toInt64)), (.ref b105)])) rfl (by rw [hml]; rfl) (Steps.refl _) (argsL := [(.long ((0 : Int32).toInt64))]) (rest := []) (lenOf pd_0_2 rfl) rfl (by show 2 * 0 + _ ≤ _; exact Nat.le_of_eq rfl) (hb hby at_63) (fun _ _ => ⟨rfl, rfl, (by decide : 3 + 0 ≤ _), (by decide : 12 + 0 ≤ _)⟩)
      dsimp only [Pt.U, Pt.locs, Pt.cells, Pt.slots] at X114 l114 y114 z114 st114 hQ114
      subst l114 y114 z114
      obtain ⟨rfl, N114q, K114⟩ := hQ114
      have N114 := Fr.app N112 N114q
      obtain ⟨cq115, kq115, q115a, q115b, q115c⟩ := isOf hZ K114 p112_0
      obtain ⟨_, _, ⟨T115, L115, k115, n115⟩, -, X115, ⟨Lc115, hQ115, l115, y115, z115⟩, st115⟩ := X114.virtualBack hx (y := (⟨"com/example/terseform/terseform/datatypes/HeldCharacters", "letGo", "(J)V"⟩ : MethodName)) (z := (⟨"com/example/terseform/terseform/datatypes/HeldCharacters", "letGo", "(J)V"⟩ : MethodName)) hown (mvT hZ (hw _ (List.mem_of_getElem? (i := 38) rfl))) (mvT hZ (hw _ (List.mem_of_getElem? (i := 39) rfl))) (notFace_of_selects (args := #[]) (mvT hZ (hw _ (List.mem_of_getElem? (i := 41) rfl)))) (mvT hZ (hw _ (List.mem_of_getElem? (i := 41) rfl))) (mvT hZ (hw _ (List.mem_of_getElem? (i := 40) rfl))) (by decide) (backOf (W := 0) (rm7 l Z a0 hw [] b105 P2 (0 : Int32) (2147483647 : Int32) ((0 : Int64) - P1) ((0 : Int64) + P1) (0 : Int64) (0 : Int64) T112.heap n0 Z113 p112_1 p112_2 p112_3 p112_4 p112_5 p112_6 p112_0 g_b105) hZ (hw _ (List.mem_of_getElem? (i := 42) rfl)) (hw _ (List.mem_of_getElem? (i := 29) rfl)) (by decide) (by decide)) q115a q115c (g := (mkF m 69 #[.val (.int P0), .val (.long P1), .second, .val (.long P2), .second, .val (.int P3), .val (.int P4), .val (.int (0 : Int32)), .val (.int (0 : Int32)), .val (.ref x103_R0), .val (.ref b105), .unset, .unset, .unset, .unset, .unset, .unset, .unset, .unset] [(.long P2), (.ref b105)])) rfl (by rw [hml]; rfl) (Steps.refl _) (argsL := [(.long P2)]) (rest := []) (lenOf pd_0_2 rfl) rfl (by show 2 * 0 + _ ≤ _; exact Nat.le_of_eq rfl) (hb hby at_69) (fun _ _ => ⟨rfl, K114, (by decide : 3 + 0 ≤ _), (by decide : 12 + 0 ≤ _)⟩)
      dsimp only [Pt.U, Pt.locs, Pt.cells, Pt.slots] at X115 l115 y115 z115 st115 hQ115
      subst l115 y115 z115
      obtain ⟨rfl, N115q, K115, p115_0, p115_1, p115_2, p115_3, p115_4, p115_5, p115_6⟩ := hQ115
      have N115 := Fr.app N114 N115q
      have Z116 : n0 ≤ T115.heap.size := Nat.le_trans Z113 K115.1
      have ss115_0 : Sta Z T115.heap "java/lang/String" "COMPACT_STRINGS" "Z" (.int U0) := own_sta_keep ss112_0 K115 (allS (own_ns p112_0) all0)
      obtain ⟨cq117, kq117, q117a, q117b, q117c⟩ := isOf hZ rfl p115_0
      obtain ⟨_, _, ⟨T117, L117, k117, n117⟩, -, X117, ⟨Lc117, hQ117, l117, y117, z117⟩, st117⟩ := X115.virtualBack hx (y := (⟨"com/example/terseform/terseform/datatypes/HeldCharacters", "checkRoom", "(J)V"⟩ : MethodName)) (z := (⟨"com/example/terseform/terseform/datatypes/HeldCharacters", "checkRoom", "(J)V"⟩ : MethodName)) hown (mvT hZ (hw _ (List.mem_of_getElem? (i := 47) rfl))) (mvT hZ (hw _ (List.mem_of_getElem? (i := 48) rfl))) (notFace_of_selects (args := #[]) (mvT hZ (hw _ (List.mem_of_getElem? (i := 50) rfl)))) (mvT hZ (hw _ (List.mem_of_getElem? (i := 50) rfl))) (mvT hZ (hw _ (List.mem_of_getElem? (i := 49) rfl))) (by decide) (backOf (W := 0) (rm8 l Z a0 hw [] b105 (((0 : Int32).toInt64) - (((-P1) - P2) + (P1 + P2))) (0 : Int32) (((0 : Int64) - P1) - P2) (((0 : Int64) + P1) + P2) (0 : Int64) T115.heap n0 Z116 p115_1 p115_3 p115_4 p115_5 (show ¬ (((0 : Int32).toInt64) < ((((((0 : Int64) - P1) - P2) + (((0 : Int64) + P1) + P2)) + (0 : Int64)) + (((0 : Int32).toInt64) - (((-P1) - P2) + (P1 + P2))))) from (own_irr _ _ (own_r2 _ _ _)))) hZ (hw _ (List.mem_of_getElem? (i := 51) rfl)) (hw _ (List.mem_of_getElem? (i := 29) rfl)) (by decide) (by decide)) q117a q117c (g := (mkF m 94 #[.val (.int P0), .val (.long P1), .second, .val (.long P2), .second, .val (.int P3), .val (.int P4), .val (.int (0 : Int32)), .val (.int (0 : Int32)), .val (.ref x103_R0), .val (.ref b105), .val (.long ((-P1) - P2)), .second, .val (.long (P1 + P2)), .second, .unset, .unset, .unset, .unset] [(.long (((0 : Int32).toInt64) - (((-P1) - P2) + (P1 + P2)))), (.ref b105)])) rfl (by rw [hml]; rfl) (Steps.refl _) (argsL := [(.long (((0 : Int32).toInt64) - (((-P1) - P2) + (P1 + P2))))]) (rest := []) (lenOf pd_0_2 rfl) rfl (by show 2 * 0 + _ ≤ _; exact Nat.le_of_eq rfl) (hb hby at_94) (fun _ _ => ⟨rfl, rfl, (by decide : 3 + 0 ≤ _), (by decide : 12 + 0 ≤ _)⟩)
      dsimp only [Pt.U, Pt.locs, Pt.cells, Pt.slots] at X117 l117 y117 z117 st117 hQ117
      subst l117 y117 z117
      obtain ⟨rfl, N117q, K117⟩ := hQ117
      have N117 := Fr.app N115 N117q
      obtain ⟨cq118, kq118, q118a, q118b, q118c⟩ := isOf hZ K117 p115_0
      obtain ⟨_, _, ⟨T118, L118, k118, n118⟩, -, X118, ⟨Lc118, hQ118, l118, y118, z118⟩, st118⟩ := X117.virtualBack hx (y := (⟨"com/example/terseform/terseform/datatypes/HeldCharacters", "release", "()V"⟩ : MethodName)) (z := (⟨"com/example/terseform/terseform/datatypes/HeldCharacters", "release", "()V"⟩ : MethodName)) hown (mvT hZ (hw _ (List.mem_of_getElem? (i := 55) rfl))) (mvT hZ (hw _ (List.mem_of_getElem? (i := 56) rfl))) (notFace_of_selects (args := #[]) (mvT hZ (hw _ (List.mem_of_getElem? (i := 58) rfl)))) (mvT hZ (hw _ (List.mem_of_getElem? (i := 58) rfl))) (mvT hZ (hw _ (List.mem_of_getElem? (i := 57) rfl))) (by decide) (backOf (W := 0) (rm9 l Z a0 hw [] b105 (0 : Int32) (2147483647 : Int32) (((0 : Int64) - P1) - P2) (((0 : Int64) + P1) + P2) (0 : Int64) (0 : Int64) T115.heap n0 Z116 p115_1 p115_2 p115_3 p115_4 p115_5 p115_6 p115_0 g_b105) hZ (hw _ (List.mem_of_getElem? (i := 59) rfl)) (hw _ (List.mem_of_getElem? (i := 29) rfl)) (by decide) (by decide)) q118a q118c (g := (mkF m 119 #[.val (.int P0), .val (.long P1), .second, .val (.long P2), .second, .val (.int P3), .val (.int P4), .val (.int (0 : Int32)), .val (.int (0 : Int32)), .val (.ref x103_R0), .val (.ref b105), .val (.long ((-P1) - P2)), .second, .val (.long (P1 + P2)), .second, .val (.long (0 : Int64)), .second, .unset, .unset] [(.ref b105)])) rfl (by rw [hml]; rfl) (Steps.refl _) (argsL := []) (rest := []) (lenOf pd_0_3 rfl) rfl (by show 2 * 0 + _ ≤ _; exact Nat.le_of_eq rfl) (hb hby at_119) (fun _ _ => ⟨rfl, K117, (by decide : 3 + 0 ≤ _), (by decide : 12 + 0 ≤ _)⟩)
      dsimp only [Pt.U, Pt.locs, Pt.cells, Pt.slots] at X118 l118 y118 z118 st118 hQ118
      subst l118 y118 z118
      obtain ⟨rfl, N118q, K118, p118_0, p118_1, p118_2, p118_3, p118_4, p118_5, p118_6⟩ := hQ118
      have N118 := Fr.app N117 N118q
      have Z119 : n0 ≤ T118.heap.size := Nat.le_trans Z116 K118.1
      have ss118_0 : Sta Z T118.heap "java/lang/String" "COMPACT_STRINGS" "Z" (.int U0) := own_sta_keep ss115_0 K118 (allS (own_ns p115_0) all0)
      obtain ⟨_, _, ⟨T120, L120, k120, n120⟩, -, X120, ⟨Lc120, hQ120, l120, y120, z120⟩, st120⟩ := Jvm.LawKit.callS X118 hx (y := (⟨"java/lang/Math", "min", "(JJ)J"⟩ : MethodName)) hown (mvT hZ (hw _ (List.mem_of_getElem? (i := 66) rfl))) (mvT hZ (hw _ (List.mem_of_getElem? (i := 63) rfl))) (mvT hZ (hw _ (List.mem_of_getElem? (i := 64) rfl))) (mvT hZ (hw _ (List.mem_of_getElem? (i := 65) rfl))) (by decide) (backOf (W := 0) (rm10 l Z a0 hw [] (P1 + P2) (0 : Int64) T118.heap n0 Z119 ) hZ (hw _ (List.mem_of_getElem? (i := 65) rfl)) (hw _ (List.mem_of_getElem? (i := 64) rfl)) (by decide) (by decide)) (g := (mkF m 126 #[.val (.int P0), .val (.long P1), .second, .val (.long P2), .second, .val (.int P3), .val (.int P4), .val (.int (0 : Int32)), .val (.int (0 : Int32)), .val (.ref x103_R0), .val (.ref b105), .val (.long ((-P1) - P2)), .second, .val (.long (P1 + P2)), .second, .val (.long (0 : Int64)), .second, .unset, .unset] [(.long (0 : Int64)), (.long (P1 + P2))])) rfl (by rw [hml]; rfl) (argsL := [(.long (P1 + P2)), (.long (0 : Int64))]) (rest := []) (lenOf pd_0_4 rfl) rfl (by show 2 * 0 + _ ≤ _; exact Nat.le_of_eq rfl) (hb hby at_126) (fun _ _ => ⟨rfl, rfl, (by decide : 3 + 0 ≤ _), (by decide : 12 + 0 ≤ _)⟩)
      dsimp only [Pt.U, Pt.locs, Pt.cells, Pt.slots] at X120 l120 y120 z120 st120 hQ120
      subst l120 y120 z120
      obtain ⟨rfl, N120q, K120⟩ := hQ120
      have N120 := Fr.app N118 N120q
      obtain ⟨cq121, kq121, q121a, q121b, q121c⟩ := isOf hZ K120 p118_0
      obtain ⟨_, _, ⟨T121, L121, k121, n121⟩, -, X121, ⟨Lc121, hQ121, l121, y121, z121⟩, st121⟩ := X120.virtualBack hx (y := (⟨"com/example/terseform/terseform/datatypes/HeldCharacters", "checkRoom", "(J)V"⟩ : MethodName)) (z := (⟨"com/example/terseform/terseform/datatypes/HeldCharacters", "checkRoom", "(J)V"⟩ : MethodName)) hown (mvT hZ (hw _ (List.mem_of_getElem? (i := 47) rfl))) (mvT hZ (hw _ (List.mem_of_getElem? (i := 48) rfl))) (notFace_of_selects (args := #[]) (mvT hZ (hw _ (List.mem_of_getElem? (i := 50) rfl)))) (mvT hZ (hw _ (List.mem_of_getElem? (i := 50) rfl))) (mvT hZ (hw _ (List.mem_of_getElem? (i := 49) rfl))) (by decide) (backOf (W := 0) (rm8 l Z a0 hw [] b105 (((0 : Int32).toInt64) - (((-P1) - P2) + (own_min (P1 + P2) (0 : Int64)))) (0 : Int32) (((0 : Int64) - P1) - P2) (own_min (((0 : Int64) + P1) + P2) (0 : Int64)) (0 : Int64) T118.heap n0 Z119 p118_1 p118_3 p118_4 p118_5 (show ¬ (((0 : Int32).toInt64) < ((((((0 : Int64) - P1) - P2) + (own_min (((0 : Int64) + P1) + P2) (0 : Int64))) + (0 : Int64)) + (((0 : Int32).toInt64) - (((-P1) - P2) + (own_min (P1 + P2) (0 : Int64)))))) from (own_irr _ _ (by rw [own_m0]; exact own_r3 _ _ _ _)))) hZ (hw _ (List.mem_of_getElem? (i := 51) rfl)) (hw _ (List.mem_of_getElem? (i := 29) rfl)) (by decide) (by decide)) q121a q121c (g := (mkF m 142 #[.val (.int P0), .val (.long P1), .second, .val (.long P2), .second, .val (.int P3), .val (.int P4), .val (.int (0 : Int32)), .val (.int (0 : Int32)), .val (.ref x103_R0), .val (.ref b105), .val (.long ((-P1) - P2)), .second, .val (.long (P1 + P2)), .second, .val (.long (0 : Int64)), .second, .val (.long (own_min (P1 + P2) (0 : Int64))), .second] [(.long (((0 : Int32).toInt64) - (((-P1) - P2) + (own_min (P1 + P2) (0 : Int64))))), (.ref b105)])) rfl (by rw [hml]; rfl) (Steps.refl _) (argsL := [(.long (((0 : Int32).toInt64) - (((-P1) - P2) + (own_min (P1 + P2) (0 : Int64)))))]) (rest := []) (lenOf pd_0_2 rfl) rfl (by show 2 * 0 + _ ≤ _; exact Nat.le_of_eq rfl) (hb hby at_142) (fun _ _ => ⟨rfl, K120, (by decide : 3 + 0 ≤ _), (by decide : 12 + 0 ≤ _)⟩)
      dsimp only [Pt.U, Pt.locs, Pt.cells, Pt.slots] at X121 l121 y121 z121 st121 hQ121
      subst l121 y121 z121
      obtain ⟨rfl, N121q, K121⟩ := hQ121
      have N121 := Fr.app N120 N121q
      have pre122 : ∀ t, Steps p.tables e below (T121.setTop (mkF m 146 #[.val (.int P0), .val (.long P1), .second, .val (.long P2), .second, .val (.int P3), .val (.int P4), .val (.int (0 : Int32)), .val (.int (0 : Int32)), .val (.ref x103_R0), .val (.ref b105), .val (.long ((-P1) - P2)), .second, .val (.long (P1 + P2)), .second, .val (.long (0 : Int64)), .second, .val (.long (own_min (P1 + P2) (0 : Int64))), .second] [(.int (1 : Int32))])) t → Steps p.tables e below (s₁.setTop (entryFrame m #[(.int P0), (.long P1), (.long P2), (.int P3), (.int P4)] maxLocals)) t := fun t kt => pre102 t (by
          show Steps p.tables e below (s₁.setTop (mkF m 17 #[.val (.int P0), .val (.long P1), .second, .val (.long P2), .second, .val (.int P3), .val (.int P4), .val (.int (0 : Int32)), .unset, .unset, .unset, .unset, .unset, .unset, .unset, .unset, .unset, .unset, .unset] [(.int (P3 &&& (1 : Int32)))])) _
          refine XS.ifYes X0.here hx rfl (pc0 := 17) (pc' := 24) rfl (hb hby at_17) rfl ((if0 _ _).trans (teq hc17).1) (by decide) (by decide) ?_
          show Steps p.tables e below (s₁.setTop (mkF m 24 #[.val (.int P0), .val (.long P1), .second, .val (.long P2), .second, .val (.int P3), .val (.int P4), .val (.int (0 : Int32)), .unset, .unset, .unset, .unset, .unset, .unset, .unset, .unset, .unset, .unset, .unset] [])) _
          refine XS.iconst X0.here hx rfl (hb hby at_24) ?_
          show Steps p.tables e below (s₁.setTop (mkF m 25 #[.val (.int P0), .val (.long P1), .second, .val (.long P2), .second, .val (.int P3), .val (.int P4), .val (.int (0 : Int32)), .unset, .unset, .unset, .unset, .unset, .unset, .unset, .unset, .unset, .unset, .unset] [(.int (0 : Int32))])) _
          refine XS.istore X0.here hx rfl (hb hby at_25) rfl (l' := #[.val (.int P0), .val (.long P1), .second, .val (.long P2), .second, .val (.int P3), .val (.int P4), .val (.int (0 : Int32)), .val (.int (0 : Int32)), .unset, .unset, .unset, .unset, .unset, .unset, .unset, .unset, .unset, .unset]) rfl ?_
          show Steps p.tables e below (s₁.setTop (mkF m 27 #[.val (.int P0), .val (.long P1), .second, .val (.long P2), .second, .val (.int P3), .val (.int P4), .val (.int (0 : Int32)), .val (.int (0 : Int32)), .unset, .unset, .unset, .unset, .unset, .unset, .unset, .unset, .unset, .unset] [])) _
          refine XS.iload X0.here hx rfl (hb hby at_27) rfl ?_
          show Steps p.tables e below (s₁.setTop (mkF m 29 #[.val (.int P0), .val (.long P1), .second, .val (.long P2), .second, .val (.int P3), .val (.int P4), .val (.int (0 : Int32)), .val (.int (0 : Int32)), .unset, .unset, .unset, .unset, .unset, .unset, .unset, .unset, .unset, .unset] [(.int P4)])) _
          refine XS.sipush X0.here hx rfl (hb hby at_29) ?_
          show Steps p.tables e below (s₁.setTop (mkF m 32 #[.val (.int P0), .val (.long P1), .second, .val (.long P2), .second, .val (.int P3), .val (.int P4), .val (.int (0 : Int32)), .val (.int (0 : Int32)), .unset, .unset, .unset, .unset, .unset, .unset, .unset, .unset, .unset, .unset] [(.int (255 : Int32)), (.int P4)])) _
          refine XS.iand X0.here hx rfl (hb hby at_32) rfl ?_
          show Steps p.tables e below (s₁.setTop (mkF m 33 #[.val (.int P0), .val (.long P1), .second, .val (.long P2), .second, .val (.int P3), .val (.int P4), .val (.int (0 : Int32)), .val (.int (0 : Int32)), .unset, .unset, .unset, .unset, .unset, .unset, .unset, .unset, .unset, .unset] [(.int (P4 &&& (255 : Int32)))])) _
          refine XS.i2c X0.here hx rfl (hb hby at_33) rfl ?_
          show Steps p.tables e below (s₁.setTop (mkF m 34 #[.val (.int P0), .val (.long P1), .second, .val (.long P2), .second, .val (.int P3), .val (.int P4), .val (.int (0 : Int32)), .val (.int (0 : Int32)), .unset, .unset, .unset, .unset, .unset, .unset, .unset, .unset, .unset, .unset] [(.int ((P4 &&& (255 : Int32)).toUInt32.toUInt16.toUInt32.toInt32))])) _
          refine st103 _ ?_
          show Steps p.tables e below (T103.setTop (mkF m 37 #[.val (.int P0), .val (.long P1), .second, .val (.long P2), .second, .val (.int P3), .val (.int P4), .val (.int (0 : Int32)), .val (.int (0 : Int32)), .unset, .unset, .unset, .unset, .unset, .unset, .unset, .unset, .unset, .unset] [(.ref x103_R0)])) _
          refine XS.astore X103.here hx rfl (hb hby at_37) rfl rfl (l' := #[.val (.int P0), .val (.long P1), .second, .val (.long P2), .second, .val (.int P3), .val (.int P4), .val (.int (0 : Int32)), .val (.int (0 : Int32)), .val (.ref x103_R0), .unset, .unset, .unset, .unset, .unset, .unset, .unset, .unset, .unset]) rfl ?_
          show Steps p.tables e below (T103.setTop (mkF m 39 #[.val (.int P0), .val (.long P1), .second, .val (.long P2), .second, .val (.int P3), .val (.int P4), .val (.int (0 : Int32)), .val (.int (0 : Int32)), .val (.ref x103_R0), .unset, .unset, .unset, .unset, .unset, .unset, .unset, .unset, .unset] [])) _
          refine st105 _ ?_
          show Steps p.tables e below (T105.setTop (mkF m 42 #[.val (.int P0), .val (.long P1), .second, .val (.long P2), .second, .val (.int P3), .val (.int P4), .val (.int (0 : Int32)), .val (.int (0 : Int32)), .val (.ref x103_R0), .unset, .unset, .unset, .unset, .unset, .unset, .unset, .unset, .unset] [(.ref b105)])) _
          refine XS.dup X105.here hx rfl (hb hby at_42) rfl rfl ?_
          show Steps p.tables e below (T105.setTop (mkF m 43 #[.val (.int P0), .val (.long P1), .second, .val (.long P2), .second, .val (.int P3), .val (.int P4), .val (.int (0 : Int32)), .val (.int (0 : Int32)), .val (.ref x103_R0), .unset, .unset, .unset, .unset, .unset, .unset, .unset, .unset, .unset] [(.ref b105), (.ref b105)])) _
          refine XS.iload X105.here hx rfl (hb hby at_43) rfl ?_
          show Steps p.tables e below (T105.setTop (mkF m 45 #[.val (.int P0), .val (.long P1), .second, .val (.long P2), .second, .val (.int P3), .val (.int P4), .val (.int (0 : Int32)), .val (.int (0 : Int32)), .val (.ref x103_R0), .unset, .unset, .unset, .unset, .unset, .unset, .unset, .unset, .unset] [(.int (0 : Int32)), (.ref b105), (.ref b105)])) _
          refine X105.ldcInt hx hown (mvT hZ (hw _ (List.mem_of_getElem? (i := 0) rfl))) (g := (mkF m 45 #[.val (.int P0), .val (.long P1), .second, .val (.long P2), .second, .val (.int P3), .val (.int P4), .val (.int (0 : Int32)), .val (.int (0 : Int32)), .val (.ref x103_R0), .unset, .unset, .unset, .unset, .unset, .unset, .unset, .unset, .unset] [(.int (0 : Int32)), (.ref b105), (.ref b105)])) rfl (hb hby at_45) _ ?_
          show Steps p.tables e below (T105.setTop (mkF m 47 #[.val (.int P0), .val (.long P1), .second, .val (.long P2), .second, .val (.int P3), .val (.int P4), .val (.int (0 : Int32)), .val (.int (0 : Int32)), .val (.ref x103_R0), .unset, .unset, .unset, .unset, .unset, .unset, .unset, .unset, .unset] [(.int (2147483647 : Int32)), (.int (0 : Int32)), (.ref b105), (.ref b105)])) _
          refine st110.trans ?_
          show Steps p.tables e below (T110.setTop (mkF m 50 #[.val (.int P0), .val (.long P1), .second, .val (.long P2), .second, .val (.int P3), .val (.int P4), .val (.int (0 : Int32)), .val (.int (0 : Int32)), .val (.ref x103_R0), .unset, .unset, .unset, .unset, .unset, .unset, .unset, .unset, .unset] [(.ref b105)])) _
          refine XS.astore X110.here hx rfl (hb hby at_50) rfl rfl (l' := #[.val (.int P0), .val (.long P1), .second, .val (.long P2), .second, .val (.int P3), .val (.int P4), .val (.int (0 : Int32)), .val (.int (0 : Int32)), .val (.ref x103_R0), .val (.ref b105), .unset, .unset, .unset, .unset, .unset, .unset, .unset, .unset]) rfl ?_
          show Steps p.tables e below (T110.setTop (mkF m 52 #[.val (.int P0), .val (.long P1), .second, .val (.long P2), .second, .val (.int P3), .val (.int P4), .val (.int (0 : Int32)), .val (.int (0 : Int32)), .val (.ref x103_R0), .val (.ref b105), .unset, .unset, .unset, .unset, .unset, .unset, .unset, .unset] [])) _
          refine XS.aload X110.here hx rfl (hb hby at_52) rfl rfl ?_
          show Steps p.tables e below (T110.setTop (mkF m 54 #[.val (.int P0), .val (.long P1), .second, .val (.long P2), .second, .val (.int P3), .val (.int P4), .val (.int (0 : Int32)), .val (.int (0 : Int32)), .val (.ref x103_R0), .val (.ref b105), .unset, .unset, .unset, .unset, .unset, .unset, .unset, .unset] [(.ref b105)])) _
          refine XS.lloadN X110.here hx rfl (hb hby at_54) rfl ?_
          show Steps p.tables e below (T110.setTop (mkF m 55 #[.val (.int P0), .val (.long P1), .second, .val (.long P2), .second, .val (.int P3), .val (.int P4), .val (.int (0 : Int32)), .val (.int (0 : Int32)), .val (.ref x103_R0), .val (.ref b105), .unset, .unset, .unset, .unset, .unset, .unset, .unset, .unset] [(.long P1), (.ref b105)])) _
          refine st112.trans ?_
          show Steps p.tables e below (T112.setTop (mkF m 58 #[.val (.int P0), .val (.long P1), .second, .val (.long P2), .second, .val (.int P3), .val (.int P4), .val (.int (0 : Int32)), .val (.int (0 : Int32)), .val (.ref x103_R0), .val (.ref b105), .unset, .unset, .unset, .unset, .unset, .unset, .unset, .unset] [])) _
          refine XS.aload X112.here hx rfl (hb hby at_58) rfl rfl ?_
          show Steps p.tables e below (T112.setTop (mkF m 60 #[.val (.int P0), .val (.long P1), .second, .val (.long P2), .second, .val (.int P3), .val (.int P4), .val (.int (0 : Int32)), .val (.int (0 : Int32)), .val (.ref x103_R0), .val (.ref b105), .unset, .unset, .unset, .unset, .unset, .unset, .unset, .unset] [(.ref b105)])) _
          refine XS.iload X112.here hx rfl (hb hby at_60) rfl ?_
          show Steps p.tables e below (T112.setTop (mkF m 62 #[.val (.int P0), .val (.long P1), .second, .val (.long P2), .second, .val (.int P3), .val (.int P4), .val (.int (0 : Int32)), .val (.int (0 : Int32)), .val (.ref x103_R0), .val (.ref b105), .unset, .unset, .unset, .unset, .unset, .unset, .unset, .unset] [(.int (0 : Int32)), (.ref b105)])) _
          refine XS.i2l X112.here hx rfl (hb hby at_62) rfl ?_
          show Steps p.tables e below (T112.setTop (mkF m 63 #[.val (.int P0), .val (.long P1), .second, .val (.long P2), .second, .val (.int P3), .val (.int P4), .val (.int (0 : Int32)), .val (.int (0 : Int32)), .val (.ref x103_R0), .val (.ref b105), .unset, .unset, .unset, .unset, .unset, .unset, .unset, .unset] [(.long ((0 : Int32).toInt64)), (.ref b105)])) _
          refine st114.trans ?_
          show Steps p.tables e below (T114.setTop (mkF m 66 #[.val (.int P0), .val (.long P1), .second, .val (.long P2), .second, .val (.int P3), .val (.int P4), .val (.int (0 : Int32)), .val (.int (0 : Int32)), .val (.ref x103_R0), .val (.ref b105), .unset, .unset, .unset, .unset, .unset, .unset, .unset, .unset] [])) _
          refine XS.aload X114.here hx rfl (hb hby at_66) rfl rfl ?_
          show Steps p.tables e below (T114.setTop (mkF m 68 #[.val (.int P0), .val (.long P1), .second, .val (.long P2), .second, .val (.int P3), .val (.int P4), .val (.int (0 : Int32)), .val (.int (0 : Int32)), .val (.ref x103_R0), .val (.ref b105), .unset, .unset, .unset, .unset, .unset, .unset, .unset, .unset] [(.ref b105)])) _
          refine XS.lloadN X114.here hx rfl (hb hby at_68) rfl ?_
          show Steps p.tables e below (T114.setTop (mkF m 69 #[.val (.int P0), .val (.long P1), .second, .val (.long P2), .second, .val (.int P3), .val (.int P4), .val (.int (0 : Int32)), .val (.int (0 : Int32)), .val (.ref x103_R0), .val (.ref b105), .unset, .unset, .unset, .unset, .unset, .unset, .unset, .unset] [(.long P2), (.ref b105)])) _
          refine st115.trans ?_
          show Steps p.tables e below (T115.setTop (mkF m 72 #[.val (.int P0), .val (.long P1), .second, .val (.long P2), .second, .val (.int P3), .val (.int P4), .val (.int (0 : Int32)), .val (.int (0 : Int32)), .val (.ref x103_R0), .val (.ref b105), .unset, .unset, .unset, .unset, .unset, .unset, .unset, .unset] [])) _
          refine XS.lloadN X115.here hx rfl (hb hby at_72) rfl ?_
          show Steps p.tables e below (T115.setTop (mkF m 73 #[.val (.int P0), .val (.long P1), .second, .val (.long P2), .second, .val (.int P3), .val (.int P4), .val (.int (0 : Int32)), .val (.int (0 : Int32)), .val (.ref x103_R0), .val (.ref b105), .unset, .unset, .unset, .unset, .unset, .unset, .unset, .unset] [(.long P1)])) _
          refine XS.lneg X115.here hx rfl (hb hby at_73) rfl ?_
          show Steps p.tables e below (T115.setTop (mkF m 74 #[.val (.int P0), .val (.long P1), .second, .val (.long P2), .second, .val (.int P3), .val (.int P4), .val (.int (0 : Int32)), .val (.int (0 : Int32)), .val (.ref x103_R0), .val (.ref b105), .unset, .unset, .unset, .unset, .unset, .unset, .unset, .unset] [(.long (-P1))])) _
          refine XS.lloadN X115.here hx rfl (hb hby at_74) rfl ?_
          show Steps p.tables e below (T115.setTop (mkF m 75 #[.val (.int P0), .val (.long P1), .second, .val (.long P2), .second, .val (.int P3), .val (.int P4), .val (.int (0 : Int32)), .val (.int (0 : Int32)), .val (.ref x103_R0), .val (.ref b105), .unset, .unset, .unset, .unset, .unset, .unset, .unset, .unset] [(.long P2), (.long (-P1))])) _
          refine XS.lsub X115.here hx rfl (hb hby at_75) rfl ?_
          show Steps p.tables e below (T115.setTop (mkF m 76 #[.val (.int P0), .val (.long P1), .second, .val (.long P2), .second, .val (.int P3), .val (.int P4), .val (.int (0 : Int32)), .val (.int (0 : Int32)), .val (.ref x103_R0), .val (.ref b105), .unset, .unset, .unset, .unset, .unset, .unset, .unset, .unset] [(.long ((-P1) - P2))])) _
          refine XS.lstore X115.here hx rfl (hb hby at_76) rfl (l' := #[.val (.int P0), .val (.long P1), .second, .val (.long P2), .second, .val (.int P3), .val (.int P4), .val (.int (0 : Int32)), .val (.int (0 : Int32)), .val (.ref x103_R0), .val (.ref b105), .val (.long ((-P1) - P2)), .second, .unset, .unset, .unset, .unset, .unset, .unset]) rfl ?_
          show Steps p.tables e below (T115.setTop (mkF m 78 #[.val (.int P0), .val (.long P1), .second, .val (.long P2), .second, .val (.int P3), .val (.int P4), .val (.int (0 : Int32)), .val (.int (0 : Int32)), .val (.ref x103_R0), .val (.ref b105), .val (.long ((-P1) - P2)), .second, .unset, .unset, .unset, .unset, .unset, .unset] [])) _
          refine XS.lloadN X115.here hx rfl (hb hby at_78) rfl ?_
          show Steps p.tables e below (T115.setTop (mkF m 79 #[.val (.int P0), .val (.long P1), .second, .val (.long P2), .second, .val (.int P3), .val (.int P4), .val (.int (0 : Int32)), .val (.int (0 : Int32)), .val (.ref x103_R0), .val (.ref b105), .val (.long ((-P1) - P2)), .second, .unset, .unset, .unset, .unset, .unset, .unset] [(.long P1)])) _
          refine XS.lloadN X115.here hx rfl (hb hby at_79) rfl ?_
          show Steps p.tables e below (T115.setTop (mkF m 80 #[.val (.int P0), .val (.long P1), .second, .val (.long P2), .second, .val (.int P3), .val (.int P4), .val (.int (0 : Int32)), .val (.int (0 : Int32)), .val (.ref x103_R0), .val (.ref b105), .val (.long ((-P1) - P2)), .second, .unset, .unset, .unset, .unset, .unset, .unset] [(.long P2), (.long P1)])) _
          refine XS.ladd X115.here hx rfl (hb hby at_80) rfl ?_
          show Steps p.tables e below (T115.setTop (mkF m 81 #[.val (.int P0), .val (.long P1), .second, .val (.long P2), .second, .val (.int P3), .val (.int P4), .val (.int (0 : Int32)), .val (.int (0 : Int32)), .val (.ref x103_R0), .val (.ref b105), .val (.long ((-P1) - P2)), .second, .unset, .unset, .unset, .unset, .unset, .unset] [(.long (P1 + P2))])) _
          refine XS.lstore X115.here hx rfl (hb hby at_81) rfl (l' := #[.val (.int P0), .val (.long P1), .second, .val (.long P2), .second, .val (.int P3), .val (.int P4), .val (.int (0 : Int32)), .val (.int (0 : Int32)), .val (.ref x103_R0), .val (.ref b105), .val (.long ((-P1) - P2)), .second, .val (.long (P1 + P2)), .second, .unset, .unset, .unset, .unset]) rfl ?_
          show Steps p.tables e below (T115.setTop (mkF m 83 #[.val (.int P0), .val (.long P1), .second, .val (.long P2), .second, .val (.int P3), .val (.int P4), .val (.int (0 : Int32)), .val (.int (0 : Int32)), .val (.ref x103_R0), .val (.ref b105), .val (.long ((-P1) - P2)), .second, .val (.long (P1 + P2)), .second, .unset, .unset, .unset, .unset] [])) _
          refine XS.aload X115.here hx rfl (hb hby at_83) rfl rfl ?_
          show Steps p.tables e below (T115.setTop (mkF m 85 #[.val (.int P0), .val (.long P1), .second, .val (.long P2), .second, .val (.int P3), .val (.int P4), .val (.int (0 : Int32)), .val (.int (0 : Int32)), .val (.ref x103_R0), .val (.ref b105), .val (.long ((-P1) - P2)), .second, .val (.long (P1 + P2)), .second, .unset, .unset, .unset, .unset] [(.ref b105)])) _
          refine XS.iload X115.here hx rfl (hb hby at_85) rfl ?_
          show Steps p.tables e below (T115.setTop (mkF m 87 #[.val (.int P0), .val (.long P1), .second, .val (.long P2), .second, .val (.int P3), .val (.int P4), .val (.int (0 : Int32)), .val (.int (0 : Int32)), .val (.ref x103_R0), .val (.ref b105), .val (.long ((-P1) - P2)), .second, .val (.long (P1 + P2)), .second, .unset, .unset, .unset, .unset] [(.int (0 : Int32)), (.ref b105)])) _
          refine XS.i2l X115.here hx rfl (hb hby at_87) rfl ?_
          show Steps p.tables e below (T115.setTop (mkF m 88 #[.val (.int P0), .val (.long P1), .second, .val (.long P2), .second, .val (.int P3), .val (.int P4), .val (.int (0 : Int32)), .val (.int (0 : Int32)), .val (.ref x103_R0), .val (.ref b105), .val (.long ((-P1) - P2)), .second, .val (.long (P1 + P2)), .second, .unset, .unset, .unset, .unset] [(.long ((0 : Int32).toInt64)), (.ref b105)])) _
          refine XS.lload X115.here hx rfl (hb hby at_88) rfl ?_
          show Steps p.tables e below (T115.setTop (mkF m 90 #[.val (.int P0), .val (.long P1), .second, .val (.long P2), .second, .val (.int P3), .val (.int P4), .val (.int (0 : Int32)), .val (.int (0 : Int32)), .val (.ref x103_R0), .val (.ref b105), .val (.long ((-P1) - P2)), .second, .val (.long (P1 + P2)), .second, .unset, .unset, .unset, .unset] [(.long ((-P1) - P2)), (.long ((0 : Int32).toInt64)), (.ref b105)])) _
          refine XS.lload X115.here hx rfl (hb hby at_90) rfl ?_
          show Steps p.tables e below (T115.setTop (mkF m 92 #[.val (.int P0), .val (.long P1), .second, .val (.long P2), .second, .val (.int P3), .val (.int P4), .val (.int (0 : Int32)), .val (.int (0 : Int32)), .val (.ref x103_R0), .val (.ref b105), .val (.long ((-P1) - P2)), .second, .val (.long (P1 + P2)), .second, .unset, .unset, .unset, .unset] [(.long (P1 + P2)), (.long ((-P1) - P2)), (.long ((0 : Int32).toInt64)), (.ref b105)])) _
          refine XS.ladd X115.here hx rfl (hb hby at_92) rfl ?_
          show Steps p.tables e below (T115.setTop (mkF m 93 #[.val (.int P0), .val (.long P1), .second, .val (.long P2), .second, .val (.int P3), .val (.int P4), .val (.int (0 : Int32)), .val (.int (0 : Int32)), .val (.ref x103_R0), .val (.ref b105), .val (.long ((-P1) - P2)), .second, .val (.long (P1 + P2)), .second, .unset, .unset, .unset, .unset] [(.long (((-P1) - P2) + (P1 + P2))), (.long ((0 : Int32).toInt64)), (.ref b105)])) _
          refine XS.lsub X115.here hx rfl (hb hby at_93) rfl ?_
          show Steps p.tables e below (T115.setTop (mkF m 94 #[.val (.int P0), .val (.long P1), .second, .val (.long P2), .second, .val (.int P3), .val (.int P4), .val (.int (0 : Int32)), .val (.int (0 : Int32)), .val (.ref x103_R0), .val (.ref b105), .val (.long ((-P1) - P2)), .second, .val (.long (P1 + P2)), .second, .unset, .unset, .unset, .unset] [(.long (((0 : Int32).toInt64) - (((-P1) - P2) + (P1 + P2)))), (.ref b105)])) _
          refine st117.trans ?_
          show Steps p.tables e below (T117.setTop (mkF m 97 #[.val (.int P0), .val (.long P1), .second, .val (.long P2), .second, .val (.int P3), .val (.int P4), .val (.int (0 : Int32)), .val (.int (0 : Int32)), .val (.ref x103_R0), .val (.ref b105), .val (.long ((-P1) - P2)), .second, .val (.long (P1 + P2)), .second, .unset, .unset, .unset, .unset] [])) _
          refine XS.lconst X117.here hx rfl (hb hby at_97) ?_
          show Steps p.tables e below (T117.setTop (mkF m 98 #[.val (.int P0), .val (.long P1), .second, .val (.long P2), .second, .val (.int P3), .val (.int P4), .val (.int (0 : Int32)), .val (.int (0 : Int32)), .val (.ref x103_R0), .val (.ref b105), .val (.long ((-P1) - P2)), .second, .val (.long (P1 + P2)), .second, .unset, .unset, .unset, .unset] [(.long (0 : Int64))])) _
          refine XS.lstore X117.here hx rfl (hb hby at_98) rfl (l' := #[.val (.int P0), .val (.long P1), .second, .val (.long P2), .second, .val (.int P3), .val (.int P4), .val (.int (0 : Int32)), .val (.int (0 : Int32)), .val (.ref x103_R0), .val (.ref b105), .val (.long ((-P1) - P2)), .second, .val (.long (P1 + P2)), .second, .val (.long (0 : Int64)), .second, .unset, .unset]) rfl ?_
          show Steps p.tables e below (T117.setTop (mkF m 100 #[.val (.int P0), .val (.long P1), .second, .val (.long P2), .second, .val (.int P3), .val (.int P4), .val (.int (0 : Int32)), .val (.int (0 : Int32)), .val (.ref x103_R0), .val (.ref b105), .val (.long ((-P1) - P2)), .second, .val (.long (P1 + P2)), .second, .val (.long (0 : Int64)), .second, .unset, .unset] [])) _
          refine XS.iload X117.here hx rfl (hb hby at_100) rfl ?_
          show Steps p.tables e below (T117.setTop (mkF m 102 #[.val (.int P0), .val (.long P1), .second, .val (.long P2), .second, .val (.int P3), .val (.int P4), .val (.int (0 : Int32)), .val (.int (0 : Int32)), .val (.ref x103_R0), .val (.ref b105), .val (.long ((-P1) - P2)), .second, .val (.long (P1 + P2)), .second, .val (.long (0 : Int64)), .second, .unset, .unset] [(.int (0 : Int32))])) _
          refine XS.ifYes X117.here hx rfl (pc0 := 102) (pc' := 117) rfl (hb hby at_102) rfl ((if0 _ _).trans (teq (show (0 : Int32) = (0 : Int32) from (by decide))).1) (by decide) (by decide) ?_
          show Steps p.tables e below (T117.setTop (mkF m 117 #[.val (.int P0), .val (.long P1), .second, .val (.long P2), .second, .val (.int P3), .val (.int P4), .val (.int (0 : Int32)), .val (.int (0 : Int32)), .val (.ref x103_R0), .val (.ref b105), .val (.long ((-P1) - P2)), .second, .val (.long (P1 + P2)), .second, .val (.long (0 : Int64)), .second, .unset, .unset] [])) _
          refine XS.aload X117.here hx rfl (hb hby at_117) rfl rfl ?_
          show Steps p.tables e below (T117.setTop (mkF m 119 #[.val (.int P0), .val (.long P1), .second, .val (.long P2), .second, .val (.int P3), .val (.int P4), .val (.int (0 : Int32)), .val (.int (0 : Int32)), .val (.ref x103_R0), .val (.ref b105), .val (.long ((-P1) - P2)), .second, .val (.long (P1 + P2)), .second, .val (.long (0 : Int64)), .second, .unset, .unset] [(.ref b105)])) _
          refine st118.trans ?_
          show Steps p.tables e below (T118.setTop (mkF m 122 #[.val (.int P0), .val (.long P1), .second, .val (.long P2), .second, .val (.int P3), .val (.int P4), .val (.int (0 : Int32)), .val (.int (0 : Int32)), .val (.ref x103_R0), .val (.ref b105), .val (.long ((-P1) - P2)), .second, .val (.long (P1 + P2)), .second, .val (.long (0 : Int64)), .second, .unset, .unset] [])) _
          refine XS.lload X118.here hx rfl (hb hby at_122) rfl ?_
          show Steps p.tables e below (T118.setTop (mkF m 124 #[.val (.int P0), .val (.long P1), .second, .val (.long P2), .second, .val (.int P3), .val (.int P4), .val (.int (0 : Int32)), .val (.int (0 : Int32)), .val (.ref x103_R0), .val (.ref b105), .val (.long ((-P1) - P2)), .second, .val (.long (P1 + P2)), .second, .val (.long (0 : Int64)), .second, .unset, .unset] [(.long (P1 + P2))])) _
          refine XS.lload X118.here hx rfl (hb hby at_124) rfl ?_
          show Steps p.tables e below (T118.setTop (mkF m 126 #[.val (.int P0), .val (.long P1), .second, .val (.long P2), .second, .val (.int P3), .val (.int P4), .val (.int (0 : Int32)), .val (.int (0 : Int32)), .val (.ref x103_R0), .val (.ref b105), .val (.long ((-P1) - P2)), .second, .val (.long (P1 + P2)), .second, .val (.long (0 : Int64)), .second, .unset, .unset] [(.long (0 : Int64)), (.long (P1 + P2))])) _
          refine st120 _ ?_
          show Steps p.tables e below (T120.setTop (mkF m 129 #[.val (.int P0), .val (.long P1), .second, .val (.long P2), .second, .val (.int P3), .val (.int P4), .val (.int (0 : Int32)), .val (.int (0 : Int32)), .val (.ref x103_R0), .val (.ref b105), .val (.long ((-P1) - P2)), .second, .val (.long (P1 + P2)), .second, .val (.long (0 : Int64)), .second, .unset, .unset] [(.long (own_min (P1 + P2) (0 : Int64)))])) _
          refine XS.lstore X120.here hx rfl (hb hby at_129) rfl (l' := #[.val (.int P0), .val (.long P1), .second, .val (.long P2), .second, .val (.int P3), .val (.int P4), .val (.int (0 : Int32)), .val (.int (0 : Int32)), .val (.ref x103_R0), .val (.ref b105), .val (.long ((-P1) - P2)), .second, .val (.long (P1 + P2)), .second, .val (.long (0 : Int64)), .second, .val (.long (own_min (P1 + P2) (0 : Int64))), .second]) rfl ?_
          show Steps p.tables e below (T120.setTop (mkF m 131 #[.val (.int P0), .val (.long P1), .second, .val (.long P2), .second, .val (.int P3), .val (.int P4), .val (.int (0 : Int32)), .val (.int (0 : Int32)), .val (.ref x103_R0), .val (.ref b105), .val (.long ((-P1) - P2)), .second, .val (.long (P1 + P2)), .second, .val (.long (0 : Int64)), .second, .val (.long (own_min (P1 + P2) (0 : Int64))), .second] [])) _
          refine XS.aload X120.here hx rfl (hb hby at_131) rfl rfl ?_
          show Steps p.tables e below (T120.setTop (mkF m 133 #[.val (.int P0), .val (.long P1), .second, .val (.long P2), .second, .val (.int P3), .val (.int P4), .val (.int (0 : Int32)), .val (.int (0 : Int32)), .val (.ref x103_R0), .val (.ref b105), .val (.long ((-P1) - P2)), .second, .val (.long (P1 + P2)), .second, .val (.long (0 : Int64)), .second, .val (.long (own_min (P1 + P2) (0 : Int64))), .second] [(.ref b105)])) _
          refine XS.iload X120.here hx rfl (hb hby at_133) rfl ?_
          show Steps p.tables e below (T120.setTop (mkF m 135 #[.val (.int P0), .val (.long P1), .second, .val (.long P2), .second, .val (.int P3), .val (.int P4), .val (.int (0 : Int32)), .val (.int (0 : Int32)), .val (.ref x103_R0), .val (.ref b105), .val (.long ((-P1) - P2)), .second, .val (.long (P1 + P2)), .second, .val (.long (0 : Int64)), .second, .val (.long (own_min (P1 + P2) (0 : Int64))), .second] [(.int (0 : Int32)), (.ref b105)])) _
          refine XS.i2l X120.here hx rfl (hb hby at_135) rfl ?_
          show Steps p.tables e below (T120.setTop (mkF m 136 #[.val (.int P0), .val (.long P1), .second, .val (.long P2), .second, .val (.int P3), .val (.int P4), .val (.int (0 : Int32)), .val (.int (0 : Int32)), .val (.ref x103_R0), .val (.ref b105), .val (.long ((-P1) - P2)), .second, .val (.long (P1 + P2)), .second, .val (.long (0 : Int64)), .second, .val (.long (own_min (P1 + P2) (0 : Int64))), .second] [(.long ((0 : Int32).toInt64)), (.ref b105)])) _
          refine XS.lload X120.here hx rfl (hb hby at_136) rfl ?_
          show Steps p.tables e below (T120.setTop (mkF m 138 #[.val (.int P0), .val (.long P1), .second, .val (.long P2), .second, .val (.int P3), .val (.int P4), .val (.int (0 : Int32)), .val (.int (0 : Int32)), .val (.ref x103_R0), .val (.ref b105), .val (.long ((-P1) - P2)), .second, .val (.long (P1 + P2)), .second, .val (.long (0 : Int64)), .second, .val (.long (own_min (P1 + P2) (0 : Int64))), .second] [(.long ((-P1) - P2)), (.long ((0 : Int32).toInt64)), (.ref b105)])) _
          refine XS.lload X120.here hx rfl (hb hby at_138) rfl ?_
          show Steps p.tables e below (T120.setTop (mkF m 140 #[.val (.int P0), .val (.long P1), .second, .val (.long P2), .second, .val (.int P3), .val (.int P4), .val (.int (0 : Int32)), .val (.int (0 : Int32)), .val (.ref x103_R0), .val (.ref b105), .val (.long ((-P1) - P2)), .second, .val (.long (P1 + P2)), .second, .val (.long (0 : Int64)), .second, .val (.long (own_min (P1 + P2) (0 : Int64))), .second] [(.long (own_min (P1 + P2) (0 : Int64))), (.long ((-P1) - P2)), (.long ((0 : Int32).toInt64)), (.ref b105)])) _
          refine XS.ladd X120.here hx rfl (hb hby at_140) rfl ?_
          show Steps p.tables e below (T120.setTop (mkF m 141 #[.val (.int P0), .val (.long P1), .second, .val (.long P2), .second, .val (.int P3), .val (.int P4), .val (.int (0 : Int32)), .val (.int (0 : Int32)), .val (.ref x103_R0), .val (.ref b105), .val (.long ((-P1) - P2)), .second, .val (.long (P1 + P2)), .second, .val (.long (0 : Int64)), .second, .val (.long (own_min (P1 + P2) (0 : Int64))), .second] [(.long (((-P1) - P2) + (own_min (P1 + P2) (0 : Int64)))), (.long ((0 : Int32).toInt64)), (.ref b105)])) _
          refine XS.lsub X120.here hx rfl (hb hby at_141) rfl ?_
          show Steps p.tables e below (T120.setTop (mkF m 142 #[.val (.int P0), .val (.long P1), .second, .val (.long P2), .second, .val (.int P3), .val (.int P4), .val (.int (0 : Int32)), .val (.int (0 : Int32)), .val (.ref x103_R0), .val (.ref b105), .val (.long ((-P1) - P2)), .second, .val (.long (P1 + P2)), .second, .val (.long (0 : Int64)), .second, .val (.long (own_min (P1 + P2) (0 : Int64))), .second] [(.long (((0 : Int32).toInt64) - (((-P1) - P2) + (own_min (P1 + P2) (0 : Int64))))), (.ref b105)])) _
          refine st121.trans ?_
          show Steps p.tables e below (T121.setTop (mkF m 145 #[.val (.int P0), .val (.long P1), .second, .val (.long P2), .second, .val (.int P3), .val (.int P4), .val (.int (0 : Int32)), .val (.int (0 : Int32)), .val (.ref x103_R0), .val (.ref b105), .val (.long ((-P1) - P2)), .second, .val (.long (P1 + P2)), .second, .val (.long (0 : Int64)), .second, .val (.long (own_min (P1 + P2) (0 : Int64))), .second] [])) _
          refine XS.iconst X121.here hx rfl (hb hby at_145) ?_
          exact kt)
      obtain ⟨fs, hr, hrun, hended, hW, hsame⟩ := X121.leave (v := some (.int (1 : Int32))) (fun h => by rw [Bd.returns] at h; cases h)
      refine ⟨_, _, pre122 _ ?_, hrun, hended, _, _, rfl, ?_, ⟨_, rfl⟩, hW, hsame.mono (by decide) (by decide)⟩
      · show Steps p.tables e below (T121.setTop (mkF m 146 #[.val (.int P0), .val (.long P1), .second, .val (.long P2), .second, .val (.int P3), .val (.int P4), .val (.int (0 : Int32)), .val (.int (0 : Int32)), .val (.ref x103_R0), .val (.ref b105), .val (.long ((-P1) - P2)), .second, .val (.long (P1 + P2)), .second, .val (.long (0 : Int64)), .second, .val (.long (own_min (P1 + P2) (0 : Int64))), .second] [(.int (1 : Int32))])) _
        exact retN X121 hx (t := .boolean) Bd.returns (by simp) (hb hby at_146) hr
      · show Q0 Z P0 P1 P2 P3 P4 U0 h0 n0 _ T121.heap _
        rw [K121]
        exact ⟨rfl, N121⟩
    · obtain ⟨_, _, ⟨T123, L123, k123, n123⟩, -, X123, ⟨Lc123, hQ123, l123, y123, z123⟩, st123⟩ := Jvm.LawKit.callS X0 hx (y := (⟨"java/lang/String", "valueOf", "(C)Ljava/lang/String;"⟩ : MethodName)) hown (mvT hZ (hw _ (List.mem_of_getElem? (i := 1) rfl))) (mvT hZ (hw _ (List.mem_of_getElem? (i := 2) rfl))) (mvT hZ (hw _ (List.mem_of_getElem? (i := 3) rfl))) (mvT hZ (hw _ (List.mem_of_getElem? (i := 4) rfl))) (by decide) (backOf (W := 0) (rm1 l Z a0 hw [] ((P4 &&& (255 : Int32)).toUInt32.toUInt16.toUInt32.toInt32) U0 h0 n0 Z0 pm0 (show ¬ (U0 = (0 : Int32)) from hcs) (show ¬ ((255 : Int32) < ((P4 &&& (255 : Int32)).toUInt32.toUInt16.toUInt32.toInt32)) from (own_le _))) hZ (hw _ (List.mem_of_getElem? (i := 4) rfl)) (hw _ (List.mem_of_getElem? (i := 3) rfl)) (by decide) (by decide)) (g := (mkF m 34 #[.val (.int P0), .val (.long P1), .second, .val (.long P2), .second, .val (.int P3), .val (.int P4), .val (.int (0 : Int32)), .val (.int (1 : Int32)), .unset, .unset, .unset, .unset, .unset, .unset, .unset, .unset, .unset, .unset] [(.int ((P4 &&& (255 : Int32)).toUInt32.toUInt16.toUInt32.toInt32))])) rfl (by rw [hml]; rfl) (argsL := [(.int ((P4 &&& (255 : Int32)).toUInt32.toUInt16.toUInt32.toInt32))]) (rest := []) (lenOf pd_0_0 rfl) rfl (by show 2 * 0 + _ ≤ _; exact Nat.le_of_eq rfl) (hb hby at_34) (fun _ _ => ⟨rfl, e0, (by decide : 0 + 2 ≤ _), (by decide : 0 + 5 ≤ _)⟩)
      dsimp only [Pt.U, Pt.locs, Pt.cells, Pt.slots] at X123 l123 y123 z123 st123 hQ123
      subst l123 y123 z123
      obtain ⟨x123_R0, x123_R1, x123_K0, x123_XV0, rfl, N123q, K123, lb123_0, lb123_1, p123_0, p123_1, p123_2, p123_3⟩ := hQ123
      have N123 := Fr.app N0 N123q
      have g_x123_R0 : n0 ≤ x123_R0 := Nat.le_trans Z0 lb123_0
      have g_x123_R1 : n0 ≤ x123_R1 := Nat.le_trans Z0 lb123_1
      have Z124 : n0 ≤ T123.heap.size := Nat.le_trans Z0 K123.1
      have ss123_0 : Sta Z T123.heap "java/lang/String" "COMPACT_STRINGS" "Z" (.int U0) := own_sta_keep pm0 K123 all0
      obtain ⟨T125, h125, X125, e125, E125, A125, D125, -, st125⟩ := newO X123 hx hZ hown (hw _ (List.mem_of_getElem? (i := 27) rfl)) (hw _ (List.mem_of_getElem? (i := 28) rfl)) (hw _ (List.mem_of_getElem? (i := 29) rfl)) rfl (g := (mkF m 39 #[.val (.int P0), .val (.long P1), .second, .val (.long P2), .second, .val (.int P3), .val (.int P4), .val (.int (0 : Int32)), .val (.int (1 : Int32)), .val (.ref x123_R0), .unset, .unset, .unset, .unset, .unset, .unset, .unset, .unset, .unset] [])) rfl (hb hby at_39) (by decide) (by decide)
      obtain ⟨b125, q125⟩ : ∃ z, z = T123.heap.size := ⟨_, rfl⟩
      rw [← q125] at A125 D125 st125
      have ne126 : x123_R0 ≠ b125 := Nat.ne_of_lt (Nat.lt_of_lt_of_le p123_0.lt (Nat.le_of_eq q125.symm))
      have ne127 : x123_R1 ≠ b125 := Nat.ne_of_lt (Nat.lt_of_lt_of_le p123_3.lt (Nat.le_of_eq q125.symm))
      have g_b125 : n0 ≤ b125 := Nat.le_trans Z124 (Nat.le_of_eq q125.symm)
      have Z128 : n0 ≤ h125.size := Nat.le_trans Z124 E125.1
      have F125_35 : Fld Z h125 b125 "com/example/terseform/terseform/datatypes/HeldCharacters" "limit" "I" (.int (0 : Int32)) := D125 (Or.inr (hw _ (List.mem_of_getElem? (i := 35) rfl))) (ty := .int) (by decide)
      have F125_37 : Fld Z h125 b125 "com/example/terseform/terseform/datatypes/HeldCharacters" "nameLimit" "I" (.int (0 : Int32)) := D125 (Or.inr (hw _ (List.mem_of_getElem? (i := 37) rfl))) (ty := .int) (by decide)
      have F125_44 : Fld Z h125 b125 "com/example/terseform/terseform/datatypes/HeldCharacters" "kept" "J" (.long (0 : Int64)) := D125 (Or.inl (hw _ (List.mem_of_getElem? (i := 44) rfl))) (ty := .long) (by decide)
      have F125_46 : Fld Z h125 b125 "com/example/terseform/terseform/datatypes/HeldCharacters" "held" "J" (.long (0 : Int64)) := D125 (Or.inl (hw _ (List.mem_of_getElem? (i := 46) rfl))) (ty := .long) (by decide)
      have F125_54 : Fld Z h125 b125 "com/example/terseform/terseform/datatypes/HeldCharacters" "reading" "J" (.long (0 : Int64)) := D125 (Or.inl (hw _ (List.mem_of_getElem? (i := 54) rfl))) (ty := .long) (by decide)
      have F125_61 : Fld Z h125 b125 "com/example/terseform/terseform/datatypes/HeldCharacters" "given" "J" (.long (0 : Int64)) := D125 (Or.inl (hw _ (List.mem_of_getElem? (i := 61) rfl))) (ty := .long) (by decide)
      have c129 : Sta Z h125 "java/lang/String" "COMPACT_STRINGS" "Z" (.int U0) := (ss123_0.ext E125)
      obtain ⟨_, _, ⟨T130, L130, k130, n130⟩, -, X130, ⟨Lc130, hQ130, l130, y130, z130⟩, st130⟩ := X125.specialBack hx (y := (⟨"com/example/terseform/terseform/datatypes/HeldCharacters", "<init>", "(II)V"⟩ : MethodName)) rfl hown (mvT hZ (hw _ (List.mem_of_getElem? (i := 30) rfl))) (mvT hZ (hw _ (List.mem_of_getElem? (i := 31) rfl))) (mvT hZ (hw _ (List.mem_of_getElem? (i := 32) rfl))) (by decide) (backOf (W := 1) (rm6 l Z a0 hw [] b125 (0 : Int32) (2147483647 : Int32) (0 : Int32) (0 : Int32) (0 : Int64) (0 : Int64) (0 : Int64) (0 : Int64) h125 n0 Z128 F125_35 F125_37 F125_44 F125_46 F125_54 F125_61 A125 g_b125) hZ (hw _ (List.mem_of_getElem? (i := 32) rfl)) (hw _ (List.mem_of_getElem? (i := 29) rfl)) (by decide) (by decide)) (g := (mkF m 47 #[.val (.int P0), .val (.long P1), .second, .val (.long P2), .second, .val (.int P3), .val (.int P4), .val (.int (0 : Int32)), .val (.int (1 : Int32)), .val (.ref x123_R0), .unset, .unset, .unset, .unset, .unset, .unset, .unset, .unset, .unset] [(.int (2147483647 : Int32)), (.int (0 : Int32)), (.ref b125), (.ref b125)])) rfl (by rw [hml]; rfl) (Steps.refl _) (a := b125) (argsL := [(.int (0 : Int32)), (.int (2147483647 : Int32))]) (rest := [(.ref b125)]) (lenOf pd_0_1 rfl) rfl (by show 2 * 0 + _ ≤ _; exact Nat.le_of_eq rfl) (hb hby at_47) (fun _ _ => ⟨rfl, e125, (by decide : 3 + 0 ≤ _), (by decide : 12 + 0 ≤ _)⟩)
      dsimp only [Pt.U, Pt.locs, Pt.cells, Pt.slots] at X130 l130 y130 z130 st130 hQ130
      subst l130 y130 z130
      obtain ⟨rfl, N130q, K130, p130_0, p130_1, p130_2, p130_3, p130_4, p130_5, p130_6⟩ := hQ130
      have N130 := Fr.app N123 N130q
      have Z131 : n0 ≤ T130.heap.size := Nat.le_trans Z128 K130.1
      have ss130_0 : Sta Z T130.heap "java/lang/String" "COMPACT_STRINGS" "Z" (.int U0) := own_sta_keep c129 K130 (allS (own_ns A125) all0)
      obtain ⟨cq132, kq132, q132a, q132b, q132c⟩ := isOf hZ rfl p130_0
      obtain ⟨_, _, ⟨T132, L132, k132, n132⟩, -, X132, ⟨Lc132, hQ132, l132, y132, z132⟩, st132⟩ := X130.virtualBack hx (y := (⟨"com/example/terseform/terseform/datatypes/HeldCharacters", "letGo", "(J)V"⟩ : MethodName)) (z := (⟨"com/example/terseform/terseform/datatypes/HeldCharacters", "letGo", "(J)V"⟩ : MethodName)) hown (mvT hZ (hw _ (List.mem_of_getElem? (i := 38) rfl))) (mvT hZ (hw _ (List.mem_of_getElem? (i := 39) rfl))) (notFace_of_selects (args := #[]) (mvT hZ (hw _ (List.mem_of_getElem? (i := 41) rfl)))) (mvT hZ (hw _ (List.mem_of_getElem? (i := 41) rfl))) (mvT hZ (hw _ (List.mem_of_getElem? (i := 40) rfl))) (by decide) (backOf (W := 0) (rm7 l Z a0 hw [] b125 P1 (0 : Int32) (2147483647 : Int32) (0 : Int64) (0 : Int64) (0 : Int64) (0 : Int64) T130.heap n0 Z131 p130_1 p130_2 p130_3 p130_4 p130_5 p130_6 p130_0 g_b125) hZ (hw _ (List.mem_of_getElem? (i := 42) rfl)) (hw _ (List.mem_of_getElem? (i := 29) rfl)) (by decide) (by decide)) q132a q132c (g := (mkF m 55 #[.val (.int P0), .val (.long P1), .second, .val (.long P2), .second, .val (.int P3), .val (.int P4), .val (.int (0 : Int32)), .val (.int (1 : Int32)), .val (.ref x123_R0), .val (.ref b125), .unset, .unset, .unset, .unset, .unset, .unset, .unset, .unset] [(.long P1), (.ref b125)])) rfl (by rw [hml]; rfl) (Steps.refl _) (argsL := [(.long P1)]) (rest := []) (lenOf pd_0_2 rfl) rfl (by show 2 * 0 + _ ≤ _; exact Nat.le_of_eq rfl) (hb hby at_55) (fun _ _ => ⟨rfl, rfl, (by decide : 3 + 0 ≤ _), (by decide : 12 + 0 ≤ _)⟩)
      dsimp only [Pt.U, Pt.locs, Pt.cells, Pt.slots] at X132 l132 y132 z132 st132 hQ132
      subst l132 y132 z132
      obtain ⟨rfl, N132q, K132, p132_0, p132_1, p132_2, p132_3, p132_4, p132_5, p132_6⟩ := hQ132
      have N132 := Fr.app N130 N132q
      have Z133 : n0 ≤ T132.heap.size := Nat.le_trans Z131 K132.1
      have ss132_0 : Sta Z T132.heap "java/lang/String" "COMPACT_STRINGS" "Z" (.int U0) := own_sta_keep ss130_0 K132 (allS (own_ns p130_0) all0)
      obtain ⟨cq134, kq134, q134a, q134b, q134c⟩ := isOf hZ rfl p132_0
      obtain ⟨_, _, ⟨T134, L134, k134, n134⟩, -, X134, ⟨Lc134, hQ134, l134, y134, z134⟩, st134⟩ := X132.virtualBack hx (y := (⟨"com/example/terseform/terseform/datatypes/HeldCharacters", "checkRoom", "(J)V"⟩ : MethodName)) (z := (⟨"com/example/terseform/terseform/datatypes/HeldCharacters", "checkRoom", "(J)V"⟩ : MethodName)) hown (mvT hZ (hw _ (List.mem_of_getElem? (i := 47) rfl))) (mvT hZ (hw _ (List.mem_of_getElem? (i := 48) rfl))) (notFace_of_selects (args := #[]) (mvT hZ (hw _ (List.mem_of_getElem? (i := 50) rfl)))) (mvT hZ (hw _ (List.mem_of_getElem? (i := 50) rfl))) (mvT hZ (hw _ (List.mem_of_getElem? (i := 49) rfl))) (by decide) (backOf (W := 0) (rm8 l Z a0 hw [] b125 ((0 : Int32).toInt64) (0 : Int32) ((0 : Int64) - P1) ((0 : Int64) + P1) (0 : Int64) T132.heap n0 Z133 p132_1 p132_3 p132_4 p132_5 (show ¬ (((0 : Int32).toInt64) < (((((0 : Int64) - P1) + ((0 : Int64) + P1)) + (0 : Int64)) + ((0 : Int32).toInt64))) from (own_irr _ _ (own_r1 _ _)))) hZ (hw _ (List.mem_of_getElem? (i := 51) rfl)) (hw _ (List.mem_of_getElem? (i := 29) rfl)) (by decide) (by decide)) q134a q134c (g := (mkF m 63 #[.val (.int P0), .val (.long P1), .second, .val (.long P2), .second, .val (.int P3), .val (.int P4), .val (.int (0 : Int32)), .val (.int (1 : Int32)), .val (.ref x123_R0), .val (.ref b125), .unset, .unset, .unset, .unset, .unset, .unset, .unset, .unset] [(.long ((0 : Int32).toInt64)), (.ref b125)])) rfl (by rw [hml]; rfl) (Steps.refl _) (argsL := [(.long ((0 : Int32).toInt64))]) (rest := []) (lenOf pd_0_2 rfl) rfl (by show 2 * 0 + _ ≤ _; exact Nat.le_of_eq rfl) (hb hby at_63) (fun _ _ => ⟨rfl, rfl, (by decide : 3 + 0 ≤ _), (by decide : 12 + 0 ≤ _)⟩)
      dsimp only [Pt.U, Pt.locs, Pt.cells, Pt.slots] at X134 l134 y134 z134 st134 hQ134
      subst l134 y134 z134
      obtain ⟨rfl, N134q, K134⟩ := hQ134
      have N134 := Fr.app N132 N134q
      obtain ⟨cq135, kq135, q135a, q135b, q135c⟩ := isOf hZ K134 p132_0
      obtain ⟨_, _, ⟨T135, L135, k135, n135⟩, -, X135, ⟨Lc135, hQ135, l135, y135, z135⟩, st135⟩ := X134.virtualBack hx (y := (⟨"com/example/terseform/terseform/datatypes/HeldCharacters", "letGo", "(J)V"⟩ : MethodName)) (z := (⟨"com/example/terseform/terseform/datatypes/HeldCharacters", "letGo", "(J)V"⟩ : MethodName)) hown (mvT hZ (hw _ (List.mem_of_getElem? (i := 38) rfl))) (mvT hZ (hw _ (List.mem_of_getElem? (i := 39) rfl))) (notFace_of_selects (args := #[]) (mvT hZ (hw _ (List.mem_of_getElem? (i := 41) rfl)))) (mvT hZ (hw _ (List.mem_of_getElem? (i := 41) rfl))) (mvT hZ (hw _ (List.mem_of_getElem? (i := 40) rfl))) (by decide) (backOf (W := 0) (rm7 l Z a0 hw [] b125 P2 (0 : Int32) (2147483647 : Int32) ((0 : Int64) - P1) ((0 : Int64) + P1) (0 : Int64) (0 : Int64) T132.heap n0 Z133 p132_1 p132_2 p132_3 p132_4 p132_5 p132_6 p132_0 g_b125) hZ (hw _ (List.mem_of_getElem? (i := 42) rfl)) (hw _ (List.mem_of_getElem? (i := 29) rfl)) (by decide) (by decide)) q135a q135c (g := (mkF m 69 #[.val (.int P0), .val (.long P1), .second, .val (.long P2), .second, .val (.int P3), .val (.int P4), .val (.int (0 : Int32)), .val (.int (1 : Int32)), .val (.ref x123_R0), .val (.ref b125), .unset, .unset, .unset, .unset, .unset, .unset, .unset, .unset] [(.long P2), (.ref b125)])) rfl (by rw [hml]; rfl) (Steps.refl _) (argsL := [(.long P2)]) (rest := []) (lenOf pd_0_2 rfl) rfl (by show 2 * 0 + _ ≤ _; exact Nat.le_of_eq rfl) (hb hby at_69) (fun _ _ => ⟨rfl, K134, (by decide : 3 + 0 ≤ _), (by decide : 12 + 0 ≤ _)⟩)
      dsimp only [Pt.U, Pt.locs, Pt.cells, Pt.slots] at X135 l135 y135 z135 st135 hQ135
      subst l135 y135 z135
      obtain ⟨rfl, N135q, K135, p135_0, p135_1, p135_2, p135_3, p135_4, p135_5, p135_6⟩ := hQ135
      have N135 := Fr.app N134 N135q
      have Z136 : n0 ≤ T135.heap.size := Nat.le_trans Z133 K135.1
      have ss135_0 : Sta Z T135.heap "java/lang/String" "COMPACT_STRINGS" "Z" (.int U0) := own_sta_keep ss132_0 K135 (allS (own_ns p132_0) all0)
      obtain ⟨cq137, kq137, q137a, q137b, q137c⟩ := isOf hZ rfl p135_0
      obtain ⟨_, _, ⟨T137, L137, k137, n137⟩, -, X137, ⟨Lc137, hQ137, l137, y137, z137⟩, st137⟩ := X135.virtualBack hx (y := (⟨"com/example/terseform/terseform/datatypes/HeldCharacters", "checkRoom", "(J)V"⟩ : MethodName)) (z := (⟨"com/example/terseform/terseform/datatypes/HeldCharacters", "checkRoom", "(J)V"⟩ : MethodName)) hown (mvT hZ (hw _ (List.mem_of_getElem? (i := 47) rfl))) (mvT hZ (hw _ (List.mem_of_getElem? (i := 48) rfl))) (notFace_of_selects (args := #[]) (mvT hZ (hw _ (List.mem_of_getElem? (i := 50) rfl)))) (mvT hZ (hw _ (List.mem_of_getElem? (i := 50) rfl))) (mvT hZ (hw _ (List.mem_of_getElem? (i := 49) rfl))) (by decide) (backOf (W := 0) (rm8 l Z a0 hw [] b125 (((0 : Int32).toInt64) - (((-P1) - P2) + (P1 + P2))) (0 : Int32) (((0 : Int64) - P1) - P2) (((0 : Int64) + P1) + P2) (0 : Int64) T135.heap n0 Z136 p135_1 p135_3 p135_4 p135_5 (show ¬ (((0 : Int32).toInt64) < ((((((0 : Int64) - P1) - P2) + (((0 : Int64) + P1) + P2)) + (0 : Int64)) + (((0 : Int32).toInt64) - (((-P1) - P2) + (P1 + P2))))) from (own_irr _ _ (own_r2 _ _ _)))) hZ (hw _ (List.mem_of_getElem? (i := 51) rfl)) (hw _ (List.mem_of_getElem? (i := 29) rfl)) (by decide) (by decide)) q137a q137c (g := (mkF m 94 #[.val (.int P0), .val (.long P1), .second, .val (.long P2), .second, .val (.int P3), .val (.int P4), .val (.int (0 : Int32)), .val (.int (1 : Int32)), .val (.ref x123_R0), .val (.ref b125), .val (.long ((-P1) - P2)), .second, .val (.long (P1 + P2)), .second, .unset, .unset, .unset, .unset] [(.long (((0 : Int32).toInt64) - (((-P1) - P2) + (P1 + P2)))), (.ref b125)])) rfl (by rw [hml]; rfl) (Steps.refl _) (argsL := [(.long (((0 : Int32).toInt64) - (((-P1) - P2) + (P1 + P2))))]) (rest := []) (lenOf pd_0_2 rfl) rfl (by show 2 * 0 + _ ≤ _; exact Nat.le_of_eq rfl) (hb hby at_94) (fun _ _ => ⟨rfl, rfl, (by decide : 3 + 0 ≤ _), (by decide : 12 + 0 ≤ _)⟩)
      dsimp only [Pt.U, Pt.locs, Pt.cells, Pt.slots] at X137 l137 y137 z137 st137 hQ137
      subst l137 y137 z137
      obtain ⟨rfl, N137q, K137⟩ := hQ137
      have N137 := Fr.app N135 N137q
      have c138 : Exa Z T135.heap x123_R0 "java/lang/String" := ((((p123_0.ext E125).keep K130).keep K132).keep K135)
      have c139 : Fld Z T135.heap x123_R0 "java/lang/String" "value" "[B" (.ref x123_R1) := ((((p123_1.ext E125).keep K130 (ninS ne126 nin0)).keep K132 (ninS ne126 nin0)).keep K135 (ninS ne126 nin0))
      have c140 : Fld Z T135.heap x123_R0 "java/lang/String" "coder" "B" (.int (0 : Int32)) := ((((p123_2.ext E125).keep K130 (ninS ne126 nin0)).keep K132 (ninS ne126 nin0)).keep K135 (ninS ne126 nin0))
      have c141 : Arv Z T135.heap x123_R1 x123_K0 .byte (1 : Int32) [(.int x123_XV0)] (.int (0 : Int32)) := ((((p123_3.ext E125).keep K130 (ninS ne127 nin0)).keep K132 (ninS ne127 nin0)).keep K135 (ninS ne127 nin0))
      obtain ⟨cq142, kq142, q142a, q142b, q142c⟩ := isOf hZ K137 p135_0
      obtain ⟨_, _, ⟨T142, L142, k142, n142⟩, -, X142, ⟨Lc142, hQ142, l142, y142, z142⟩, st142⟩ := X137.virtualBack hx (y := (⟨"com/example/terseform/terseform/datatypes/HeldCharacters", "holdGiven", "(Ljava/lang/String;)V"⟩ : MethodName)) (z := (⟨"com/example/terseform/terseform/datatypes/HeldCharacters", "holdGiven", "(Ljava/lang/String;)V"⟩ : MethodName)) hown (mvT hZ (hw _ (List.mem_of_getElem? (i := 67) rfl))) (mvT hZ (hw _ (List.mem_of_getElem? (i := 68) rfl))) (notFace_of_selects (args := #[]) (mvT hZ (hw _ (List.mem_of_getElem? (i := 70) rfl)))) (mvT hZ (hw _ (List.mem_of_getElem? (i := 70) rfl))) (mvT hZ (hw _ (List.mem_of_getElem? (i := 69) rfl))) (by decide) (backOf (W := 0) (rm11 l Z a0 hw [] b125 x123_R0 (0 : Int32) (2147483647 : Int32) (((0 : Int64) - P1) - P2) (((0 : Int64) + P1) + P2) (0 : Int64) (0 : Int64) x123_R1 x123_K0 x123_XV0 U0 T135.heap n0 Z136 p135_1 p135_2 p135_3 p135_4 p135_5 p135_6 p135_0 c138 c139 c140 c141 ss135_0 (show ¬ (U0 = (0 : Int32)) from hcs) (show x123_R0 ≠ b125 from ne126) (show x123_R1 ≠ b125 from ne127) g_b125) hZ (hw _ (List.mem_of_getElem? (i := 71) rfl)) (hw _ (List.mem_of_getElem? (i := 29) rfl)) (by decide) (by decide)) q142a q142c (g := (mkF m 109 #[.val (.int P0), .val (.long P1), .second, .val (.long P2), .second, .val (.int P3), .val (.int P4), .val (.int (0 : Int32)), .val (.int (1 : Int32)), .val (.ref x123_R0), .val (.ref b125), .val (.long ((-P1) - P2)), .second, .val (.long (P1 + P2)), .second, .val (.long (0 : Int64)), .second, .unset, .unset] [(.ref x123_R0), (.ref b125)])) rfl (by rw [hml]; rfl) (Steps.refl _) (argsL := [(.ref x123_R0)]) (rest := []) (lenOf pd_0_5 rfl) rfl (by show 2 * 0 + _ ≤ _; exact Nat.le_of_eq rfl) (hb hby at_109) (fun _ _ => ⟨rfl, K137, (by decide : 3 + 0 ≤ _), (by decide : 12 + 0 ≤ _)⟩)
      dsimp only [Pt.U, Pt.locs, Pt.cells, Pt.slots] at X142 l142 y142 z142 st142 hQ142
      subst l142 y142 z142
      obtain ⟨rfl, N142q, K142, p142_0, p142_1, p142_2, p142_3, p142_4, p142_5, p142_6⟩ := hQ142
      have N142 := Fr.app N137 N142q
      have Z143 : n0 ≤ T142.heap.size := Nat.le_trans Z136 K142.1
      have ss142_0 : Sta Z T142.heap "java/lang/String" "COMPACT_STRINGS" "Z" (.int U0) := own_sta_keep ss135_0 K142 (allS (own_ns p135_0) all0)
      obtain ⟨cq144, kq144, q144a, q144b, q144c⟩ := isOf hZ rfl p142_0
      obtain ⟨_, _, ⟨T144, L144, k144, n144⟩, -, X144, ⟨Lc144, hQ144, l144, y144, z144⟩, st144⟩ := X142.virtualBack hx (y := (⟨"com/example/terseform/terseform/datatypes/HeldCharacters", "release", "()V"⟩ : MethodName)) (z := (⟨"com/example/terseform/terseform/datatypes/HeldCharacters", "release", "()V"⟩ : MethodName)) hown (mvT hZ (hw _ (List.mem_of_getElem? (i := 55) rfl))) (mvT hZ (hw _ (List.mem_of_getElem? (i := 56) rfl))) (notFace_of_selects (args := #[]) (mvT hZ (hw _ (List.mem_of_getElem? (i := 58) rfl)))) (mvT hZ (hw _ (List.mem_of_getElem? (i := 58) rfl))) (mvT hZ (hw _ (List.mem_of_getElem? (i := 57) rfl))) (by decide) (backOf (W := 0) (rm9 l Z a0 hw [] b125 (0 : Int32) (2147483647 : Int32) (((0 : Int64) - P1) - P2) (((0 : Int64) + P1) + P2) (0 : Int64) ((0 : Int64) + (33 : Int64)) T142.heap n0 Z143 p142_1 p142_2 p142_3 p142_4 p142_5 p142_6 p142_0 g_b125) hZ (hw _ (List.mem_of_getElem? (i := 59) rfl)) (hw _ (List.mem_of_getElem? (i := 29) rfl)) (by decide) (by decide)) q144a q144c (g := (mkF m 119 #[.val (.int P0), .val (.long P1), .second, .val (.long P2), .second, .val (.int P3), .val (.int P4), .val (.int (0 : Int32)), .val (.int (1 : Int32)), .val (.ref x123_R0), .val (.ref b125), .val (.long ((-P1) - P2)), .second, .val (.long (P1 + P2)), .second, .val (.long (33 : Int64)), .second, .unset, .unset] [(.ref b125)])) rfl (by rw [hml]; rfl) (Steps.refl _) (argsL := []) (rest := []) (lenOf pd_0_3 rfl) rfl (by show 2 * 0 + _ ≤ _; exact Nat.le_of_eq rfl) (hb hby at_119) (fun _ _ => ⟨rfl, rfl, (by decide : 3 + 0 ≤ _), (by decide : 12 + 0 ≤ _)⟩)
      dsimp only [Pt.U, Pt.locs, Pt.cells, Pt.slots] at X144 l144 y144 z144 st144 hQ144
      subst l144 y144 z144
      obtain ⟨rfl, N144q, K144, p144_0, p144_1, p144_2, p144_3, p144_4, p144_5, p144_6⟩ := hQ144
      have N144 := Fr.app N142 N144q
      have Z145 : n0 ≤ T144.heap.size := Nat.le_trans Z143 K144.1
      have ss144_0 : Sta Z T144.heap "java/lang/String" "COMPACT_STRINGS" "Z" (.int U0) := own_sta_keep ss142_0 K144 (allS (own_ns p142_0) all0)
      obtain ⟨_, _, ⟨T146, L146, k146, n146⟩, -, X146, ⟨Lc146, hQ146, l146, y146, z146⟩, st146⟩ := Jvm.LawKit.callS X144 hx (y := (⟨"java/lang/Math", "min", "(JJ)J"⟩ : MethodName)) hown (mvT hZ (hw _ (List.mem_of_getElem? (i := 66) rfl))) (mvT hZ (hw _ (List.mem_of_getElem? (i := 63) rfl))) (mvT hZ (hw _ (List.mem_of_getElem? (i := 64) rfl))) (mvT hZ (hw _ (List.mem_of_getElem? (i := 65) rfl))) (by decide) (backOf (W := 0) (rm10 l Z a0 hw [] (P1 + P2) (33 : Int64) T144.heap n0 Z145 ) hZ (hw _ (List.mem_of_getElem? (i := 65) rfl)) (hw _ (List.mem_of_getElem? (i := 64) rfl)) (by decide) (by decide)) (g := (mkF m 126 #[.val (.int P0), .val (.long P1), .second, .val (.long P2), .second, .val (.int P3), .val (.int P4), .val (.int (0 : Int32)), .val (.int (1 : Int32)), .val (.ref x123_R0), .val (.ref b125), .val (.long ((-P1) - P2)), .second, .val (.long (P1 + P2)), .second, .val (.long (33 : Int64)), .second, .unset, .unset] [(.long (33 : Int64)), (.long (P1 + P2))])) rfl (by rw [hml]; rfl) (argsL := [(.long (P1 + P2)), (.long (33 : Int64))]) (rest := []) (lenOf pd_0_4 rfl) rfl (by show 2 * 0 + _ ≤ _; exact Nat.le_of_eq rfl) (hb hby at_126) (fun _ _ => ⟨rfl, rfl, (by decide : 3 + 0 ≤ _), (by decide : 12 + 0 ≤ _)⟩)
      dsimp only [Pt.U, Pt.locs, Pt.cells, Pt.slots] at X146 l146 y146 z146 st146 hQ146
      subst l146 y146 z146
      obtain ⟨rfl, N146q, K146⟩ := hQ146
      have N146 := Fr.app N144 N146q
      obtain ⟨cq147, kq147, q147a, q147b, q147c⟩ := isOf hZ K146 p144_0
      obtain ⟨_, _, ⟨T147, L147, k147, n147⟩, -, X147, ⟨Lc147, hQ147, l147, y147, z147⟩, st147⟩ := X146.virtualBack hx (y := (⟨"com/example/terseform/terseform/datatypes/HeldCharacters", "checkRoom", "(J)V"⟩ : MethodName)) (z := (⟨"com/example/terseform/terseform/datatypes/HeldCharacters", "checkRoom", "(J)V"⟩ : MethodName)) hown (mvT hZ (hw _ (List.mem_of_getElem? (i := 47) rfl))) (mvT hZ (hw _ (List.mem_of_getElem? (i := 48) rfl))) (notFace_of_selects (args := #[]) (mvT hZ (hw _ (List.mem_of_getElem? (i := 50) rfl)))) (mvT hZ (hw _ (List.mem_of_getElem? (i := 50) rfl))) (mvT hZ (hw _ (List.mem_of_getElem? (i := 49) rfl))) (by decide) (backOf (W := 0) (rm8 l Z a0 hw [] b125 (((0 : Int32).toInt64) - (((-P1) - P2) + (own_min (P1 + P2) (33 : Int64)))) (0 : Int32) (((0 : Int64) - P1) - P2) (own_min (((0 : Int64) + P1) + P2) ((0 : Int64) + (33 : Int64))) (0 : Int64) T144.heap n0 Z145 p144_1 p144_3 p144_4 p144_5 (show ¬ (((0 : Int32).toInt64) < ((((((0 : Int64) - P1) - P2) + (own_min (((0 : Int64) + P1) + P2) ((0 : Int64) + (33 : Int64)))) + (0 : Int64)) + (((0 : Int32).toInt64) - (((-P1) - P2) + (own_min (P1 + P2) (33 : Int64)))))) from (own_irr _ _ (by rw [own_m0, own_g33]; exact own_r3 _ _ _ _)))) hZ (hw _ (List.mem_of_getElem? (i := 51) rfl)) (hw _ (List.mem_of_getElem? (i := 29) rfl)) (by decide) (by decide)) q147a q147c (g := (mkF m 142 #[.val (.int P0), .val (.long P1), .second, .val (.long P2), .second, .val (.int P3), .val (.int P4), .val (.int (0 : Int32)), .val (.int (1 : Int32)), .val (.ref x123_R0), .val (.ref b125), .val (.long ((-P1) - P2)), .second, .val (.long (P1 + P2)), .second, .val (.long (33 : Int64)), .second, .val (.long (own_min (P1 + P2) (33 : Int64))), .second] [(.long (((0 : Int32).toInt64) - (((-P1) - P2) + (own_min (P1 + P2) (33 : Int64))))), (.ref b125)])) rfl (by rw [hml]; rfl) (Steps.refl _) (argsL := [(.long (((0 : Int32).toInt64) - (((-P1) - P2) + (own_min (P1 + P2) (33 : Int64)))))]) (rest := []) (lenOf pd_0_2 rfl) rfl (by show 2 * 0 + _ ≤ _; exact Nat.le_of_eq rfl) (hb hby at_142) (fun _ _ => ⟨rfl, K146, (by decide : 3 + 0 ≤ _), (by decide : 12 + 0 ≤ _)⟩)
      dsimp only [Pt.U, Pt.locs, Pt.cells, Pt.slots] at X147 l147 y147 z147 st147 hQ147
      subst l147 y147 z147
      obtain ⟨rfl, N147q, K147⟩ := hQ147
      have N147 := Fr.app N146 N147q
      have pre148 : ∀ t, Steps p.tables e below (T147.setTop (mkF m 146 #[.val (.int P0), .val (.long P1), .second, .val (.long P2), .second, .val (.int P3), .val (.int P4), .val (.int (0 : Int32)), .val (.int (1 : Int32)), .val (.ref x123_R0), .val (.ref b125), .val (.long ((-P1) - P2)), .second, .val (.long (P1 + P2)), .second, .val (.long (33 : Int64)), .second, .val (.long (own_min (P1 + P2) (33 : Int64))), .second] [(.int (1 : Int32))])) t → Steps p.tables e below (s₁.setTop (entryFrame m #[(.int P0), (.long P1), (.long P2), (.int P3), (.int P4)] maxLocals)) t := fun t kt => pre102 t (by
          show Steps p.tables e below (s₁.setTop (mkF m 17 #[.val (.int P0), .val (.long P1), .second, .val (.long P2), .second, .val (.int P3), .val (.int P4), .val (.int (0 : Int32)), .unset, .unset, .unset, .unset, .unset, .unset, .unset, .unset, .unset, .unset, .unset] [(.int (P3 &&& (1 : Int32)))])) _
          refine XS.ifNo X0.here hx rfl (hb hby at_17) rfl ((if0 _ _).trans (feq hc17).1) ?_
          show Steps p.tables e below (s₁.setTop (mkF m 20 #[.val (.int P0), .val (.long P1), .second, .val (.long P2), .second, .val (.int P3), .val (.int P4), .val (.int (0 : Int32)), .unset, .unset, .unset, .unset, .unset, .unset, .unset, .unset, .unset, .unset, .unset] [])) _
          refine XS.iconst X0.here hx rfl (hb hby at_20) ?_
          show Steps p.tables e below (s₁.setTop (mkF m 21 #[.val (.int P0), .val (.long P1), .second, .val (.long P2), .second, .val (.int P3), .val (.int P4), .val (.int (0 : Int32)), .unset, .unset, .unset, .unset, .unset, .unset, .unset, .unset, .unset, .unset, .unset] [(.int (1 : Int32))])) _
          refine XS.goto X0.here hx rfl (pc0 := 21) (pc' := 25) rfl (hb hby at_21) (by decide) (by decide) ?_
          show Steps p.tables e below (s₁.setTop (mkF m 25 #[.val (.int P0), .val (.long P1), .second, .val (.long P2), .second, .val (.int P3), .val (.int P4), .val (.int (0 : Int32)), .unset, .unset, .unset, .unset, .unset, .unset, .unset, .unset, .unset, .unset, .unset] [(.int (1 : Int32))])) _
          refine XS.istore X0.here hx rfl (hb hby at_25) rfl (l' := #[.val (.int P0), .val (.long P1), .second, .val (.long P2), .second, .val (.int P3), .val (.int P4), .val (.int (0 : Int32)), .val (.int (1 : Int32)), .unset, .unset, .unset, .unset, .unset, .unset, .unset, .unset, .unset, .unset]) rfl ?_
          show Steps p.tables e below (s₁.setTop (mkF m 27 #[.val (.int P0), .val (.long P1), .second, .val (.long P2), .second, .val (.int P3), .val (.int P4), .val (.int (0 : Int32)), .val (.int (1 : Int32)), .unset, .unset, .unset, .unset, .unset, .unset, .unset, .unset, .unset, .unset] [])) _
          refine XS.iload X0.here hx rfl (hb hby at_27) rfl ?_
          show Steps p.tables e below (s₁.setTop (mkF m 29 #[.val (.int P0), .val (.long P1), .second, .val (.long P2), .second, .val (.int P3), .val (.int P4), .val (.int (0 : Int32)), .val (.int (1 : Int32)), .unset, .unset, .unset, .unset, .unset, .unset, .unset, .unset, .unset, .unset] [(.int P4)])) _
          refine XS.sipush X0.here hx rfl (hb hby at_29) ?_
          show Steps p.tables e below (s₁.setTop (mkF m 32 #[.val (.int P0), .val (.long P1), .second, .val (.long P2), .second, .val (.int P3), .val (.int P4), .val (.int (0 : Int32)), .val (.int (1 : Int32)), .unset, .unset, .unset, .unset, .unset, .unset, .unset, .unset, .unset, .unset] [(.int (255 : Int32)), (.int P4)])) _
          refine XS.iand X0.here hx rfl (hb hby at_32) rfl ?_
          show Steps p.tables e below (s₁.setTop (mkF m 33 #[.val (.int P0), .val (.long P1), .second, .val (.long P2), .second, .val (.int P3), .val (.int P4), .val (.int (0 : Int32)), .val (.int (1 : Int32)), .unset, .unset, .unset, .unset, .unset, .unset, .unset, .unset, .unset, .unset] [(.int (P4 &&& (255 : Int32)))])) _
          refine XS.i2c X0.here hx rfl (hb hby at_33) rfl ?_
          show Steps p.tables e below (s₁.setTop (mkF m 34 #[.val (.int P0), .val (.long P1), .second, .val (.long P2), .second, .val (.int P3), .val (.int P4), .val (.int (0 : Int32)), .val (.int (1 : Int32)), .unset, .unset, .unset, .unset, .unset, .unset, .unset, .unset, .unset, .unset] [(.int ((P4 &&& (255 : Int32)).toUInt32.toUInt16.toUInt32.toInt32))])) _
          refine st123 _ ?_
          show Steps p.tables e below (T123.setTop (mkF m 37 #[.val (.int P0), .val (.long P1), .second, .val (.long P2), .second, .val (.int P3), .val (.int P4), .val (.int (0 : Int32)), .val (.int (1 : Int32)), .unset, .unset, .unset, .unset, .unset, .unset, .unset, .unset, .unset, .unset] [(.ref x123_R0)])) _
          refine XS.astore X123.here hx rfl (hb hby at_37) rfl rfl (l' := #[.val (.int P0), .val (.long P1), .second, .val (.long P2), .second, .val (.int P3), .val (.int P4), .val (.int (0 : Int32)), .val (.int (1 : Int32)), .val (.ref x123_R0), .unset, .unset, .unset, .unset, .unset, .unset, .unset, .unset, .unset]) rfl ?_
          show Steps p.tables e below (T123.setTop (mkF m 39 #[.val (.int P0), .val (.long P1), .second, .val (.long P2), .second, .val (.int P3), .val (.int P4), .val (.int (0 : Int32)), .val (.int (1 : Int32)), .val (.ref x123_R0), .unset, .unset, .unset, .unset, .unset, .unset, .unset, .unset, .unset] [])) _
          refine st125 _ ?_
          show Steps p.tables e below (T125.setTop (mkF m 42 #[.val (.int P0), .val (.long P1), .second, .val (.long P2), .second, .val (.int P3), .val (.int P4), .val (.int (0 : Int32)), .val (.int (1 : Int32)), .val (.ref x123_R0), .unset, .unset, .unset, .unset, .unset, .unset, .unset, .unset, .unset] [(.ref b125)])) _
          refine XS.dup X125.here hx rfl (hb hby at_42) rfl rfl ?_
          show Steps p.tables e below (T125.setTop (mkF m 43 #[.val (.int P0), .val (.long P1), .second, .val (.long P2), .second, .val (.int P3), .val (.int P4), .val (.int (0 : Int32)), .val (.int (1 : Int32)), .val (.ref x123_R0), .unset, .unset, .unset, .unset, .unset, .unset, .unset, .unset, .unset] [(.ref b125), (.ref b125)])) _
          refine XS.iload X125.here hx rfl (hb hby at_43) rfl ?_
          show Steps p.tables e below (T125.setTop (mkF m 45 #[.val (.int P0), .val (.long P1), .second, .val (.long P2), .second, .val (.int P3), .val (.int P4), .val (.int (0 : Int32)), .val (.int (1 : Int32)), .val (.ref x123_R0), .unset, .unset, .unset, .unset, .unset, .unset, .unset, .unset, .unset] [(.int (0 : Int32)), (.ref b125), (.ref b125)])) _
          refine X125.ldcInt hx hown (mvT hZ (hw _ (List.mem_of_getElem? (i := 0) rfl))) (g := (mkF m 45 #[.val (.int P0), .val (.long P1), .second, .val (.long P2), .second, .val (.int P3), .val (.int P4), .val (.int (0 : Int32)), .val (.int (1 : Int32)), .val (.ref x123_R0), .unset, .unset, .unset, .unset, .unset, .unset, .unset, .unset, .unset] [(.int (0 : Int32)), (.ref b125), (.ref b125)])) rfl (hb hby at_45) _ ?_
          show Steps p.tables e below (T125.setTop (mkF m 47 #[.val (.int P0), .val (.long P1), .second, .val (.long P2), .second, .val (.int P3), .val (.int P4), .val (.int (0 : Int32)), .val (.int (1 : Int32)), .val (.ref x123_R0), .unset, .unset, .unset, .unset, .unset, .unset, .unset, .unset, .unset] [(.int (2147483647 : Int32)), (.int (0 : Int32)), (.ref b125), (.ref b125)])) _
          refine st130.trans ?_
          show Steps p.tables e below (T130.setTop (mkF m 50 #[.val (.int P0), .val (.long P1), .second, .val (.long P2), .second, .val (.int P3), .val (.int P4), .val (.int (0 : Int32)), .val (.int (1 : Int32)), .val (.ref x123_R0), .unset, .unset, .unset, .unset, .unset, .unset, .unset, .unset, .unset] [(.ref b125)])) _
          refine XS.astore X130.here hx rfl (hb hby at_50) rfl rfl (l' := #[.val (.int P0), .val (.long P1), .second, .val (.long P2), .second, .val (.int P3), .val (.int P4), .val (.int (0 : Int32)), .val (.int (1 : Int32)), .val (.ref x123_R0), .val (.ref b125), .unset, .unset, .unset, .unset, .unset, .unset, .unset, .unset]) rfl ?_
          show Steps p.tables e below (T130.setTop (mkF m 52 #[.val (.int P0), .val (.long P1), .second, .val (.long P2), .second, .val (.int P3), .val (.int P4), .val (.int (0 : Int32)), .val (.int (1 : Int32)), .val (.ref x123_R0), .val (.ref b125), .unset, .unset, .unset, .unset, .unset, .unset, .unset, .unset] [])) _
          refine XS.aload X130.here hx rfl (hb hby at_52) rfl rfl ?_
          show Steps p.tables e below (T130.setTop (mkF m 54 #[.val (.int P0), .val (.long P1), .second, .val (.long P2), .second, .val (.int P3), .val (.int P4), .val (.int (0 : Int32)), .val (.int (1 : Int32)), .val (.ref x123_R0), .val (.ref b125), .unset, .unset, .unset, .unset, .unset, .unset, .unset, .unset] [(.ref b125)])) _
          refine XS.lloadN X130.here hx rfl (hb hby at_54) rfl ?_
          show Steps p.tables e below (T130.setTop (mkF m 55 #[.val (.int P0), .val (.long P1), .second, .val (.long P2), .second, .val (.int P3), .val (.int P4), .val (.int (0 : Int32)), .val (.int (1 : Int32)), .val (.ref x123_R0), .val (.ref b125), .unset, .unset, .unset, .unset, .unset, .unset, .unset, .unset] [(.long P1), (.ref b125)])) _
          refine st132.trans ?_
          show Steps p.tables e below (T132.setTop (mkF m 58 #[.val (.int P0), .val (.long P1), .second, .val (.long P2), .second, .val (.int P3), .val (.int P4), .val (.int (0 : Int32)), .val (.int (1 : Int32)), .val (.ref x123_R0), .val (.ref b125), .unset, .unset, .unset, .unset, .unset, .unset, .unset, .unset] [])) _
          refine XS.aload X132.here hx rfl (hb hby at_58) rfl rfl ?_
          show Steps p.tables e below (T132.setTop (mkF m 60 #[.val (.int P0), .val (.long P1), .second, .val (.long P2), .second, .val (.int P3), .val (.int P4), .val (.int (0 : Int32)), .val (.int (1 : Int32)), .val (.ref x123_R0), .val (.ref b125), .unset, .unset, .unset, .unset, .unset, .unset, .unset, .unset] [(.ref b125)])) _
          refine XS.iload X132.here hx rfl (hb hby at_60) rfl ?_
          show Steps p.tables e below (T132.setTop (mkF m 62 #[.val (.int P0), .val (.long P1), .second, .val (.long P2), .second, .val (.int P3), .val (.int P4), .val (.int (0 : Int32)), .val (.int (1 : Int32)), .val (.ref x123_R0), .val (.ref b125), .unset, .unset, .unset, .unset, .unset, .unset, .unset, .unset] [(.int (0 : Int32)), (.ref b125)])) _
          refine XS.i2l X132.here hx rfl (hb hby at_62) rfl ?_
          show Steps p.tables e below (T132.setTop (mkF m 63 #[.val (.int P0), .val (.long P1), .second, .val (.long P2), .second, .val (.int P3), .val (.int P4), .val (.int (0 : Int32)), .val (.int (1 : Int32)), .val (.ref x123_R0), .val (.ref b125), .unset, .unset, .unset, .unset, .unset, .unset, .unset, .unset] [(.long ((0 : Int32).toInt64)), (.ref b125)])) _
          refine st134.trans ?_
          show Steps p.tables e below (T134.setTop (mkF m 66 #[.val (.int P0), .val (.long P1), .second, .val (.long P2), .second, .val (.int P3), .val (.int P4), .val (.int (0 : Int32)), .val (.int (1 : Int32)), .val (.ref x123_R0), .val (.ref b125), .unset, .unset, .unset, .unset, .unset, .unset, .unset, .unset] [])) _
          refine XS.aload X134.here hx rfl (hb hby at_66) rfl rfl ?_
          show Steps p.tables e below (T134.setTop (mkF m 68 #[.val (.int P0), .val (.long P1), .second, .val (.long P2), .second, .val (.int P3), .val (.int P4), .val (.int (0 : Int32)), .val (.int (1 : Int32)), .val (.ref x123_R0), .val (.ref b125), .unset, .unset, .unset, .unset, .unset, .unset, .unset, .unset] [(.ref b125)])) _
          refine XS.lloadN X134.here hx rfl (hb hby at_68) rfl ?_
          show Steps p.tables e below (T134.setTop (mkF m 69 #[.val (.int P0), .val (.long P1), .second, .val (.long P2), .second, .val (.int P3), .val (.int P4), .val (.int (0 : Int32)), .val (.int (1 : Int32)), .val (.ref x123_R0), .val (.ref b125), .unset, .unset, .unset, .unset, .unset, .unset, .unset, .unset] [(.long P2), (.ref b125)])) _
          refine st135.trans ?_
          show Steps p.tables e below (T135.setTop (mkF m 72 #[.val (.int P0), .val (.long P1), .second, .val (.long P2), .second, .val (.int P3), .val (.int P4), .val (.int (0 : Int32)), .val (.int (1 : Int32)), .val (.ref x123_R0), .val (.ref b125), .unset, .unset, .unset, .unset, .unset, .unset, .unset, .unset] [])) _
          refine XS.lloadN X135.here hx rfl (hb hby at_72) rfl ?_
          show Steps p.tables e below (T135.setTop (mkF m 73 #[.val (.int P0), .val (.long P1), .second, .val (.long P2), .second, .val (.int P3), .val (.int P4), .val (.int (0 : Int32)), .val (.int (1 : Int32)), .val (.ref x123_R0), .val (.ref b125), .unset, .unset, .unset, .unset, .unset, .unset, .unset, .unset] [(.long P1)])) _
          refine XS.lneg X135.here hx rfl (hb hby at_73) rfl ?_
          show Steps p.tables e below (T135.setTop (mkF m 74 #[.val (.int P0), .val (.long P1), .second, .val (.long P2), .second, .val (.int P3), .val (.int P4), .val (.int (0 : Int32)), .val (.int (1 : Int32)), .val (.ref x123_R0), .val (.ref b125), .unset, .unset, .unset, .unset, .unset, .unset, .unset, .unset] [(.long (-P1))])) _
          refine XS.lloadN X135.here hx rfl (hb hby at_74) rfl ?_
          show Steps p.tables e below (T135.setTop (mkF m 75 #[.val (.int P0), .val (.long P1), .second, .val (.long P2), .second, .val (.int P3), .val (.int P4), .val (.int (0 : Int32)), .val (.int (1 : Int32)), .val (.ref x123_R0), .val (.ref b125), .unset, .unset, .unset, .unset, .unset, .unset, .unset, .unset] [(.long P2), (.long (-P1))])) _
          refine XS.lsub X135.here hx rfl (hb hby at_75) rfl ?_
          show Steps p.tables e below (T135.setTop (mkF m 76 #[.val (.int P0), .val (.long P1), .second, .val (.long P2), .second, .val (.int P3), .val (.int P4), .val (.int (0 : Int32)), .val (.int (1 : Int32)), .val (.ref x123_R0), .val (.ref b125), .unset, .unset, .unset, .unset, .unset, .unset, .unset, .unset] [(.long ((-P1) - P2))])) _
          refine XS.lstore X135.here hx rfl (hb hby at_76) rfl (l' := #[.val (.int P0), .val (.long P1), .second, .val (.long P2), .second, .val (.int P3), .val (.int P4), .val (.int (0 : Int32)), .val (.int (1 : Int32)), .val (.ref x123_R0), .val (.ref b125), .val (.long ((-P1) - P2)), .second, .unset, .unset, .unset, .unset, .unset, .unset]) rfl ?_
          show Steps p.tables e below (T135.setTop (mkF m 78 #[.val (.int P0), .val (.long P1), .second, .val (.long P2), .second, .val (.int P3), .val (.int P4), .val (.int (0 : Int32)), .val (.int (1 : Int32)), .val (.ref x123_R0), .val (.ref b125), .val (.long ((-P1) - P2)), .second, .unset, .unset, .unset, .unset, .unset, .unset] [])) _
          refine XS.lloadN X135.here hx rfl (hb hby at_78) rfl ?_
          show Steps p.tables e below (T135.setTop (mkF m 79 #[.val (.int P0), .val (.long P1), .second, .val (.long P2), .second, .val (.int P3), .val (.int P4), .val (.int (0 : Int32)), .val (.int (1 : Int32)), .val (.ref x123_R0), .val (.ref b125), .val (.long ((-P1) - P2)), .second, .unset, .unset, .unset, .unset, .unset, .unset] [(.long P1)])) _
          refine XS.lloadN X135.here hx rfl (hb hby at_79) rfl ?_
          show Steps p.tables e below (T135.setTop (mkF m 80 #[.val (.int P0), .val (.long P1), .second, .val (.long P2), .second, .val (.int P3), .val (.int P4), .val (.int (0 : Int32)), .val (.int (1 : Int32)), .val (.ref x123_R0), .val (.ref b125), .val (.long ((-P1) - P2)), .second, .unset, .unset, .unset, .unset, .unset, .unset] [(.long P2), (.long P1)])) _
          refine XS.ladd X135.here hx rfl (hb hby at_80) rfl ?_
          show Steps p.tables e below (T135.setTop (mkF m 81 #[.val (.int P0), .val (.long P1), .second, .val (.long P2), .second, .val (.int P3), .val (.int P4), .val (.int (0 : Int32)), .val (.int (1 : Int32)), .val (.ref x123_R0), .val (.ref b125), .val (.long ((-P1) - P2)), .second, .unset, .unset, .unset, .unset, .unset, .unset] [(.long (P1 + P2))])) _
          refine XS.lstore X135.here hx rfl (hb hby at_81) rfl (l' := #[.val (.int P0), .val (.long P1), .second, .val (.long P2), .second, .val (.int P3), .val (.int P4), .val (.int (0 : Int32)), .val (.int (1 : Int32)), .val (.ref x123_R0), .val (.ref b125), .val (.long ((-P1) - P2)), .second, .val (.long (P1 + P2)), .second, .unset, .unset, .unset, .unset]) rfl ?_
          show Steps p.tables e below (T135.setTop (mkF m 83 #[.val (.int P0), .val (.long P1), .second, .val (.long P2), .second, .val (.int P3), .val (.int P4), .val (.int (0 : Int32)), .val (.int (1 : Int32)), .val (.ref x123_R0), .val (.ref b125), .val (.long ((-P1) - P2)), .second, .val (.long (P1 + P2)), .second, .unset, .unset, .unset, .unset] [])) _
          refine XS.aload X135.here hx rfl (hb hby at_83) rfl rfl ?_
          show Steps p.tables e below (T135.setTop (mkF m 85 #[.val (.int P0), .val (.long P1), .second, .val (.long P2), .second, .val (.int P3), .val (.int P4), .val (.int (0 : Int32)), .val (.int (1 : Int32)), .val (.ref x123_R0), .val (.ref b125), .val (.long ((-P1) - P2)), .second, .val (.long (P1 + P2)), .second, .unset, .unset, .unset, .unset] [(.ref b125)])) _
          refine XS.iload X135.here hx rfl (hb hby at_85) rfl ?_
          show Steps p.tables e below (T135.setTop (mkF m 87 #[.val (.int P0), .val (.long P1), .second, .val (.long P2), .second, .val (.int P3), .val (.int P4), .val (.int (0 : Int32)), .val (.int (1 : Int32)), .val (.ref x123_R0), .val (.ref b125), .val (.long ((-P1) - P2)), .second, .val (.long (P1 + P2)), .second, .unset, .unset, .unset, .unset] [(.int (0 : Int32)), (.ref b125)])) _
          refine XS.i2l X135.here hx rfl (hb hby at_87) rfl ?_
          show Steps p.tables e below (T135.setTop (mkF m 88 #[.val (.int P0), .val (.long P1), .second, .val (.long P2), .second, .val (.int P3), .val (.int P4), .val (.int (0 : Int32)), .val (.int (1 : Int32)), .val (.ref x123_R0), .val (.ref b125), .val (.long ((-P1) - P2)), .second, .val (.long (P1 + P2)), .second, .unset, .unset, .unset, .unset] [(.long ((0 : Int32).toInt64)), (.ref b125)])) _
          refine XS.lload X135.here hx rfl (hb hby at_88) rfl ?_
          show Steps p.tables e below (T135.setTop (mkF m 90 #[.val (.int P0), .val (.long P1), .second, .val (.long P2), .second, .val (.int P3), .val (.int P4), .val (.int (0 : Int32)), .val (.int (1 : Int32)), .val (.ref x123_R0), .val (.ref b125), .val (.long ((-P1) - P2)), .second, .val (.long (P1 + P2)), .second, .unset, .unset, .unset, .unset] [(.long ((-P1) - P2)), (.long ((0 : Int32).toInt64)), (.ref b125)])) _
          refine XS.lload X135.here hx rfl (hb hby at_90) rfl ?_
          show Steps p.tables e below (T135.setTop (mkF m 92 #[.val (.int P0), .val (.long P1), .second, .val (.long P2), .second, .val (.int P3), .val (.int P4), .val (.int (0 : Int32)), .val (.int (1 : Int32)), .val (.ref x123_R0), .val (.ref b125), .val (.long ((-P1) - P2)), .second, .val (.long (P1 + P2)), .second, .unset, .unset, .unset, .unset] [(.long (P1 + P2)), (.long ((-P1) - P2)), (.long ((0 : Int32).toInt64)), (.ref b125)])) _
          refine XS.ladd X135.here hx rfl (hb hby at_92) rfl ?_
          show Steps p.tables e below (T135.setTop (mkF m 93 #[.val (.int P0), .val (.long P1), .second, .val (.long P2), .second, .val (.int P3), .val (.int P4), .val (.int (0 : Int32)), .val (.int (1 : Int32)), .val (.ref x123_R0), .val (.ref b125), .val (.long ((-P1) - P2)), .second, .val (.long (P1 + P2)), .second, .unset, .unset, .unset, .unset] [(.long (((-P1) - P2) + (P1 + P2))), (.long ((0 : Int32).toInt64)), (.ref b125)])) _
          refine XS.lsub X135.here hx rfl (hb hby at_93) rfl ?_
          show Steps p.tables e below (T135.setTop (mkF m 94 #[.val (.int P0), .val (.long P1), .second, .val (.long P2), .second, .val (.int P3), .val (.int P4), .val (.int (0 : Int32)), .val (.int (1 : Int32)), .val (.ref x123_R0), .val (.ref b125), .val (.long ((-P1) - P2)), .second, .val (.long (P1 + P2)), .second, .unset, .unset, .unset, .unset] [(.long (((0 : Int32).toInt64) - (((-P1) - P2) + (P1 + P2)))), (.ref b125)])) _
          refine st137.trans ?_
          show Steps p.tables e below (T137.setTop (mkF m 97 #[.val (.int P0), .val (.long P1), .second, .val (.long P2), .second, .val (.int P3), .val (.int P4), .val (.int (0 : Int32)), .val (.int (1 : Int32)), .val (.ref x123_R0), .val (.ref b125), .val (.long ((-P1) - P2)), .second, .val (.long (P1 + P2)), .second, .unset, .unset, .unset, .unset] [])) _
          refine XS.lconst X137.here hx rfl (hb hby at_97) ?_
          show Steps p.tables e below (T137.setTop (mkF m 98 #[.val (.int P0), .val (.long P1), .second, .val (.long P2), .second, .val (.int P3), .val (.int P4), .val (.int (0 : Int32)), .val (.int (1 : Int32)), .val (.ref x123_R0), .val (.ref b125), .val (.long ((-P1) - P2)), .second, .val (.long (P1 + P2)), .second, .unset, .unset, .unset, .unset] [(.long (0 : Int64))])) _
          refine XS.lstore X137.here hx rfl (hb hby at_98) rfl (l' := #[.val (.int P0), .val (.long P1), .second, .val (.long P2), .second, .val (.int P3), .val (.int P4), .val (.int (0 : Int32)), .val (.int (1 : Int32)), .val (.ref x123_R0), .val (.ref b125), .val (.long ((-P1) - P2)), .second, .val (.long (P1 + P2)), .second, .val (.long (0 : Int64)), .second, .unset, .unset]) rfl ?_
          show Steps p.tables e below (T137.setTop (mkF m 100 #[.val (.int P0), .val (.long P1), .second, .val (.long P2), .second, .val (.int P3), .val (.int P4), .val (.int (0 : Int32)), .val (.int (1 : Int32)), .val (.ref x123_R0), .val (.ref b125), .val (.long ((-P1) - P2)), .second, .val (.long (P1 + P2)), .second, .val (.long (0 : Int64)), .second, .unset, .unset] [])) _
          refine XS.iload X137.here hx rfl (hb hby at_100) rfl ?_
          show Steps p.tables e below (T137.setTop (mkF m 102 #[.val (.int P0), .val (.long P1), .second, .val (.long P2), .second, .val (.int P3), .val (.int P4), .val (.int (0 : Int32)), .val (.int (1 : Int32)), .val (.ref x123_R0), .val (.ref b125), .val (.long ((-P1) - P2)), .second, .val (.long (P1 + P2)), .second, .val (.long (0 : Int64)), .second, .unset, .unset] [(.int (1 : Int32))])) _
          refine XS.ifNo X137.here hx rfl (hb hby at_102) rfl ((if0 _ _).trans (feq (show ¬ ((1 : Int32) = (0 : Int32)) from (by decide))).1) ?_
          show Steps p.tables e below (T137.setTop (mkF m 105 #[.val (.int P0), .val (.long P1), .second, .val (.long P2), .second, .val (.int P3), .val (.int P4), .val (.int (0 : Int32)), .val (.int (1 : Int32)), .val (.ref x123_R0), .val (.ref b125), .val (.long ((-P1) - P2)), .second, .val (.long (P1 + P2)), .second, .val (.long (0 : Int64)), .second, .unset, .unset] [])) _
          refine XS.aload X137.here hx rfl (hb hby at_105) rfl rfl ?_
          show Steps p.tables e below (T137.setTop (mkF m 107 #[.val (.int P0), .val (.long P1), .second, .val (.long P2), .second, .val (.int P3), .val (.int P4), .val (.int (0 : Int32)), .val (.int (1 : Int32)), .val (.ref x123_R0), .val (.ref b125), .val (.long ((-P1) - P2)), .second, .val (.long (P1 + P2)), .second, .val (.long (0 : Int64)), .second, .unset, .unset] [(.ref b125)])) _
          refine XS.aload X137.here hx rfl (hb hby at_107) rfl rfl ?_
          show Steps p.tables e below (T137.setTop (mkF m 109 #[.val (.int P0), .val (.long P1), .second, .val (.long P2), .second, .val (.int P3), .val (.int P4), .val (.int (0 : Int32)), .val (.int (1 : Int32)), .val (.ref x123_R0), .val (.ref b125), .val (.long ((-P1) - P2)), .second, .val (.long (P1 + P2)), .second, .val (.long (0 : Int64)), .second, .unset, .unset] [(.ref x123_R0), (.ref b125)])) _
          refine st142.trans ?_
          show Steps p.tables e below (T142.setTop (mkF m 112 #[.val (.int P0), .val (.long P1), .second, .val (.long P2), .second, .val (.int P3), .val (.int P4), .val (.int (0 : Int32)), .val (.int (1 : Int32)), .val (.ref x123_R0), .val (.ref b125), .val (.long ((-P1) - P2)), .second, .val (.long (P1 + P2)), .second, .val (.long (0 : Int64)), .second, .unset, .unset] [])) _
          refine X142.ldc2Long hx hown (mvT hZ (hw _ (List.mem_of_getElem? (i := 91) rfl))) (g := (mkF m 112 #[.val (.int P0), .val (.long P1), .second, .val (.long P2), .second, .val (.int P3), .val (.int P4), .val (.int (0 : Int32)), .val (.int (1 : Int32)), .val (.ref x123_R0), .val (.ref b125), .val (.long ((-P1) - P2)), .second, .val (.long (P1 + P2)), .second, .val (.long (0 : Int64)), .second, .unset, .unset] [])) rfl (hb hby at_112) _ ?_
          show Steps p.tables e below (T142.setTop (mkF m 115 #[.val (.int P0), .val (.long P1), .second, .val (.long P2), .second, .val (.int P3), .val (.int P4), .val (.int (0 : Int32)), .val (.int (1 : Int32)), .val (.ref x123_R0), .val (.ref b125), .val (.long ((-P1) - P2)), .second, .val (.long (P1 + P2)), .second, .val (.long (0 : Int64)), .second, .unset, .unset] [(.long (33 : Int64))])) _
          refine XS.lstore X142.here hx rfl (hb hby at_115) rfl (l' := #[.val (.int P0), .val (.long P1), .second, .val (.long P2), .second, .val (.int P3), .val (.int P4), .val (.int (0 : Int32)), .val (.int (1 : Int32)), .val (.ref x123_R0), .val (.ref b125), .val (.long ((-P1) - P2)), .second, .val (.long (P1 + P2)), .second, .val (.long (33 : Int64)), .second, .unset, .unset]) rfl ?_
          show Steps p.tables e below (T142.setTop (mkF m 117 #[.val (.int P0), .val (.long P1), .second, .val (.long P2), .second, .val (.int P3), .val (.int P4), .val (.int (0 : Int32)), .val (.int (1 : Int32)), .val (.ref x123_R0), .val (.ref b125), .val (.long ((-P1) - P2)), .second, .val (.long (P1 + P2)), .second, .val (.long (33 : Int64)), .second, .unset, .unset] [])) _
          refine XS.aload X142.here hx rfl (hb hby at_117) rfl rfl ?_
          show Steps p.tables e below (T142.setTop (mkF m 119 #[.val (.int P0), .val (.long P1), .second, .val (.long P2), .second, .val (.int P3), .val (.int P4), .val (.int (0 : Int32)), .val (.int (1 : Int32)), .val (.ref x123_R0), .val (.ref b125), .val (.long ((-P1) - P2)), .second, .val (.long (P1 + P2)), .second, .val (.long (33 : Int64)), .second, .unset, .unset] [(.ref b125)])) _
          refine st144.trans ?_
          show Steps p.tables e below (T144.setTop (mkF m 122 #[.val (.int P0), .val (.long P1), .second, .val (.long P2), .second, .val (.int P3), .val (.int P4), .val (.int (0 : Int32)), .val (.int (1 : Int32)), .val (.ref x123_R0), .val (.ref b125), .val (.long ((-P1) - P2)), .second, .val (.long (P1 + P2)), .second, .val (.long (33 : Int64)), .second, .unset, .unset] [])) _
          refine XS.lload X144.here hx rfl (hb hby at_122) rfl ?_
          show Steps p.tables e below (T144.setTop (mkF m 124 #[.val (.int P0), .val (.long P1), .second, .val (.long P2), .second, .val (.int P3), .val (.int P4), .val (.int (0 : Int32)), .val (.int (1 : Int32)), .val (.ref x123_R0), .val (.ref b125), .val (.long ((-P1) - P2)), .second, .val (.long (P1 + P2)), .second, .val (.long (33 : Int64)), .second, .unset, .unset] [(.long (P1 + P2))])) _
          refine XS.lload X144.here hx rfl (hb hby at_124) rfl ?_
          show Steps p.tables e below (T144.setTop (mkF m 126 #[.val (.int P0), .val (.long P1), .second, .val (.long P2), .second, .val (.int P3), .val (.int P4), .val (.int (0 : Int32)), .val (.int (1 : Int32)), .val (.ref x123_R0), .val (.ref b125), .val (.long ((-P1) - P2)), .second, .val (.long (P1 + P2)), .second, .val (.long (33 : Int64)), .second, .unset, .unset] [(.long (33 : Int64)), (.long (P1 + P2))])) _
          refine st146 _ ?_
          show Steps p.tables e below (T146.setTop (mkF m 129 #[.val (.int P0), .val (.long P1), .second, .val (.long P2), .second, .val (.int P3), .val (.int P4), .val (.int (0 : Int32)), .val (.int (1 : Int32)), .val (.ref x123_R0), .val (.ref b125), .val (.long ((-P1) - P2)), .second, .val (.long (P1 + P2)), .second, .val (.long (33 : Int64)), .second, .unset, .unset] [(.long (own_min (P1 + P2) (33 : Int64)))])) _
          refine XS.lstore X146.here hx rfl (hb hby at_129) rfl (l' := #[.val (.int P0), .val (.long P1), .second, .val (.long P2), .second, .val (.int P3), .val (.int P4), .val (.int (0 : Int32)), .val (.int (1 : Int32)), .val (.ref x123_R0), .val (.ref b125), .val (.long ((-P1) - P2)), .second, .val (.long (P1 + P2)), .second, .val (.long (33 : Int64)), .second, .val (.long (own_min (P1 + P2) (33 : Int64))), .second]) rfl ?_
          show Steps p.tables e below (T146.setTop (mkF m 131 #[.val (.int P0), .val (.long P1), .second, .val (.long P2), .second, .val (.int P3), .val (.int P4), .val (.int (0 : Int32)), .val (.int (1 : Int32)), .val (.ref x123_R0), .val (.ref b125), .val (.long ((-P1) - P2)), .second, .val (.long (P1 + P2)), .second, .val (.long (33 : Int64)), .second, .val (.long (own_min (P1 + P2) (33 : Int64))), .second] [])) _
          refine XS.aload X146.here hx rfl (hb hby at_131) rfl rfl ?_
          show Steps p.tables e below (T146.setTop (mkF m 133 #[.val (.int P0), .val (.long P1), .second, .val (.long P2), .second, .val (.int P3), .val (.int P4), .val (.int (0 : Int32)), .val (.int (1 : Int32)), .val (.ref x123_R0), .val (.ref b125), .val (.long ((-P1) - P2)), .second, .val (.long (P1 + P2)), .second, .val (.long (33 : Int64)), .second, .val (.long (own_min (P1 + P2) (33 : Int64))), .second] [(.ref b125)])) _
          refine XS.iload X146.here hx rfl (hb hby at_133) rfl ?_
          show Steps p.tables e below (T146.setTop (mkF m 135 #[.val (.int P0), .val (.long P1), .second, .val (.long P2), .second, .val (.int P3), .val (.int P4), .val (.int (0 : Int32)), .val (.int (1 : Int32)), .val (.ref x123_R0), .val (.ref b125), .val (.long ((-P1) - P2)), .second, .val (.long (P1 + P2)), .second, .val (.long (33 : Int64)), .second, .val (.long (own_min (P1 + P2) (33 : Int64))), .second] [(.int (0 : Int32)), (.ref b125)])) _
          refine XS.i2l X146.here hx rfl (hb hby at_135) rfl ?_
          show Steps p.tables e below (T146.setTop (mkF m 136 #[.val (.int P0), .val (.long P1), .second, .val (.long P2), .second, .val (.int P3), .val (.int P4), .val (.int (0 : Int32)), .val (.int (1 : Int32)), .val (.ref x123_R0), .val (.ref b125), .val (.long ((-P1) - P2)), .second, .val (.long (P1 + P2)), .second, .val (.long (33 : Int64)), .second, .val (.long (own_min (P1 + P2) (33 : Int64))), .second] [(.long ((0 : Int32).toInt64)), (.ref b125)])) _
          refine XS.lload X146.here hx rfl (hb hby at_136) rfl ?_
          show Steps p.tables e below (T146.setTop (mkF m 138 #[.val (.int P0), .val (.long P1), .second, .val (.long P2), .second, .val (.int P3), .val (.int P4), .val (.int (0 : Int32)), .val (.int (1 : Int32)), .val (.ref x123_R0), .val (.ref b125), .val (.long ((-P1) - P2)), .second, .val (.long (P1 + P2)), .second, .val (.long (33 : Int64)), .second, .val (.long (own_min (P1 + P2) (33 : Int64))), .second] [(.long ((-P1) - P2)), (.long ((0 : Int32).toInt64)), (.ref b125)])) _
          refine XS.lload X146.here hx rfl (hb hby at_138) rfl ?_
          show Steps p.tables e below (T146.setTop (mkF m 140 #[.val (.int P0), .val (.long P1), .second, .val (.long P2), .second, .val (.int P3), .val (.int P4), .val (.int (0 : Int32)), .val (.int (1 : Int32)), .val (.ref x123_R0), .val (.ref b125), .val (.long ((-P1) - P2)), .second, .val (.long (P1 + P2)), .second, .val (.long (33 : Int64)), .second, .val (.long (own_min (P1 + P2) (33 : Int64))), .second] [(.long (own_min (P1 + P2) (33 : Int64))), (.long ((-P1) - P2)), (.long ((0 : Int32).toInt64)), (.ref b125)])) _
          refine XS.ladd X146.here hx rfl (hb hby at_140) rfl ?_
          show Steps p.tables e below (T146.setTop (mkF m 141 #[.val (.int P0), .val (.long P1), .second, .val (.long P2), .second, .val (.int P3), .val (.int P4), .val (.int (0 : Int32)), .val (.int (1 : Int32)), .val (.ref x123_R0), .val (.ref b125), .val (.long ((-P1) - P2)), .second, .val (.long (P1 + P2)), .second, .val (.long (33 : Int64)), .second, .val (.long (own_min (P1 + P2) (33 : Int64))), .second] [(.long (((-P1) - P2) + (own_min (P1 + P2) (33 : Int64)))), (.long ((0 : Int32).toInt64)), (.ref b125)])) _
          refine XS.lsub X146.here hx rfl (hb hby at_141) rfl ?_
          show Steps p.tables e below (T146.setTop (mkF m 142 #[.val (.int P0), .val (.long P1), .second, .val (.long P2), .second, .val (.int P3), .val (.int P4), .val (.int (0 : Int32)), .val (.int (1 : Int32)), .val (.ref x123_R0), .val (.ref b125), .val (.long ((-P1) - P2)), .second, .val (.long (P1 + P2)), .second, .val (.long (33 : Int64)), .second, .val (.long (own_min (P1 + P2) (33 : Int64))), .second] [(.long (((0 : Int32).toInt64) - (((-P1) - P2) + (own_min (P1 + P2) (33 : Int64))))), (.ref b125)])) _
          refine st147.trans ?_
          show Steps p.tables e below (T147.setTop (mkF m 145 #[.val (.int P0), .val (.long P1), .second, .val (.long P2), .second, .val (.int P3), .val (.int P4), .val (.int (0 : Int32)), .val (.int (1 : Int32)), .val (.ref x123_R0), .val (.ref b125), .val (.long ((-P1) - P2)), .second, .val (.long (P1 + P2)), .second, .val (.long (33 : Int64)), .second, .val (.long (own_min (P1 + P2) (33 : Int64))), .second] [])) _
          refine XS.iconst X147.here hx rfl (hb hby at_145) ?_
          exact kt)
      obtain ⟨fs, hr, hrun, hended, hW, hsame⟩ := X147.leave (v := some (.int (1 : Int32))) (fun h => by rw [Bd.returns] at h; cases h)
      refine ⟨_, _, pre148 _ ?_, hrun, hended, _, _, rfl, ?_, ⟨_, rfl⟩, hW, hsame.mono (by decide) (by decide)⟩
      · show Steps p.tables e below (T147.setTop (mkF m 146 #[.val (.int P0), .val (.long P1), .second, .val (.long P2), .second, .val (.int P3), .val (.int P4), .val (.int (0 : Int32)), .val (.int (1 : Int32)), .val (.ref x123_R0), .val (.ref b125), .val (.long ((-P1) - P2)), .second, .val (.long (P1 + P2)), .second, .val (.long (33 : Int64)), .second, .val (.long (own_min (P1 + P2) (33 : Int64))), .second] [(.int (1 : Int32))])) _
        exact retN X147 hx (t := .boolean) Bd.returns (by simp) (hb hby at_146) hr
      · show Q0 Z P0 P1 P2 P3 P4 U0 h0 n0 _ T147.heap _
        rw [K147]
        exact ⟨rfl, N147⟩
  · have pre149 : ∀ t, Steps p.tables e below (s₁.setTop (mkF m 17 #[.val (.int P0), .val (.long P1), .second, .val (.long P2), .second, .val (.int P3), .val (.int P4), .val (.int P0), .unset, .unset, .unset, .unset, .unset, .unset, .unset, .unset, .unset, .unset, .unset] [(.int (P3 &&& (1 : Int32)))])) t → Steps p.tables e below (s₁.setTop (entryFrame m #[(.int P0), (.long P1), (.long P2), (.int P3), (.int P4)] maxLocals)) t := fun t kt => pre101 t (by
        show Steps p.tables e below (s₁.setTop (mkF m 3 #[.val (.int P0), .val (.long P1), .second, .val (.long P2), .second, .val (.int P3), .val (.int P4), .unset, .unset, .unset, .unset, .unset, .unset, .unset, .unset, .unset, .unset, .unset, .unset] [(.int (2147483647 : Int32)), (.int P0)])) _
        refine XS.icmpYes X0.here hx rfl (pc0 := 3) (pc' := 10) rfl (hb hby at_3) rfl (feq hc3).2 (by decide) (by decide) ?_
        show Steps p.tables e below (s₁.setTop (mkF m 10 #[.val (.int P0), .val (.long P1), .second, .val (.long P2), .second, .val (.int P3), .val (.int P4), .unset, .unset, .unset, .unset, .unset, .unset, .unset, .unset, .unset, .unset, .unset, .unset] [])) _
        refine XS.iloadN X0.here hx rfl (hb hby at_10) rfl ?_
        show Steps p.tables e below (s₁.setTop (mkF m 11 #[.val (.int P0), .val (.long P1), .second, .val (.long P2), .second, .val (.int P3), .val (.int P4), .unset, .unset, .unset, .unset, .unset, .unset, .unset, .unset, .unset, .unset, .unset, .unset] [(.int P0)])) _
        refine XS.istore X0.here hx rfl (hb hby at_11) rfl (l' := #[.val (.int P0), .val (.long P1), .second, .val (.long P2), .second, .val (.int P3), .val (.int P4), .val (.int P0), .unset, .unset, .unset, .unset, .unset, .unset, .unset, .unset, .unset, .unset, .unset]) rfl ?_
        show Steps p.tables e below (s₁.setTop (mkF m 13 #[.val (.int P0), .val (.long P1), .second, .val (.long P2), .second, .val (.int P3), .val (.int P4), .val (.int P0), .unset, .unset, .unset, .unset, .unset, .unset, .unset, .unset, .unset, .unset, .unset] [])) _
        refine XS.iload X0.here hx rfl (hb hby at_13) rfl ?_
        show Steps p.tables e below (s₁.setTop (mkF m 15 #[.val (.int P0), .val (.long P1), .second, .val (.long P2), .second, .val (.int P3), .val (.int P4), .val (.int P0), .unset, .unset, .unset, .unset, .unset, .unset, .unset, .unset, .unset, .unset, .unset] [(.int P3)])) _
        refine XS.iconst X0.here hx rfl (hb hby at_15) ?_
        show Steps p.tables e below (s₁.setTop (mkF m 16 #[.val (.int P0), .val (.long P1), .second, .val (.long P2), .second, .val (.int P3), .val (.int P4), .val (.int P0), .unset, .unset, .unset, .unset, .unset, .unset, .unset, .unset, .unset, .unset, .unset] [(.int (1 : Int32)), (.int P3)])) _
        refine XS.iand X0.here hx rfl (hb hby at_16) rfl ?_
        exact kt)
    by_cases hc17 : (P3 &&& (1 : Int32)) = (0 : Int32)
    · obtain ⟨_, _, ⟨T150, L150, k150, n150⟩, -, X150, ⟨Lc150, hQ150, l150, y150, z150⟩, st150⟩ := Jvm.LawKit.callS X0 hx (y := (⟨"java/lang/String", "valueOf", "(C)Ljava/lang/String;"⟩ : MethodName)) hown (mvT hZ (hw _ (List.mem_of_getElem? (i := 1) rfl))) (mvT hZ (hw _ (List.mem_of_getElem? (i := 2) rfl))) (mvT hZ (hw _ (List.mem_of_getElem? (i := 3) rfl))) (mvT hZ (hw _ (List.mem_of_getElem? (i := 4) rfl))) (by decide) (backOf (W := 0) (rm1 l Z a0 hw [] ((P4 &&& (255 : Int32)).toUInt32.toUInt16.toUInt32.toInt32) U0 h0 n0 Z0 pm0 (show ¬ (U0 = (0 : Int32)) from hcs) (show ¬ ((255 : Int32) < ((P4 &&& (255 : Int32)).toUInt32.toUInt16.toUInt32.toInt32)) from (own_le _))) hZ (hw _ (List.mem_of_getElem? (i := 4) rfl)) (hw _ (List.mem_of_getElem? (i := 3) rfl)) (by decide) (by decide)) (g := (mkF m 34 #[.val (.int P0), .val (.long P1), .second, .val (.long P2), .second, .val (.int P3), .val (.int P4), .val (.int P0), .val (.int (0 : Int32)), .unset, .unset, .unset, .unset, .unset, .unset, .unset, .unset, .unset, .unset] [(.int ((P4 &&& (255 : Int32)).toUInt32.toUInt16.toUInt32.toInt32))])) rfl (by rw [hml]; rfl) (argsL := [(.int ((P4 &&& (255 : Int32)).toUInt32.toUInt16.toUInt32.toInt32))]) (rest := []) (lenOf pd_0_0 rfl) rfl (by show 2 * 0 + _ ≤ _; exact Nat.le_of_eq rfl) (hb hby at_34) (fun _ _ => ⟨rfl, e0, (by decide : 0 + 2 ≤ _), (by decide : 0 + 5 ≤ _)⟩)
      dsimp only [Pt.U, Pt.locs, Pt.cells, Pt.slots] at X150 l150 y150 z150 st150 hQ150
      subst l150 y150 z150
      obtain ⟨x150_R0, x150_R1, x150_K0, x150_XV0, rfl, N150q, K150, lb150_0, lb150_1, p150_0, p150_1, p150_2, p150_3⟩ := hQ150
      have N150 := Fr.app N0 N150q
      have g_x150_R0 : n0 ≤ x150_R0 := Nat.le_trans Z0 lb150_0
      have g_x150_R1 : n0 ≤ x150_R1 := Nat.le_trans Z0 lb150_1
      have Z151 : n0 ≤ T150.heap.size := Nat.le_trans Z0 K150.1
      have ss150_0 : Sta Z T150.heap "java/lang/String" "COMPACT_STRINGS" "Z" (.int U0) := own_sta_keep pm0 K150 all0
      obtain ⟨T152, h152, X152, e152, E152, A152, D152, -, st152⟩ := newO X150 hx hZ hown (hw _ (List.mem_of_getElem? (i := 27) rfl)) (hw _ (List.mem_of_getElem? (i := 28) rfl)) (hw _ (List.mem_of_getElem? (i := 29) rfl)) rfl (g := (mkF m 39 #[.val (.int P0), .val (.long P1), .second, .val (.long P2), .second, .val (.int P3), .val (.int P4), .val (.int P0), .val (.int (0 : Int32)), .val (.ref x150_R0), .unset, .unset, .unset, .unset, .unset, .unset, .unset, .unset, .unset] [])) rfl (hb hby at_39) (by decide) (by decide)
      obtain ⟨b152, q152⟩ : ∃ z, z = T150.heap.size := ⟨_, rfl⟩
      rw [← q152] at A152 D152 st152
      have ne153 : x150_R0 ≠ b152 := Nat.ne_of_lt (Nat.lt_of_lt_of_le p150_0.lt (Nat.le_of_eq q152.symm))
      have ne154 : x150_R1 ≠ b152 := Nat.ne_of_lt (Nat.lt_of_lt_of_le p150_3.lt (Nat.le_of_eq q152.symm))
      have g_b152 : n0 ≤ b152 := Nat.le_trans Z151 (Nat.le_of_eq q152.symm)
      have Z155 : n0 ≤ h152.size := Nat.le_trans Z151 E152.1
      have F152_35 : Fld Z h152 b152 "com/example/terseform/terseform/datatypes/HeldCharacters" "limit" "I" (.int (0 : Int32)) := D152 (Or.inr (hw _ (List.mem_of_getElem? (i := 35) rfl))) (ty := .int) (by decide)
      have F152_37 : Fld Z h152 b152 "com/example/terseform/terseform/datatypes/HeldCharacters" "nameLimit" "I" (.int (0 : Int32)) := D152 (Or.inr (hw _ (List.mem_of_getElem? (i := 37) rfl))) (ty := .int) (by decide)
      have F152_44 : Fld Z h152 b152 "com/example/terseform/terseform/datatypes/HeldCharacters" "kept" "J" (.long (0 : Int64)) := D152 (Or.inl (hw _ (List.mem_of_getElem? (i := 44) rfl))) (ty := .long) (by decide)
      have F152_46 : Fld Z h152 b152 "com/example/terseform/terseform/datatypes/HeldCharacters" "held" "J" (.long (0 : Int64)) := D152 (Or.inl (hw _ (List.mem_of_getElem? (i := 46) rfl))) (ty := .long) (by decide)
      have F152_54 : Fld Z h152 b152 "com/example/terseform/terseform/datatypes/HeldCharacters" "reading" "J" (.long (0 : Int64)) := D152 (Or.inl (hw _ (List.mem_of_getElem? (i := 54) rfl))) (ty := .long) (by decide)
      have F152_61 : Fld Z h152 b152 "com/example/terseform/terseform/datatypes/HeldCharacters" "given" "J" (.long (0 : Int64)) := D152 (Or.inl (hw _ (List.mem_of_getElem? (i := 61) rfl))) (ty := .long) (by decide)
      have c156 : Sta Z h152 "java/lang/String" "COMPACT_STRINGS" "Z" (.int U0) := (ss150_0.ext E152)
      obtain ⟨_, _, ⟨T157, L157, k157, n157⟩, -, X157, ⟨Lc157, hQ157, l157, y157, z157⟩, st157⟩ := X152.specialBack hx (y := (⟨"com/example/terseform/terseform/datatypes/HeldCharacters", "<init>", "(II)V"⟩ : MethodName)) rfl hown (mvT hZ (hw _ (List.mem_of_getElem? (i := 30) rfl))) (mvT hZ (hw _ (List.mem_of_getElem? (i := 31) rfl))) (mvT hZ (hw _ (List.mem_of_getElem? (i := 32) rfl))) (by decide) (backOf (W := 1) (rm6 l Z a0 hw [] b152 P0 (2147483647 : Int32) (0 : Int32) (0 : Int32) (0 : Int64) (0 : Int64) (0 : Int64) (0 : Int64) h152 n0 Z155 F152_35 F152_37 F152_44 F152_46 F152_54 F152_61 A152 g_b152) hZ (hw _ (List.mem_of_getElem? (i := 32) rfl)) (hw _ (List.mem_of_getElem? (i := 29) rfl)) (by decide) (by decide)) (g := (mkF m 47 #[.val (.int P0), .val (.long P1), .second, .val (.long P2), .second, .val (.int P3), .val (.int P4), .val (.int P0), .val (.int (0 : Int32)), .val (.ref x150_R0), .unset, .unset, .unset, .unset, .unset, .unset, .unset, .unset, .unset] [(.int (2147483647 : Int32)), (.int P0), (.ref b152), (.ref b152)])) rfl (by rw [hml]; rfl) (Steps.refl _) (a := b152) (argsL := [(.int P0), (.int (2147483647 : Int32))]) (rest := [(.ref b152)]) (lenOf pd_0_1 rfl) rfl (by show 2 * 0 + _ ≤ _; exact Nat.le_of_eq rfl) (hb hby at_47) (fun _ _ => ⟨rfl, e152, (by decide : 3 + 0 ≤ _), (by decide : 12 + 0 ≤ _)⟩)
      dsimp only [Pt.U, Pt.locs, Pt.cells, Pt.slots] at X157 l157 y157 z157 st157 hQ157
      subst l157 y157 z157
      obtain ⟨rfl, N157q, K157, p157_0, p157_1, p157_2, p157_3, p157_4, p157_5, p157_6⟩ := hQ157
      have N157 := Fr.app N150 N157q
      have Z158 : n0 ≤ T157.heap.size := Nat.le_trans Z155 K157.1
      have ss157_0 : Sta Z T157.heap "java/lang/String" "COMPACT_STRINGS" "Z" (.int U0) := own_sta_keep c156 K157 (allS (own_ns A152) all0)
      obtain ⟨cq159, kq159, q159a, q159b, q159c⟩ := isOf hZ rfl p157_0
      obtain ⟨_, _, ⟨T159, L159, k159, n159⟩, -, X159, ⟨Lc159, hQ159, l159, y159, z159⟩, st159⟩ := X157.virtualBack hx (y := (⟨"com/example/terseform/terseform/datatypes/HeldCharacters", "letGo", "(J)V"⟩ : MethodName)) (z := (⟨"com/example/terseform/terseform/datatypes/HeldCharacters", "letGo", "(J)V"⟩ : MethodName)) hown (mvT hZ (hw _ (List.mem_of_getElem? (i := 38) rfl))) (mvT hZ (hw _ (List.mem_of_getElem? (i := 39) rfl))) (notFace_of_selects (args := #[]) (mvT hZ (hw _ (List.mem_of_getElem? (i := 41) rfl)))) (mvT hZ (hw _ (List.mem_of_getElem? (i := 41) rfl))) (mvT hZ (hw _ (List.mem_of_getElem? (i := 40) rfl))) (by decide) (backOf (W := 0) (rm7 l Z a0 hw [] b152 P1 P0 (2147483647 : Int32) (0 : Int64) (0 : Int64) (0 : Int64) (0 : Int64) T157.heap n0 Z158 p157_1 p157_2 p157_3 p157_4 p157_5 p157_6 p157_0 g_b152) hZ (hw _ (List.mem_of_getElem? (i := 42) rfl)) (hw _ (List.mem_of_getElem? (i := 29) rfl)) (by decide) (by decide)) q159a q159c (g := (mkF m 55 #[.val (.int P0), .val (.long P1), .second, .val (.long P2), .second, .val (.int P3), .val (.int P4), .val (.int P0), .val (.int (0 : Int32)), .val (.ref x150_R0), .val (.ref b152), .unset, .unset, .unset, .unset, .unset, .unset, .unset, .unset] [(.long P1), (.ref b152)])) rfl (by rw [hml]; rfl) (Steps.refl _) (argsL := [(.long P1)]) (rest := []) (lenOf pd_0_2 rfl) rfl (by show 2 * 0 + _ ≤ _; exact Nat.le_of_eq rfl) (hb hby at_55) (fun _ _ => ⟨rfl, rfl, (by decide : 3 + 0 ≤ _), (by decide : 12 + 0 ≤ _)⟩)
      dsimp only [Pt.U, Pt.locs, Pt.cells, Pt.slots] at X159 l159 y159 z159 st159 hQ159
      subst l159 y159 z159
      obtain ⟨rfl, N159q, K159, p159_0, p159_1, p159_2, p159_3, p159_4, p159_5, p159_6⟩ := hQ159
      have N159 := Fr.app N157 N159q
      have Z160 : n0 ≤ T159.heap.size := Nat.le_trans Z158 K159.1
      have ss159_0 : Sta Z T159.heap "java/lang/String" "COMPACT_STRINGS" "Z" (.int U0) := own_sta_keep ss157_0 K159 (allS (own_ns p157_0) all0)
      obtain ⟨cq161, kq161, q161a, q161b, q161c⟩ := isOf hZ rfl p159_0
      obtain ⟨_, _, ⟨T161, L161, k161, n161⟩, -, X161, ⟨Lc161, hQ161, l161, y161, z161⟩, st161⟩ := X159.virtualBack hx (y := (⟨"com/example/terseform/terseform/datatypes/HeldCharacters", "checkRoom", "(J)V"⟩ : MethodName)) (z := (⟨"com/example/terseform/terseform/datatypes/HeldCharacters", "checkRoom", "(J)V"⟩ : MethodName)) hown (mvT hZ (hw _ (List.mem_of_getElem? (i := 47) rfl))) (mvT hZ (hw _ (List.mem_of_getElem? (i := 48) rfl))) (notFace_of_selects (args := #[]) (mvT hZ (hw _ (List.mem_of_getElem? (i := 50) rfl)))) (mvT hZ (hw _ (List.mem_of_getElem? (i := 50) rfl))) (mvT hZ (hw _ (List.mem_of_getElem? (i := 49) rfl))) (by decide) (backOf (W := 0) (rm8 l Z a0 hw [] b152 (P0.toInt64) P0 ((0 : Int64) - P1) ((0 : Int64) + P1) (0 : Int64) T159.heap n0 Z160 p159_1 p159_3 p159_4 p159_5 (show ¬ ((P0.toInt64) < (((((0 : Int64) - P1) + ((0 : Int64) + P1)) + (0 : Int64)) + (P0.toInt64))) from (own_irr _ _ (own_r1 _ _)))) hZ (hw _ (List.mem_of_getElem? (i := 51) rfl)) (hw _ (List.mem_of_getElem? (i := 29) rfl)) (by decide) (by decide)) q161a q161c (g := (mkF m 63 #[.val (.int P0), .val (.long P1), .second, .val (.long P2), .second, .val (.int P3), .val (.int P4), .val (.int P0), .val (.int (0 : Int32)), .val (.ref x150_R0), .val (.ref b152), .unset, .unset, .unset, .unset, .unset, .unset, .unset, .unset] [(.long (P0.toInt64)), (.ref b152)])) rfl (by rw [hml]; rfl) (Steps.refl _) (argsL := [(.long (P0.toInt64))]) (rest := []) (lenOf pd_0_2 rfl) rfl (by show 2 * 0 + _ ≤ _; exact Nat.le_of_eq rfl) (hb hby at_63) (fun _ _ => ⟨rfl, rfl, (by decide : 3 + 0 ≤ _), (by decide : 12 + 0 ≤ _)⟩)
      dsimp only [Pt.U, Pt.locs, Pt.cells, Pt.slots] at X161 l161 y161 z161 st161 hQ161
      subst l161 y161 z161
      obtain ⟨rfl, N161q, K161⟩ := hQ161
      have N161 := Fr.app N159 N161q
      obtain ⟨cq162, kq162, q162a, q162b, q162c⟩ := isOf hZ K161 p159_0
      obtain ⟨_, _, ⟨T162, L162, k162, n162⟩, -, X162, ⟨Lc162, hQ162, l162, y162, z162⟩, st162⟩ := X161.virtualBack hx (y := (⟨"com/example/terseform/terseform/datatypes/HeldCharacters", "letGo", "(J)V"⟩ : MethodName)) (z := (⟨"com/example/terseform/terseform/datatypes/HeldCharacters", "letGo", "(J)V"⟩ : MethodName)) hown (mvT hZ (hw _ (List.mem_of_getElem? (i := 38) rfl))) (mvT hZ (hw _ (List.mem_of_getElem? (i := 39) rfl))) (notFace_of_selects (args := #[]) (mvT hZ (hw _ (List.mem_of_getElem? (i := 41) rfl)))) (mvT hZ (hw _ (List.mem_of_getElem? (i := 41) rfl))) (mvT hZ (hw _ (List.mem_of_getElem? (i := 40) rfl))) (by decide) (backOf (W := 0) (rm7 l Z a0 hw [] b152 P2 P0 (2147483647 : Int32) ((0 : Int64) - P1) ((0 : Int64) + P1) (0 : Int64) (0 : Int64) T159.heap n0 Z160 p159_1 p159_2 p159_3 p159_4 p159_5 p159_6 p159_0 g_b152) hZ (hw _ (List.mem_of_getElem? (i := 42) rfl)) (hw _ (List.mem_of_getElem? (i := 29) rfl)) (by decide) (by decide)) q162a q162c (g := (mkF m 69 #[.val (.int P0), .val (.long P1), .second, .val (.long P2), .second, .val (.int P3), .val (.int P4), .val (.int P0), .val (.int (0 : Int32)), .val (.ref x150_R0), .val (.ref b152), .unset, .unset, .unset, .unset, .unset, .unset, .unset, .unset] [(.long P2), (.ref b152)])) rfl (by rw [hml]; rfl) (Steps.refl _) (argsL := [(.long P2)]) (rest := []) (lenOf pd_0_2 rfl) rfl (by show 2 * 0 + _ ≤ _; exact Nat.le_of_eq rfl) (hb hby at_69) (fun _ _ => ⟨rfl, K161, (by decide : 3 + 0 ≤ _), (by decide : 12 + 0 ≤ _)⟩)
      dsimp only [Pt.U, Pt.locs, Pt.cells, Pt.slots] at X162 l162 y162 z162 st162 hQ162
      subst l162 y162 z162
      obtain ⟨rfl, N162q, K162, p162_0, p162_1, p162_2, p162_3, p162_4, p162_5, p162_6⟩ := hQ162
      have N162 := Fr.app N161 N162q
      have Z163 : n0 ≤ T162.heap.size := Nat.le_trans Z160 K162.1
      have ss162_0 : Sta Z T162.heap "java/lang/String" "COMPACT_STRINGS" "Z" (.int U0) := own_sta_keep ss159_0 K162 (allS (own_ns p159_0) all0)
      obtain ⟨cq164, kq164, q164a, q164b, q164c⟩ := isOf hZ rfl p162_0
      obtain ⟨_, _, ⟨T164, L164, k164, n164⟩, -, X164, ⟨Lc164, hQ164, l164, y164, z164⟩, st164⟩ := X162.virtualBack hx (y := (⟨"com/example/terseform/terseform/datatypes/HeldCharacters", "checkRoom", "(J)V"⟩ : MethodName)) (z := (⟨"com/example/terseform/terseform/datatypes/HeldCharacters", "checkRoom", "(J)V"⟩ : MethodName)) hown (mvT hZ (hw _ (List.mem_of_getElem? (i := 47) rfl))) (mvT hZ (hw _ (List.mem_of_getElem? (i := 48) rfl))) (notFace_of_selects (args := #[]) (mvT hZ (hw _ (List.mem_of_getElem? (i := 50) rfl)))) (mvT hZ (hw _ (List.mem_of_getElem? (i := 50) rfl))) (mvT hZ (hw _ (List.mem_of_getElem? (i := 49) rfl))) (by decide) (backOf (W := 0) (rm8 l Z a0 hw [] b152 ((P0.toInt64) - (((-P1) - P2) + (P1 + P2))) P0 (((0 : Int64) - P1) - P2) (((0 : Int64) + P1) + P2) (0 : Int64) T162.heap n0 Z163 p162_1 p162_3 p162_4 p162_5 (show ¬ ((P0.toInt64) < ((((((0 : Int64) - P1) - P2) + (((0 : Int64) + P1) + P2)) + (0 : Int64)) + ((P0.toInt64) - (((-P1) - P2) + (P1 + P2))))) from (own_irr _ _ (own_r2 _ _ _)))) hZ (hw _ (List.mem_of_getElem? (i := 51) rfl)) (hw _ (List.mem_of_getElem? (i := 29) rfl)) (by decide) (by decide)) q164a q164c (g := (mkF m 94 #[.val (.int P0), .val (.long P1), .second, .val (.long P2), .second, .val (.int P3), .val (.int P4), .val (.int P0), .val (.int (0 : Int32)), .val (.ref x150_R0), .val (.ref b152), .val (.long ((-P1) - P2)), .second, .val (.long (P1 + P2)), .second, .unset, .unset, .unset, .unset] [(.long ((P0.toInt64) - (((-P1) - P2) + (P1 + P2)))), (.ref b152)])) rfl (by rw [hml]; rfl) (Steps.refl _) (argsL := [(.long ((P0.toInt64) - (((-P1) - P2) + (P1 + P2))))]) (rest := []) (lenOf pd_0_2 rfl) rfl (by show 2 * 0 + _ ≤ _; exact Nat.le_of_eq rfl) (hb hby at_94) (fun _ _ => ⟨rfl, rfl, (by decide : 3 + 0 ≤ _), (by decide : 12 + 0 ≤ _)⟩)
      dsimp only [Pt.U, Pt.locs, Pt.cells, Pt.slots] at X164 l164 y164 z164 st164 hQ164
      subst l164 y164 z164
      obtain ⟨rfl, N164q, K164⟩ := hQ164
      have N164 := Fr.app N162 N164q
      obtain ⟨cq165, kq165, q165a, q165b, q165c⟩ := isOf hZ K164 p162_0
      obtain ⟨_, _, ⟨T165, L165, k165, n165⟩, -, X165, ⟨Lc165, hQ165, l165, y165, z165⟩, st165⟩ := X164.virtualBack hx (y := (⟨"com/example/terseform/terseform/datatypes/HeldCharacters", "release", "()V"⟩ : MethodName)) (z := (⟨"com/example/terseform/terseform/datatypes/HeldCharacters", "release", "()V"⟩ : MethodName)) hown (mvT hZ (hw _ (List.mem_of_getElem? (i := 55) rfl))) (mvT hZ (hw _ (List.mem_of_getElem? (i := 56) rfl))) (notFace_of_selects (args := #[]) (mvT hZ (hw _ (List.mem_of_getElem? (i := 58) rfl)))) (mvT hZ (hw _ (List.mem_of_getElem? (i := 58) rfl))) (mvT hZ (hw _ (List.mem_of_getElem? (i := 57) rfl))) (by decide) (backOf (W := 0) (rm9 l Z a0 hw [] b152 P0 (2147483647 : Int32) (((0 : Int64) - P1) - P2) (((0 : Int64) + P1) + P2) (0 : Int64) (0 : Int64) T162.heap n0 Z163 p162_1 p162_2 p162_3 p162_4 p162_5 p162_6 p162_0 g_b152) hZ (hw _ (List.mem_of_getElem? (i := 59) rfl)) (hw _ (List.mem_of_getElem? (i := 29) rfl)) (by decide) (by decide)) q165a q165c (g := (mkF m 119 #[.val (.int P0), .val (.long P1), .second, .val (.long P2), .second, .val (.int P3), .val (.int P4), .val (.int P0), .val (.int (0 : Int32)), .val (.ref x150_R0), .val (.ref b152), .val (.long ((-P1) - P2)), .second, .val (.long (P1 + P2)), .second, .val (.long (0 : Int64)), .second, .unset, .unset] [(.ref b152)])) rfl (by rw [hml]; rfl) (Steps.refl _) (argsL := []) (rest := []) (lenOf pd_0_3 rfl) rfl (by show 2 * 0 + _ ≤ _; exact Nat.le_of_eq rfl) (hb hby at_119) (fun _ _ => ⟨rfl, K164, (by decide : 3 + 0 ≤ _), (by decide : 12 + 0 ≤ _)⟩)
      dsimp only [Pt.U, Pt.locs, Pt.cells, Pt.slots] at X165 l165 y165 z165 st165 hQ165
      subst l165 y165 z165
      obtain ⟨rfl, N165q, K165, p165_0, p165_1, p165_2, p165_3, p165_4, p165_5, p165_6⟩ := hQ165
      have N165 := Fr.app N164 N165q
      have Z166 : n0 ≤ T165.heap.size := Nat.le_trans Z163 K165.1
      have ss165_0 : Sta Z T165.heap "java/lang/String" "COMPACT_STRINGS" "Z" (.int U0) := own_sta_keep ss162_0 K165 (allS (own_ns p162_0) all0)
      obtain ⟨_, _, ⟨T167, L167, k167, n167⟩, -, X167, ⟨Lc167, hQ167, l167, y167, z167⟩, st167⟩ := Jvm.LawKit.callS X165 hx (y := (⟨"java/lang/Math", "min", "(JJ)J"⟩ : MethodName)) hown (mvT hZ (hw _ (List.mem_of_getElem? (i := 66) rfl))) (mvT hZ (hw _ (List.mem_of_getElem? (i := 63) rfl))) (mvT hZ (hw _ (List.mem_of_getElem? (i := 64) rfl))) (mvT hZ (hw _ (List.mem_of_getElem? (i := 65) rfl))) (by decide) (backOf (W := 0) (rm10 l Z a0 hw [] (P1 + P2) (0 : Int64) T165.heap n0 Z166 ) hZ (hw _ (List.mem_of_getElem? (i := 65) rfl)) (hw _ (List.mem_of_getElem? (i := 64) rfl)) (by decide) (by decide)) (g := (mkF m 126 #[.val (.int P0), .val (.long P1), .second, .val (.long P2), .second, .val (.int P3), .val (.int P4), .val (.int P0), .val (.int (0 : Int32)), .val (.ref x150_R0), .val (.ref b152), .val (.long ((-P1) - P2)), .second, .val (.long (P1 + P2)), .second, .val (.long (0 : Int64)), .second, .unset, .unset] [(.long (0 : Int64)), (.long (P1 + P2))])) rfl (by rw [hml]; rfl) (argsL := [(.long (P1 + P2)), (.long (0 : Int64))]) (rest := []) (lenOf pd_0_4 rfl) rfl (by show 2 * 0 + _ ≤ _; exact Nat.le_of_eq rfl) (hb hby at_126) (fun _ _ => ⟨rfl, rfl, (by decide : 3 + 0 ≤ _), (by decide : 12 + 0 ≤ _)⟩)
      dsimp only [Pt.U, Pt.locs, Pt.cells, Pt.slots] at X167 l167 y167 z167 st167 hQ167
      subst l167 y167 z167
      obtain ⟨rfl, N167q, K167⟩ := hQ167
      have N167 := Fr.app N165 N167q
      obtain ⟨cq168, kq168, q168a, q168b, q168c⟩ := isOf hZ K167 p165_0
      obtain ⟨_, _, ⟨T168, L168, k168, n168⟩, -, X168, ⟨Lc168, hQ168, l168, y168, z168⟩, st168⟩ := X167.virtualBack hx (y := (⟨"com/example/terseform/terseform/datatypes/HeldCharacters", "checkRoom", "(J)V"⟩ : MethodName)) (z := (⟨"com/example/terseform/terseform/datatypes/HeldCharacters", "checkRoom", "(J)V"⟩ : MethodName)) hown (mvT hZ (hw _ (List.mem_of_getElem? (i := 47) rfl))) (mvT hZ (hw _ (List.mem_of_getElem? (i := 48) rfl))) (notFace_of_selects (args := #[]) (mvT hZ (hw _ (List.mem_of_getElem? (i := 50) rfl)))) (mvT hZ (hw _ (List.mem_of_getElem? (i := 50) rfl))) (mvT hZ (hw _ (List.mem_of_getElem? (i := 49) rfl))) (by decide) (backOf (W := 0) (rm8 l Z a0 hw [] b152 ((P0.toInt64) - (((-P1) - P2) + (own_min (P1 + P2) (0 : Int64)))) P0 (((0 : Int64) - P1) - P2) (own_min (((0 : Int64) + P1) + P2) (0 : Int64)) (0 : Int64) T165.heap n0 Z166 p165_1 p165_3 p165_4 p165_5 (show ¬ ((P0.toInt64) < ((((((0 : Int64) - P1) - P2) + (own_min (((0 : Int64) + P1) + P2) (0 : Int64))) + (0 : Int64)) + ((P0.toInt64) - (((-P1) - P2) + (own_min (P1 + P2) (0 : Int64)))))) from (own_irr _ _ (by rw [own_m0]; exact own_r3 _ _ _ _)))) hZ (hw _ (List.mem_of_getElem? (i := 51) rfl)) (hw _ (List.mem_of_getElem? (i := 29) rfl)) (by decide) (by decide)) q168a q168c (g := (mkF m 142 #[.val (.int P0), .val (.long P1), .second, .val (.long P2), .second, .val (.int P3), .val (.int P4), .val (.int P0), .val (.int (0 : Int32)), .val (.ref x150_R0), .val (.ref b152), .val (.long ((-P1) - P2)), .second, .val (.long (P1 + P2)), .second, .val (.long (0 : Int64)), .second, .val (.long (own_min (P1 + P2) (0 : Int64))), .second] [(.long ((P0.toInt64) - (((-P1) - P2) + (own_min (P1 + P2) (0 : Int64))))), (.ref b152)])) rfl (by rw [hml]; rfl) (Steps.refl _) (argsL := [(.long ((P0.toInt64) - (((-P1) - P2) + (own_min (P1 + P2) (0 : Int64)))))]) (rest := []) (lenOf pd_0_2 rfl) rfl (by show 2 * 0 + _ ≤ _; exact Nat.le_of_eq rfl) (hb hby at_142) (fun _ _ => ⟨rfl, K167, (by decide : 3 + 0 ≤ _), (by decide : 12 + 0 ≤ _)⟩)
      dsimp only [Pt.U, Pt.locs, Pt.cells, Pt.slots] at X168 l168 y168 z168 st168 hQ168
      subst l168 y168 z168
      obtain ⟨rfl, N168q, K168⟩ := hQ168
      have N168 := Fr.app N167 N168q
      have pre169 : ∀ t, Steps p.tables e below (T168.setTop (mkF m 146 #[.val (.int P0), .val (.long P1), .second, .val (.long P2), .second, .val (.int P3), .val (.int P4), .val (.int P0), .val (.int (0 : Int32)), .val (.ref x150_R0), .val (.ref b152), .val (.long ((-P1) - P2)), .second, .val (.long (P1 + P2)), .second, .val (.long (0 : Int64)), .second, .val (.long (own_min (P1 + P2) (0 : Int64))), .second] [(.int (1 : Int32))])) t → Steps p.tables e below (s₁.setTop (entryFrame m #[(.int P0), (.long P1), (.long P2), (.int P3), (.int P4)] maxLocals)) t := fun t kt => pre149 t (by
          show Steps p.tables e below (s₁.setTop (mkF m 17 #[.val (.int P0), .val (.long P1), .second, .val (.long P2), .second, .val (.int P3), .val (.int P4), .val (.int P0), .unset, .unset, .unset, .unset, .unset, .unset, .unset, .unset, .unset, .unset, .unset] [(.int (P3 &&& (1 : Int32)))])) _
          refine XS.ifYes X0.here hx rfl (pc0 := 17) (pc' := 24) rfl (hb hby at_17) rfl ((if0 _ _).trans (teq hc17).1) (by decide) (by decide) ?_
          show Steps p.tables e below (s₁.setTop (mkF m 24 #[.val (.int P0), .val (.long P1), .second, .val (.long P2), .second, .val (.int P3), .val (.int P4), .val (.int P0), .unset, .unset, .unset, .unset, .unset, .unset, .unset, .unset, .unset, .unset, .unset] [])) _
          refine XS.iconst X0.here hx rfl (hb hby at_24) ?_
          show Steps p.tables e below (s₁.setTop (mkF m 25 #[.val (.int P0), .val (.long P1), .second, .val (.long P2), .second, .val (.int P3), .val (.int P4), .val (.int P0), .unset, .unset, .unset, .unset, .unset, .unset, .unset, .unset, .unset, .unset, .unset] [(.int (0 : Int32))])) _
          refine XS.istore X0.here hx rfl (hb hby at_25) rfl (l' := #[.val (.int P0), .val (.long P1), .second, .val (.long P2), .second, .val (.int P3), .val (.int P4), .val (.int P0), .val (.int (0 : Int32)), .unset, .unset, .unset, .unset, .unset, .unset, .unset, .unset, .unset, .unset]) rfl ?_
          show Steps p.tables e below (s₁.setTop (mkF m 27 #[.val (.int P0), .val (.long P1), .second, .val (.long P2), .second, .val (.int P3), .val (.int P4), .val (.int P0), .val (.int (0 : Int32)), .unset, .unset, .unset, .unset, .unset, .unset, .unset, .unset, .unset, .unset] [])) _
          refine XS.iload X0.here hx rfl (hb hby at_27) rfl ?_
          show Steps p.tables e below (s₁.setTop (mkF m 29 #[.val (.int P0), .val (.long P1), .second, .val (.long P2), .second, .val (.int P3), .val (.int P4), .val (.int P0), .val (.int (0 : Int32)), .unset, .unset, .unset, .unset, .unset, .unset, .unset, .unset, .unset, .unset] [(.int P4)])) _
          refine XS.sipush X0.here hx rfl (hb hby at_29) ?_
          show Steps p.tables e below (s₁.setTop (mkF m 32 #[.val (.int P0), .val (.long P1), .second, .val (.long P2), .second, .val (.int P3), .val (.int P4), .val (.int P0), .val (.int (0 : Int32)), .unset, .unset, .unset, .unset, .unset, .unset, .unset, .unset, .unset, .unset] [(.int (255 : Int32)), (.int P4)])) _
          refine XS.iand X0.here hx rfl (hb hby at_32) rfl ?_
          show Steps p.tables e below (s₁.setTop (mkF m 33 #[.val (.int P0), .val (.long P1), .second, .val (.long P2), .second, .val (.int P3), .val (.int P4), .val (.int P0), .val (.int (0 : Int32)), .unset, .unset, .unset, .unset, .unset, .unset, .unset, .unset, .unset, .unset] [(.int (P4 &&& (255 : Int32)))])) _
          refine XS.i2c X0.here hx rfl (hb hby at_33) rfl ?_
          show Steps p.tables e below (s₁.setTop (mkF m 34 #[.val (.int P0), .val (.long P1), .second, .val (.long P2), .second, .val (.int P3), .val (.int P4), .val (.int P0), .val (.int (0 : Int32)), .unset, .unset, .unset, .unset, .unset, .unset, .unset, .unset, .unset, .unset] [(.int ((P4 &&& (255 : Int32)).toUInt32.toUInt16.toUInt32.toInt32))])) _
          refine st150 _ ?_
          show Steps p.tables e below (T150.setTop (mkF m 37 #[.val (.int P0), .val (.long P1), .second, .val (.long P2), .second, .val (.int P3), .val (.int P4), .val (.int P0), .val (.int (0 : Int32)), .unset, .unset, .unset, .unset, .unset, .unset, .unset, .unset, .unset, .unset] [(.ref x150_R0)])) _
          refine XS.astore X150.here hx rfl (hb hby at_37) rfl rfl (l' := #[.val (.int P0), .val (.long P1), .second, .val (.long P2), .second, .val (.int P3), .val (.int P4), .val (.int P0), .val (.int (0 : Int32)), .val (.ref x150_R0), .unset, .unset, .unset, .unset, .unset, .unset, .unset, .unset, .unset]) rfl ?_
          show Steps p.tables e below (T150.setTop (mkF m 39 #[.val (.int P0), .val (.long P1), .second, .val (.long P2), .second, .val (.int P3), .val (.int P4), .val (.int P0), .val (.int (0 : Int32)), .val (.ref x150_R0), .unset, .unset, .unset, .unset, .unset, .unset, .unset, .unset, .unset] [])) _
          refine st152 _ ?_
          show Steps p.tables e below (T152.setTop (mkF m 42 #[.val (.int P0), .val (.long P1), .second, .val (.long P2), .second, .val (.int P3), .val (.int P4), .val (.int P0), .val (.int (0 : Int32)), .val (.ref x150_R0), .unset, .unset, .unset, .unset, .unset, .unset, .unset, .unset, .unset] [(.ref b152)])) _
          refine XS.dup X152.here hx rfl (hb hby at_42) rfl rfl ?_
          show Steps p.tables e below (T152.setTop (mkF m 43 #[.val (.int P0), .val (.long P1), .second, .val (.long P2), .second, .val (.int P3), .val (.int P4), .val (.int P0), .val (.int (0 : Int32)), .val (.ref x150_R0), .unset, .unset, .unset, .unset, .unset, .unset, .unset, .unset, .unset] [(.ref b152), (.ref b152)])) _
          refine XS.iload X152.here hx rfl (hb hby at_43) rfl ?_
          show Steps p.tables e below (T152.setTop (mkF m 45 #[.val (.int P0), .val (.long P1), .second, .val (.long P2), .second, .val (.int P3), .val (.int P4), .val (.int P0), .val (.int (0 : Int32)), .val (.ref x150_R0), .unset, .unset, .unset, .unset, .unset, .unset, .unset, .unset, .unset] [(.int P0), (.ref b152), (.ref b152)])) _
          refine X152.ldcInt hx hown (mvT hZ (hw _ (List.mem_of_getElem? (i := 0) rfl))) (g := (mkF m 45 #[.val (.int P0), .val (.long P1), .second, .val (.long P2), .second, .val (.int P3), .val (.int P4), .val (.int P0), .val (.int (0 : Int32)), .val (.ref x150_R0), .unset, .unset, .unset, .unset, .unset, .unset, .unset, .unset, .unset] [(.int P0), (.ref b152), (.ref b152)])) rfl (hb hby at_45) _ ?_
          show Steps p.tables e below (T152.setTop (mkF m 47 #[.val (.int P0), .val (.long P1), .second, .val (.long P2), .second, .val (.int P3), .val (.int P4), .val (.int P0), .val (.int (0 : Int32)), .val (.ref x150_R0), .unset, .unset, .unset, .unset, .unset, .unset, .unset, .unset, .unset] [(.int (2147483647 : Int32)), (.int P0), (.ref b152), (.ref b152)])) _
          refine st157.trans ?_
          show Steps p.tables e below (T157.setTop (mkF m 50 #[.val (.int P0), .val (.long P1), .second, .val (.long P2), .second, .val (.int P3), .val (.int P4), .val (.int P0), .val (.int (0 : Int32)), .val (.ref x150_R0), .unset, .unset, .unset, .unset, .unset, .unset, .unset, .unset, .unset] [(.ref b152)])) _
          refine XS.astore X157.here hx rfl (hb hby at_50) rfl rfl (l' := #[.val (.int P0), .val (.long P1), .second, .val (.long P2), .second, .val (.int P3), .val (.int P4), .val (.int P0), .val (.int (0 : Int32)), .val (.ref x150_R0), .val (.ref b152), .unset, .unset, .unset, .unset, .unset, .unset, .unset, .unset]) rfl ?_
          show Steps p.tables e below (T157.setTop (mkF m 52 #[.val (.int P0), .val (.long P1), .second, .val (.long P2), .second, .val (.int P3), .val (.int P4), .val (.int P0), .val (.int (0 : Int32)), .val (.ref x150_R0), .val (.ref b152), .unset, .unset, .unset, .unset, .unset, .unset, .unset, .unset] [])) _
          refine XS.aload X157.here hx rfl (hb hby at_52) rfl rfl ?_
          show Steps p.tables e below (T157.setTop (mkF m 54 #[.val (.int P0), .val (.long P1), .second, .val (.long P2), .second, .val (.int P3), .val (.int P4), .val (.int P0), .val (.int (0 : Int32)), .val (.ref x150_R0), .val (.ref b152), .unset, .unset, .unset, .unset, .unset, .unset, .unset, .unset] [(.ref b152)])) _
          refine XS.lloadN X157.here hx rfl (hb hby at_54) rfl ?_
          show Steps p.tables e below (T157.setTop (mkF m 55 #[.val (.int P0), .val (.long P1), .second, .val (.long P2), .second, .val (.int P3), .val (.int P4), .val (.int P0), .val (.int (0 : Int32)), .val (.ref x150_R0), .val (.ref b152), .unset, .unset, .unset, .unset, .unset, .unset, .unset, .unset] [(.long P1), (.ref b152)])) _
          refine st159.trans ?_
          show Steps p.tables e below (T159.setTop (mkF m 58 #[.val (.int P0), .val (.long P1), .second, .val (.long P2), .second, .val (.int P3), .val (.int P4), .val (.int P0), .val (.int (0 : Int32)), .val (.ref x150_R0), .val (.ref b152), .unset, .unset, .unset, .unset, .unset, .unset, .unset, .unset] [])) _
          refine XS.aload X159.here hx rfl (hb hby at_58) rfl rfl ?_
          show Steps p.tables e below (T159.setTop (mkF m 60 #[.val (.int P0), .val (.long P1), .second, .val (.long P2), .second, .val (.int P3), .val (.int P4), .val (.int P0), .val (.int (0 : Int32)), .val (.ref x150_R0), .val (.ref b152), .unset, .unset, .unset, .unset, .unset, .unset, .unset, .unset] [(.ref b152)])) _
          refine XS.iload X159.here hx rfl (hb hby at_60) rfl ?_
          show Steps p.tables e below (T159.setTop (mkF m 62 #[.val (.int P0), .val (.long P1), .second, .val (.long P2), .second, .val (.int P3), .val (.int P4), .val (.int P0), .val (.int (0 : Int32)), .val (.ref x150_R0), .val (.ref b152), .unset, .unset, .unset, .unset, .unset, .unset, .unset, .unset] [(.int P0), (.ref b152)])) _
          refine XS.i2l X159.here hx rfl (hb hby at_62) rfl ?_
          show Steps p.tables e below (T159.setTop (mkF m 63 #[.val (.int P0), .val (.long P1), .second, .val (.long P2), .second, .val (.int P3), .val (.int P4), .val (.int P0), .val (.int (0 : Int32)), .val (.ref x150_R0), .val (.ref b152), .unset, .unset, .unset, .unset, .unset, .unset, .unset, .unset] [(.long (P0.toInt64)), (.ref b152)])) _
          refine st161.trans ?_
          show Steps p.tables e below (T161.setTop (mkF m 66 #[.val (.int P0), .val (.long P1), .second, .val (.long P2), .second, .val (.int P3), .val (.int P4), .val (.int P0), .val (.int (0 : Int32)), .val (.ref x150_R0), .val (.ref b152), .unset, .unset, .unset, .unset, .unset, .unset, .unset, .unset] [])) _
          refine XS.aload X161.here hx rfl (hb hby at_66) rfl rfl ?_
          show Steps p.tables e below (T161.setTop (mkF m 68 #[.val (.int P0), .val (.long P1), .second, .val (.long P2), .second, .val (.int P3), .val (.int P4), .val (.int P0), .val (.int (0 : Int32)), .val (.ref x150_R0), .val (.ref b152), .unset, .unset, .unset, .unset, .unset, .unset, .unset, .unset] [(.ref b152)])) _
          refine XS.lloadN X161.here hx rfl (hb hby at_68) rfl ?_
          show Steps p.tables e below (T161.setTop (mkF m 69 #[.val (.int P0), .val (.long P1), .second, .val (.long P2), .second, .val (.int P3), .val (.int P4), .val (.int P0), .val (.int (0 : Int32)), .val (.ref x150_R0), .val (.ref b152), .unset, .unset, .unset, .unset, .unset, .unset, .unset, .unset] [(.long P2), (.ref b152)])) _
          refine st162.trans ?_
          show Steps p.tables e below (T162.setTop (mkF m 72 #[.val (.int P0), .val (.long P1), .second, .val (.long P2), .second, .val (.int P3), .val (.int P4), .val (.int P0), .val (.int (0 : Int32)), .val (.ref x150_R0), .val (.ref b152), .unset, .unset, .unset, .unset, .unset, .unset, .unset, .unset] [])) _
          refine XS.lloadN X162.here hx rfl (hb hby at_72) rfl ?_
          show Steps p.tables e below (T162.setTop (mkF m 73 #[.val (.int P0), .val (.long P1), .second, .val (.long P2), .second, .val (.int P3), .val (.int P4), .val (.int P0), .val (.int (0 : Int32)), .val (.ref x150_R0), .val (.ref b152), .unset, .unset, .unset, .unset, .unset, .unset, .unset, .unset] [(.long P1)])) _
          refine XS.lneg X162.here hx rfl (hb hby at_73) rfl ?_
          show Steps p.tables e below (T162.setTop (mkF m 74 #[.val (.int P0), .val (.long P1), .second, .val (.long P2), .second, .val (.int P3), .val (.int P4), .val (.int P0), .val (.int (0 : Int32)), .val (.ref x150_R0), .val (.ref b152), .unset, .unset, .unset, .unset, .unset, .unset, .unset, .unset] [(.long (-P1))])) _
          refine XS.lloadN X162.here hx rfl (hb hby at_74) rfl ?_
          show Steps p.tables e below (T162.setTop (mkF m 75 #[.val (.int P0), .val (.long P1), .second, .val (.long P2), .second, .val (.int P3), .val (.int P4), .val (.int P0), .val (.int (0 : Int32)), .val (.ref x150_R0), .val (.ref b152), .unset, .unset, .unset, .unset, .unset, .unset, .unset, .unset] [(.long P2), (.long (-P1))])) _
          refine XS.lsub X162.here hx rfl (hb hby at_75) rfl ?_
          show Steps p.tables e below (T162.setTop (mkF m 76 #[.val (.int P0), .val (.long P1), .second, .val (.long P2), .second, .val (.int P3), .val (.int P4), .val (.int P0), .val (.int (0 : Int32)), .val (.ref x150_R0), .val (.ref b152), .unset, .unset, .unset, .unset, .unset, .unset, .unset, .unset] [(.long ((-P1) - P2))])) _
          refine XS.lstore X162.here hx rfl (hb hby at_76) rfl (l' := #[.val (.int P0), .val (.long P1), .second, .val (.long P2), .second, .val (.int P3), .val (.int P4), .val (.int P0), .val (.int (0 : Int32)), .val (.ref x150_R0), .val (.ref b152), .val (.long ((-P1) - P2)), .second, .unset, .unset, .unset, .unset, .unset, .unset]) rfl ?_
          show Steps p.tables e below (T162.setTop (mkF m 78 #[.val (.int P0), .val (.long P1), .second, .val (.long P2), .second, .val (.int P3), .val (.int P4), .val (.int P0), .val (.int (0 : Int32)), .val (.ref x150_R0), .val (.ref b152), .val (.long ((-P1) - P2)), .second, .unset, .unset, .unset, .unset, .unset, .unset] [])) _
          refine XS.lloadN X162.here hx rfl (hb hby at_78) rfl ?_
          show Steps p.tables e below (T162.setTop (mkF m 79 #[.val (.int P0), .val (.long P1), .second, .val (.long P2), .second, .val (.int P3), .val (.int P4), .val (.int P0), .val (.int (0 : Int32)), .val (.ref x150_R0), .val (.ref b152), .val (.long ((-P1) - P2)), .second, .unset, .unset, .unset, .unset, .unset, .unset] [(.long P1)])) _
          refine XS.lloadN X162.here hx rfl (hb hby at_79) rfl ?_
          show Steps p.tables e below (T162.setTop (mkF m 80 #[.val (.int P0), .val (.long P1), .second, .val (.long P2), .second, .val (.int P3), .val (.int P4), .val (.int P0), .val (.int (0 : Int32)), .val (.ref x150_R0), .val (.ref b152), .val (.long ((-P1) - P2)), .second, .unset, .unset, .unset, .unset, .unset, .unset] [(.long P2), (.long P1)])) _
          refine XS.ladd X162.here hx rfl (hb hby at_80) rfl ?_
          show Steps p.tables e below (T162.setTop (mkF m 81 #[.val (.int P0), .val (.long P1), .second, .val (.long P2), .second, .val (.int P3), .val (.int P4), .val (.int P0), .val (.int (0 : Int32)), .val (.ref x150_R0), .val (.ref b152), .val (.long ((-P1) - P2)), .second, .unset, .unset, .unset, .unset, .unset, .unset] [(.long (P1 + P2))])) _
          refine XS.lstore X162.here hx rfl (hb hby at_81) rfl (l' := #[.val (.int P0), .val (.long P1), .second, .val (.long P2), .second, .val (.int P3), .val (.int P4), .val (.int P0), .val (.int (0 : Int32)), .val (.ref x150_R0), .val (.ref b152), .val (.long ((-P1) - P2)), .second, .val (.long (P1 + P2)), .second, .unset, .unset, .unset, .unset]) rfl ?_
          show Steps p.tables e below (T162.setTop (mkF m 83 #[.val (.int P0), .val (.long P1), .second, .val (.long P2), .second, .val (.int P3), .val (.int P4), .val (.int P0), .val (.int (0 : Int32)), .val (.ref x150_R0), .val (.ref b152), .val (.long ((-P1) - P2)), .second, .val (.long (P1 + P2)), .second, .unset, .unset, .unset, .unset] [])) _
          refine XS.aload X162.here hx rfl (hb hby at_83) rfl rfl ?_
          show Steps p.tables e below (T162.setTop (mkF m 85 #[.val (.int P0), .val (.long P1), .second, .val (.long P2), .second, .val (.int P3), .val (.int P4), .val (.int P0), .val (.int (0 : Int32)), .val (.ref x150_R0), .val (.ref b152), .val (.long ((-P1) - P2)), .second, .val (.long (P1 + P2)), .second, .unset, .unset, .unset, .unset] [(.ref b152)])) _
          refine XS.iload X162.here hx rfl (hb hby at_85) rfl ?_
          show Steps p.tables e below (T162.setTop (mkF m 87 #[.val (.int P0), .val (.long P1), .second, .val (.long P2), .second, .val (.int P3), .val (.int P4), .val (.int P0), .val (.int (0 : Int32)), .val (.ref x150_R0), .val (.ref b152), .val (.long ((-P1) - P2)), .second, .val (.long (P1 + P2)), .second, .unset, .unset, .unset, .unset] [(.int P0), (.ref b152)])) _
          refine XS.i2l X162.here hx rfl (hb hby at_87) rfl ?_
          show Steps p.tables e below (T162.setTop (mkF m 88 #[.val (.int P0), .val (.long P1), .second, .val (.long P2), .second, .val (.int P3), .val (.int P4), .val (.int P0), .val (.int (0 : Int32)), .val (.ref x150_R0), .val (.ref b152), .val (.long ((-P1) - P2)), .second, .val (.long (P1 + P2)), .second, .unset, .unset, .unset, .unset] [(.long (P0.toInt64)), (.ref b152)])) _
          refine XS.lload X162.here hx rfl (hb hby at_88) rfl ?_
          show Steps p.tables e below (T162.setTop (mkF m 90 #[.val (.int P0), .val (.long P1), .second, .val (.long P2), .second, .val (.int P3), .val (.int P4), .val (.int P0), .val (.int (0 : Int32)), .val (.ref x150_R0), .val (.ref b152), .val (.long ((-P1) - P2)), .second, .val (.long (P1 + P2)), .second, .unset, .unset, .unset, .unset] [(.long ((-P1) - P2)), (.long (P0.toInt64)), (.ref b152)])) _
          refine XS.lload X162.here hx rfl (hb hby at_90) rfl ?_
          show Steps p.tables e below (T162.setTop (mkF m 92 #[.val (.int P0), .val (.long P1), .second, .val (.long P2), .second, .val (.int P3), .val (.int P4), .val (.int P0), .val (.int (0 : Int32)), .val (.ref x150_R0), .val (.ref b152), .val (.long ((-P1) - P2)), .second, .val (.long (P1 + P2)), .second, .unset, .unset, .unset, .unset] [(.long (P1 + P2)), (.long ((-P1) - P2)), (.long (P0.toInt64)), (.ref b152)])) _
          refine XS.ladd X162.here hx rfl (hb hby at_92) rfl ?_
          show Steps p.tables e below (T162.setTop (mkF m 93 #[.val (.int P0), .val (.long P1), .second, .val (.long P2), .second, .val (.int P3), .val (.int P4), .val (.int P0), .val (.int (0 : Int32)), .val (.ref x150_R0), .val (.ref b152), .val (.long ((-P1) - P2)), .second, .val (.long (P1 + P2)), .second, .unset, .unset, .unset, .unset] [(.long (((-P1) - P2) + (P1 + P2))), (.long (P0.toInt64)), (.ref b152)])) _
          refine XS.lsub X162.here hx rfl (hb hby at_93) rfl ?_
          show Steps p.tables e below (T162.setTop (mkF m 94 #[.val (.int P0), .val (.long P1), .second, .val (.long P2), .second, .val (.int P3), .val (.int P4), .val (.int P0), .val (.int (0 : Int32)), .val (.ref x150_R0), .val (.ref b152), .val (.long ((-P1) - P2)), .second, .val (.long (P1 + P2)), .second, .unset, .unset, .unset, .unset] [(.long ((P0.toInt64) - (((-P1) - P2) + (P1 + P2)))), (.ref b152)])) _
          refine st164.trans ?_
          show Steps p.tables e below (T164.setTop (mkF m 97 #[.val (.int P0), .val (.long P1), .second, .val (.long P2), .second, .val (.int P3), .val (.int P4), .val (.int P0), .val (.int (0 : Int32)), .val (.ref x150_R0), .val (.ref b152), .val (.long ((-P1) - P2)), .second, .val (.long (P1 + P2)), .second, .unset, .unset, .unset, .unset] [])) _
          refine XS.lconst X164.here hx rfl (hb hby at_97) ?_
          show Steps p.tables e below (T164.setTop (mkF m 98 #[.val (.int P0), .val (.long P1), .second, .val (.long P2), .second, .val (.int P3), .val (.int P4), .val (.int P0), .val (.int (0 : Int32)), .val (.ref x150_R0), .val (.ref b152), .val (.long ((-P1) - P2)), .second, .val (.long (P1 + P2)), .second, .unset, .unset, .unset, .unset] [(.long (0 : Int64))])) _
          refine XS.lstore X164.here hx rfl (hb hby at_98) rfl (l' := #[.val (.int P0), .val (.long P1), .second, .val (.long P2), .second, .val (.int P3), .val (.int P4), .val (.int P0), .val (.int (0 : Int32)), .val (.ref x150_R0), .val (.ref b152), .val (.long ((-P1) - P2)), .second, .val (.long (P1 + P2)), .second, .val (.long (0 : Int64)), .second, .unset, .unset]) rfl ?_
          show Steps p.tables e below (T164.setTop (mkF m 100 #[.val (.int P0), .val (.long P1), .second, .val (.long P2), .second, .val (.int P3), .val (.int P4), .val (.int P0), .val (.int (0 : Int32)), .val (.ref x150_R0), .val (.ref b152), .val (.long ((-P1) - P2)), .second, .val (.long (P1 + P2)), .second, .val (.long (0 : Int64)), .second, .unset, .unset] [])) _
          refine XS.iload X164.here hx rfl (hb hby at_100) rfl ?_
          show Steps p.tables e below (T164.setTop (mkF m 102 #[.val (.int P0), .val (.long P1), .second, .val (.long P2), .second, .val (.int P3), .val (.int P4), .val (.int P0), .val (.int (0 : Int32)), .val (.ref x150_R0), .val (.ref b152), .val (.long ((-P1) - P2)), .second, .val (.long (P1 + P2)), .second, .val (.long (0 : Int64)), .second, .unset, .unset] [(.int (0 : Int32))])) _
          refine XS.ifYes X164.here hx rfl (pc0 := 102) (pc' := 117) rfl (hb hby at_102) rfl ((if0 _ _).trans (teq (show (0 : Int32) = (0 : Int32) from (by decide))).1) (by decide) (by decide) ?_
          show Steps p.tables e below (T164.setTop (mkF m 117 #[.val (.int P0), .val (.long P1), .second, .val (.long P2), .second, .val (.int P3), .val (.int P4), .val (.int P0), .val (.int (0 : Int32)), .val (.ref x150_R0), .val (.ref b152), .val (.long ((-P1) - P2)), .second, .val (.long (P1 + P2)), .second, .val (.long (0 : Int64)), .second, .unset, .unset] [])) _
          refine XS.aload X164.here hx rfl (hb hby at_117) rfl rfl ?_
          show Steps p.tables e below (T164.setTop (mkF m 119 #[.val (.int P0), .val (.long P1), .second, .val (.long P2), .second, .val (.int P3), .val (.int P4), .val (.int P0), .val (.int (0 : Int32)), .val (.ref x150_R0), .val (.ref b152), .val (.long ((-P1) - P2)), .second, .val (.long (P1 + P2)), .second, .val (.long (0 : Int64)), .second, .unset, .unset] [(.ref b152)])) _
          refine st165.trans ?_
          show Steps p.tables e below (T165.setTop (mkF m 122 #[.val (.int P0), .val (.long P1), .second, .val (.long P2), .second, .val (.int P3), .val (.int P4), .val (.int P0), .val (.int (0 : Int32)), .val (.ref x150_R0), .val (.ref b152), .val (.long ((-P1) - P2)), .second, .val (.long (P1 + P2)), .second, .val (.long (0 : Int64)), .second, .unset, .unset] [])) _
          refine XS.lload X165.here hx rfl (hb hby at_122) rfl ?_
          show Steps p.tables e below (T165.setTop (mkF m 124 #[.val (.int P0), .val (.long P1), .second, .val (.long P2), .second, .val (.int P3), .val (.int P4), .val (.int P0), .val (.int (0 : Int32)), .val (.ref x150_R0), .val (.ref b152), .val (.long ((-P1) - P2)), .second, .val (.long (P1 + P2)), .second, .val (.long (0 : Int64)), .second, .unset, .unset] [(.long (P1 + P2))])) _
          refine XS.lload X165.here hx rfl (hb hby at_124) rfl ?_
          show Steps p.tables e below (T165.setTop (mkF m 126 #[.val (.int P0), .val (.long P1), .second, .val (.long P2), .second, .val (.int P3), .val (.int P4), .val (.int P0), .val (.int (0 : Int32)), .val (.ref x150_R0), .val (.ref b152), .val (.long ((-P1) - P2)), .second, .val (.long (P1 + P2)), .second, .val (.long (0 : Int64)), .second, .unset, .unset] [(.long (0 : Int64)), (.long (P1 + P2))])) _
          refine st167 _ ?_
          show Steps p.tables e below (T167.setTop (mkF m 129 #[.val (.int P0), .val (.long P1), .second, .val (.long P2), .second, .val (.int P3), .val (.int P4), .val (.int P0), .val (.int (0 : Int32)), .val (.ref x150_R0), .val (.ref b152), .val (.long ((-P1) - P2)), .second, .val (.long (P1 + P2)), .second, .val (.long (0 : Int64)), .second, .unset, .unset] [(.long (own_min (P1 + P2) (0 : Int64)))])) _
          refine XS.lstore X167.here hx rfl (hb hby at_129) rfl (l' := #[.val (.int P0), .val (.long P1), .second, .val (.long P2), .second, .val (.int P3), .val (.int P4), .val (.int P0), .val (.int (0 : Int32)), .val (.ref x150_R0), .val (.ref b152), .val (.long ((-P1) - P2)), .second, .val (.long (P1 + P2)), .second, .val (.long (0 : Int64)), .second, .val (.long (own_min (P1 + P2) (0 : Int64))), .second]) rfl ?_
          show Steps p.tables e below (T167.setTop (mkF m 131 #[.val (.int P0), .val (.long P1), .second, .val (.long P2), .second, .val (.int P3), .val (.int P4), .val (.int P0), .val (.int (0 : Int32)), .val (.ref x150_R0), .val (.ref b152), .val (.long ((-P1) - P2)), .second, .val (.long (P1 + P2)), .second, .val (.long (0 : Int64)), .second, .val (.long (own_min (P1 + P2) (0 : Int64))), .second] [])) _
          refine XS.aload X167.here hx rfl (hb hby at_131) rfl rfl ?_
          show Steps p.tables e below (T167.setTop (mkF m 133 #[.val (.int P0), .val (.long P1), .second, .val (.long P2), .second, .val (.int P3), .val (.int P4), .val (.int P0), .val (.int (0 : Int32)), .val (.ref x150_R0), .val (.ref b152), .val (.long ((-P1) - P2)), .second, .val (.long (P1 + P2)), .second, .val (.long (0 : Int64)), .second, .val (.long (own_min (P1 + P2) (0 : Int64))), .second] [(.ref b152)])) _
          refine XS.iload X167.here hx rfl (hb hby at_133) rfl ?_
          show Steps p.tables e below (T167.setTop (mkF m 135 #[.val (.int P0), .val (.long P1), .second, .val (.long P2), .second, .val (.int P3), .val (.int P4), .val (.int P0), .val (.int (0 : Int32)), .val (.ref x150_R0), .val (.ref b152), .val (.long ((-P1) - P2)), .second, .val (.long (P1 + P2)), .second, .val (.long (0 : Int64)), .second, .val (.long (own_min (P1 + P2) (0 : Int64))), .second] [(.int P0), (.ref b152)])) _
          refine XS.i2l X167.here hx rfl (hb hby at_135) rfl ?_
          show Steps p.tables e below (T167.setTop (mkF m 136 #[.val (.int P0), .val (.long P1), .second, .val (.long P2), .second, .val (.int P3), .val (.int P4), .val (.int P0), .val (.int (0 : Int32)), .val (.ref x150_R0), .val (.ref b152), .val (.long ((-P1) - P2)), .second, .val (.long (P1 + P2)), .second, .val (.long (0 : Int64)), .second, .val (.long (own_min (P1 + P2) (0 : Int64))), .second] [(.long (P0.toInt64)), (.ref b152)])) _
          refine XS.lload X167.here hx rfl (hb hby at_136) rfl ?_
          show Steps p.tables e below (T167.setTop (mkF m 138 #[.val (.int P0), .val (.long P1), .second, .val (.long P2), .second, .val (.int P3), .val (.int P4), .val (.int P0), .val (.int (0 : Int32)), .val (.ref x150_R0), .val (.ref b152), .val (.long ((-P1) - P2)), .second, .val (.long (P1 + P2)), .second, .val (.long (0 : Int64)), .second, .val (.long (own_min (P1 + P2) (0 : Int64))), .second] [(.long ((-P1) - P2)), (.long (P0.toInt64)), (.ref b152)])) _
          refine XS.lload X167.here hx rfl (hb hby at_138) rfl ?_
          show Steps p.tables e below (T167.setTop (mkF m 140 #[.val (.int P0), .val (.long P1), .second, .val (.long P2), .second, .val (.int P3), .val (.int P4), .val (.int P0), .val (.int (0 : Int32)), .val (.ref x150_R0), .val (.ref b152), .val (.long ((-P1) - P2)), .second, .val (.long (P1 + P2)), .second, .val (.long (0 : Int64)), .second, .val (.long (own_min (P1 + P2) (0 : Int64))), .second] [(.long (own_min (P1 + P2) (0 : Int64))), (.long ((-P1) - P2)), (.long (P0.toInt64)), (.ref b152)])) _
          refine XS.ladd X167.here hx rfl (hb hby at_140) rfl ?_
          show Steps p.tables e below (T167.setTop (mkF m 141 #[.val (.int P0), .val (.long P1), .second, .val (.long P2), .second, .val (.int P3), .val (.int P4), .val (.int P0), .val (.int (0 : Int32)), .val (.ref x150_R0), .val (.ref b152), .val (.long ((-P1) - P2)), .second, .val (.long (P1 + P2)), .second, .val (.long (0 : Int64)), .second, .val (.long (own_min (P1 + P2) (0 : Int64))), .second] [(.long (((-P1) - P2) + (own_min (P1 + P2) (0 : Int64)))), (.long (P0.toInt64)), (.ref b152)])) _
          refine XS.lsub X167.here hx rfl (hb hby at_141) rfl ?_
          show Steps p.tables e below (T167.setTop (mkF m 142 #[.val (.int P0), .val (.long P1), .second, .val (.long P2), .second, .val (.int P3), .val (.int P4), .val (.int P0), .val (.int (0 : Int32)), .val (.ref x150_R0), .val (.ref b152), .val (.long ((-P1) - P2)), .second, .val (.long (P1 + P2)), .second, .val (.long (0 : Int64)), .second, .val (.long (own_min (P1 + P2) (0 : Int64))), .second] [(.long ((P0.toInt64) - (((-P1) - P2) + (own_min (P1 + P2) (0 : Int64))))), (.ref b152)])) _
          refine st168.trans ?_
          show Steps p.tables e below (T168.setTop (mkF m 145 #[.val (.int P0), .val (.long P1), .second, .val (.long P2), .second, .val (.int P3), .val (.int P4), .val (.int P0), .val (.int (0 : Int32)), .val (.ref x150_R0), .val (.ref b152), .val (.long ((-P1) - P2)), .second, .val (.long (P1 + P2)), .second, .val (.long (0 : Int64)), .second, .val (.long (own_min (P1 + P2) (0 : Int64))), .second] [])) _
          refine XS.iconst X168.here hx rfl (hb hby at_145) ?_
          exact kt)
      obtain ⟨fs, hr, hrun, hended, hW, hsame⟩ := X168.leave (v := some (.int (1 : Int32))) (fun h => by rw [Bd.returns] at h; cases h)
      refine ⟨_, _, pre169 _ ?_, hrun, hended, _, _, rfl, ?_, ⟨_, rfl⟩, hW, hsame.mono (by decide) (by decide)⟩
      · show Steps p.tables e below (T168.setTop (mkF m 146 #[.val (.int P0), .val (.long P1), .second, .val (.long P2), .second, .val (.int P3), .val (.int P4), .val (.int P0), .val (.int (0 : Int32)), .val (.ref x150_R0), .val (.ref b152), .val (.long ((-P1) - P2)), .second, .val (.long (P1 + P2)), .second, .val (.long (0 : Int64)), .second, .val (.long (own_min (P1 + P2) (0 : Int64))), .second] [(.int (1 : Int32))])) _
        exact retN X168 hx (t := .boolean) Bd.returns (by simp) (hb hby at_146) hr
      · show Q0 Z P0 P1 P2 P3 P4 U0 h0 n0 _ T168.heap _
        rw [K168]
        exact ⟨rfl, N168⟩
    · obtain ⟨_, _, ⟨T170, L170, k170, n170⟩, -, X170, ⟨Lc170, hQ170, l170, y170, z170⟩, st170⟩ := Jvm.LawKit.callS X0 hx (y := (⟨"java/lang/String", "valueOf", "(C)Ljava/lang/String;"⟩ : MethodName)) hown (mvT hZ (hw _ (List.mem_of_getElem? (i := 1) rfl))) (mvT hZ (hw _ (List.mem_of_getElem? (i := 2) rfl))) (mvT hZ (hw _ (List.mem_of_getElem? (i := 3) rfl))) (mvT hZ (hw _ (List.mem_of_getElem? (i := 4) rfl))) (by decide) (backOf (W := 0) (rm1 l Z a0 hw [] ((P4 &&& (255 : Int32)).toUInt32.toUInt16.toUInt32.toInt32) U0 h0 n0 Z0 pm0 (show ¬ (U0 = (0 : Int32)) from hcs) (show ¬ ((255 : Int32) < ((P4 &&& (255 : Int32)).toUInt32.toUInt16.toUInt32.toInt32)) from (own_le _))) hZ (hw _ (List.mem_of_getElem? (i := 4) rfl)) (hw _ (List.mem_of_getElem? (i := 3) rfl)) (by decide) (by decide)) (g := (mkF m 34 #[.val (.int P0), .val (.long P1), .second, .val (.long P2), .second, .val (.int P3), .val (.int P4), .val (.int P0), .val (.int (1 : Int32)), .unset, .unset, .unset, .unset, .unset, .unset, .unset, .unset, .unset, .unset] [(.int ((P4 &&& (255 : Int32)).toUInt32.toUInt16.toUInt32.toInt32))])) rfl (by rw [hml]; rfl) (argsL := [(.int ((P4 &&& (255 : Int32)).toUInt32.toUInt16.toUInt32.toInt32))]) (rest := []) (lenOf pd_0_0 rfl) rfl (by show 2 * 0 + _ ≤ _; exact Nat.le_of_eq rfl) (hb hby at_34) (fun _ _ => ⟨rfl, e0, (by decide : 0 + 2 ≤ _), (by decide : 0 + 5 ≤ _)⟩)
      dsimp only [Pt.U, Pt.locs, Pt.cells, Pt.slots] at X170 l170 y170 z170 st170 hQ170
      subst l170 y170 z170
      obtain ⟨x170_R0, x170_R1, x170_K0, x170_XV0, rfl, N170q, K170, lb170_0, lb170_1, p170_0, p170_1, p170_2, p170_3⟩ := hQ170
      have N170 := Fr.app N0 N170q
      have g_x170_R0 : n0 ≤ x170_R0 := Nat.le_trans Z0 lb170_0
      have g_x170_R1 : n0 ≤ x170_R1 := Nat.le_trans Z0 lb170_1
      have Z171 : n0 ≤ T170.heap.size := Nat.le_trans Z0 K170.1
      have ss170_0 : Sta Z T170.heap "java/lang/String" "COMPACT_STRINGS" "Z" (.int U0) := own_sta_keep pm0 K170 all0
      obtain ⟨T172, h172, X172, e172, E172, A172, D172, -, st172⟩ := newO X170 hx hZ hown (hw _ (List.mem_of_getElem? (i := 27) rfl)) (hw _ (List.mem_of_getElem? (i := 28) rfl)) (hw _ (List.mem_of_getElem? (i := 29) rfl)) rfl (g := (mkF m 39 #[.val (.int P0), .val (.long P1), .second, .val (.long P2), .second, .val (.int P3), .val (.int P4), .val (.int P0), .val (.int (1 : Int32)), .val (.ref x170_R0), .unset, .unset, .unset, .unset, .unset, .unset, .unset, .unset, .unset] [])) rfl (hb hby at_39) (by decide) (by decide)
      obtain ⟨b172, q172⟩ : ∃ z, z = T170.heap.size := ⟨_, rfl⟩
      rw [← q172] at A172 D172 st172
      have ne173 : x170_R0 ≠ b172 := Nat.ne_of_lt (Nat.lt_of_lt_of_le p170_0.lt (Nat.le_of_eq q172.symm))
      have ne174 : x170_R1 ≠ b172 := Nat.ne_of_lt (Nat.lt_of_lt_of_le p170_3.lt (Nat.le_of_eq q172.symm))
      have g_b172 : n0 ≤ b172 := Nat.le_trans Z171 (Nat.le_of_eq q172.symm)
      have Z175 : n0 ≤ h172.size := Nat.le_trans Z171 E172.1
      have F172_35 : Fld Z h172 b172 "com/example/terseform/terseform/datatypes/HeldCharacters" "limit" "I" (.int (0 : Int32)) := D172 (Or.inr (hw _ (List.mem_of_getElem? (i := 35) rfl))) (ty := .int) (by decide)
      have F172_37 : Fld Z h172 b172 "com/example/terseform/terseform/datatypes/HeldCharacters" "nameLimit" "I" (.int (0 : Int32)) := D172 (Or.inr (hw _ (List.mem_of_getElem? (i := 37) rfl))) (ty := .int) (by decide)
      have F172_44 : Fld Z h172 b172 "com/example/terseform/terseform/datatypes/HeldCharacters" "kept" "J" (.long (0 : Int64)) := D172 (Or.inl (hw _ (List.mem_of_getElem? (i := 44) rfl))) (ty := .long) (by decide)
      have F172_46 : Fld Z h172 b172 "com/example/terseform/terseform/datatypes/HeldCharacters" "held" "J" (.long (0 : Int64)) := D172 (Or.inl (hw _ (List.mem_of_getElem? (i := 46) rfl))) (ty := .long) (by decide)
      have F172_54 : Fld Z h172 b172 "com/example/terseform/terseform/datatypes/HeldCharacters" "reading" "J" (.long (0 : Int64)) := D172 (Or.inl (hw _ (List.mem_of_getElem? (i := 54) rfl))) (ty := .long) (by decide)
      have F172_61 : Fld Z h172 b172 "com/example/terseform/terseform/datatypes/HeldCharacters" "given" "J" (.long (0 : Int64)) := D172 (Or.inl (hw _ (List.mem_of_getElem? (i := 61) rfl))) (ty := .long) (by decide)
      have c176 : Sta Z h172 "java/lang/String" "COMPACT_STRINGS" "Z" (.int U0) := (ss170_0.ext E172)
      obtain ⟨_, _, ⟨T177, L177, k177, n177⟩, -, X177, ⟨Lc177, hQ177, l177, y177, z177⟩, st177⟩ := X172.specialBack hx (y := (⟨"com/example/terseform/terseform/datatypes/HeldCharacters", "<init>", "(II)V"⟩ : MethodName)) rfl hown (mvT hZ (hw _ (List.mem_of_getElem? (i := 30) rfl))) (mvT hZ (hw _ (List.mem_of_getElem? (i := 31) rfl))) (mvT hZ (hw _ (List.mem_of_getElem? (i := 32) rfl))) (by decide) (backOf (W := 1) (rm6 l Z a0 hw [] b172 P0 (2147483647 : Int32) (0 : Int32) (0 : Int32) (0 : Int64) (0 : Int64) (0 : Int64) (0 : Int64) h172 n0 Z175 F172_35 F172_37 F172_44 F172_46 F172_54 F172_61 A172 g_b172) hZ (hw _ (List.mem_of_getElem? (i := 32) rfl)) (hw _ (List.mem_of_getElem? (i := 29) rfl)) (by decide) (by decide)) (g := (mkF m 47 #[.val (.int P0), .val (.long P1), .second, .val (.long P2), .second, .val (.int P3), .val (.int P4), .val (.int P0), .val (.int (1 : Int32)), .val (.ref x170_R0), .unset, .unset, .unset, .unset, .unset, .unset, .unset, .unset, .unset] [(.int (2147483647 : Int32)), (.int P0), (.ref b172), (.ref b172)])) rfl (by rw [hml]; rfl) (Steps.refl _) (a := b172) (argsL := [(.int P0), (.int (2147483647 : Int32))]) (rest := [(.ref b172)]) (lenOf pd_0_1 rfl) rfl (by show 2 * 0 + _ ≤ _; exact Nat.le_of_eq rfl) (hb hby at_47) (fun _ _ => ⟨rfl, e172, (by decide : 3 + 0 ≤ _), (by decide : 12 + 0 ≤ _)⟩)
      dsimp only [Pt.U, Pt.locs, Pt.cells, Pt.slots] at X177 l177 y177 z177 st177 hQ177
      subst l177 y177 z177
      obtain ⟨rfl, N177q, K177, p177_0, p177_1, p177_2, p177_3, p177_4, p177_5, p177_6⟩ := hQ177
      have N177 := Fr.app N170 N177q
      have Z178 : n0 ≤ T177.heap.size := Nat.le_trans Z175 K177.1
      have ss177_0 : Sta Z T177.heap "java/lang/String" "COMPACT_STRINGS" "Z" (.int U0) := own_sta_keep c176 K177 (allS (own_ns A172) all0)
      obtain ⟨cq179, kq179, q179a, q179b, q179c⟩ := isOf hZ rfl p177_0
      obtain ⟨_, _, ⟨T179, L179, k179, n179⟩, -, X179, ⟨Lc179, hQ179, l179, y179, z179⟩, st179⟩ := X177.virtualBack hx (y := (⟨"com/example/terseform/terseform/datatypes/HeldCharacters", "letGo", "(J)V"⟩ : MethodName)) (z := (⟨"com/example/terseform/terseform/datatypes/HeldCharacters", "letGo", "(J)V"⟩ : MethodName)) hown (mvT hZ (hw _ (List.mem_of_getElem? (i := 38) rfl))) (mvT hZ (hw _ (List.mem_of_getElem? (i := 39) rfl))) (notFace_of_selects (args := #[]) (mvT hZ (hw _ (List.mem_of_getElem? (i := 41) rfl)))) (mvT hZ (hw _ (List.mem_of_getElem? (i := 41) rfl))) (mvT hZ (hw _ (List.mem_of_getElem? (i := 40) rfl))) (by decide) (backOf (W := 0) (rm7 l Z a0 hw [] b172 P1 P0 (2147483647 : Int32) (0 : Int64) (0 : Int64) (0 : Int64) (0 : Int64) T177.heap n0 Z178 p177_1 p177_2 p177_3 p177_4 p177_5 p177_6 p177_0 g_b172) hZ (hw _ (List.mem_of_getElem? (i := 42) rfl)) (hw _ (List.mem_of_getElem? (i := 29) rfl)) (by decide) (by decide)) q179a q179c (g := (mkF m 55 #[.val (.int P0), .val (.long P1), .second, .val (.long P2), .second, .val (.int P3), .val (.int P4), .val (.int P0), .val (.int (1 : Int32)), .val (.ref x170_R0), .val (.ref b172), .unset, .unset, .unset, .unset, .unset, .unset, .unset, .unset] [(.long P1), (.ref b172)])) rfl (by rw [hml]; rfl) (Steps.refl _) (argsL := [(.long P1)]) (rest := []) (lenOf pd_0_2 rfl) rfl (by show 2 * 0 + _ ≤ _; exact Nat.le_of_eq rfl) (hb hby at_55) (fun _ _ => ⟨rfl, rfl, (by decide : 3 + 0 ≤ _), (by decide : 12 + 0 ≤ _)⟩)
      dsimp only [Pt.U, Pt.locs, Pt.cells, Pt.slots] at X179 l179 y179 z179 st179 hQ179
      subst l179 y179 z179
      obtain ⟨rfl, N179q, K179, p179_0, p179_1, p179_2, p179_3, p179_4, p179_5, p179_6⟩ := hQ179
      have N179 := Fr.app N177 N179q
      have Z180 : n0 ≤ T179.heap.size := Nat.le_trans Z178 K179.1
      have ss179_0 : Sta Z T179.heap "java/lang/String" "COMPACT_STRINGS" "Z" (.int U0) := own_sta_keep ss177_0 K179 (allS (own_ns p177_0) all0)
      obtain ⟨cq181, kq181, q181a, q181b, q181c⟩ := isOf hZ rfl p179_0
      obtain ⟨_, _, ⟨T181, L181, k181, n181⟩, -, X181, ⟨Lc181, hQ181, l181, y181, z181⟩, st181⟩ := X179.virtualBack hx (y := (⟨"com/example/terseform/terseform/datatypes/HeldCharacters", "checkRoom", "(J)V"⟩ : MethodName)) (z := (⟨"com/example/terseform/terseform/datatypes/HeldCharacters", "checkRoom", "(J)V"⟩ : MethodName)) hown (mvT hZ (hw _ (List.mem_of_getElem? (i := 47) rfl))) (mvT hZ (hw _ (List.mem_of_getElem? (i := 48) rfl))) (notFace_of_selects (args := #[]) (mvT hZ (hw _ (List.mem_of_getElem? (i := 50) rfl)))) (mvT hZ (hw _ (List.mem_of_getElem? (i := 50) rfl))) (mvT hZ (hw _ (List.mem_of_getElem? (i := 49) rfl))) (by decide) (backOf (W := 0) (rm8 l Z a0 hw [] b172 (P0.toInt64) P0 ((0 : Int64) - P1) ((0 : Int64) + P1) (0 : Int64) T179.heap n0 Z180 p179_1 p179_3 p179_4 p179_5 (show ¬ ((P0.toInt64) < (((((0 : Int64) - P1) + ((0 : Int64) + P1)) + (0 : Int64)) + (P0.toInt64))) from (own_irr _ _ (own_r1 _ _)))) hZ (hw _ (List.mem_of_getElem? (i := 51) rfl)) (hw _ (List.mem_of_getElem? (i := 29) rfl)) (by decide) (by decide)) q181a q181c (g := (mkF m 63 #[.val (.int P0), .val (.long P1), .second, .val (.long P2), .second, .val (.int P3), .val (.int P4), .val (.int P0), .val (.int (1 : Int32)), .val (.ref x170_R0), .val (.ref b172), .unset, .unset, .unset, .unset, .unset, .unset, .unset, .unset] [(.long (P0.toInt64)), (.ref b172)])) rfl (by rw [hml]; rfl) (Steps.refl _) (argsL := [(.long (P0.toInt64))]) (rest := []) (lenOf pd_0_2 rfl) rfl (by show 2 * 0 + _ ≤ _; exact Nat.le_of_eq rfl) (hb hby at_63) (fun _ _ => ⟨rfl, rfl, (by decide : 3 + 0 ≤ _), (by decide : 12 + 0 ≤ _)⟩)
      dsimp only [Pt.U, Pt.locs, Pt.cells, Pt.slots] at X181 l181 y181 z181 st181 hQ181
      subst l181 y181 z181
      obtain ⟨rfl, N181q, K181⟩ := hQ181
      have N181 := Fr.app N179 N181q
      obtain ⟨cq182, kq182, q182a, q182b, q182c⟩ := isOf hZ K181 p179_0
      obtain ⟨_, _, ⟨T182, L182, k182, n182⟩, -, X182, ⟨Lc182, hQ182, l182, y182, z182⟩, st182⟩ := X181.virtualBack hx (y := (⟨"com/example/terseform/terseform/datatypes/HeldCharacters", "letGo", "(J)V"⟩ : MethodName)) (z := (⟨"com/example/terseform/terseform/datatypes/HeldCharacters", "letGo", "(J)V"⟩ : MethodName)) hown (mvT hZ (hw _ (List.mem_of_getElem? (i := 38) rfl))) (mvT hZ (hw _ (List.mem_of_getElem? (i := 39) rfl))) (notFace_of_selects (args := #[]) (mvT hZ (hw _ (List.mem_of_getElem? (i := 41) rfl)))) (mvT hZ (hw _ (List.mem_of_getElem? (i := 41) rfl))) (mvT hZ (hw _ (List.mem_of_getElem? (i := 40) rfl))) (by decide) (backOf (W := 0) (rm7 l Z a0 hw [] b172 P2 P0 (2147483647 : Int32) ((0 : Int64) - P1) ((0 : Int64) + P1) (0 : Int64) (0 : Int64) T179.heap n0 Z180 p179_1 p179_2 p179_3 p179_4 p179_5 p179_6 p179_0 g_b172) hZ (hw _ (List.mem_of_getElem? (i := 42) rfl)) (hw _ (List.mem_of_getElem? (i := 29) rfl)) (by decide) (by decide)) q182a q182c (g := (mkF m 69 #[.val (.int P0), .val (.long P1), .second, .val (.long P2), .second, .val (.int P3), .val (.int P4), .val (.int P0), .val (.int (1 : Int32)), .val (.ref x170_R0), .val (.ref b172), .unset, .unset, .unset, .unset, .unset, .unset, .unset, .unset] [(.long P2), (.ref b172)])) rfl (by rw [hml]; rfl) (Steps.refl _) (argsL := [(.long P2)]) (rest := []) (lenOf pd_0_2 rfl) rfl (by show 2 * 0 + _ ≤ _; exact Nat.le_of_eq rfl) (hb hby at_69) (fun _ _ => ⟨rfl, K181, (by decide : 3 + 0 ≤ _), (by decide : 12 + 0 ≤ _)⟩)
      dsimp only [Pt.U, Pt.locs, Pt.cells, Pt.slots] at X182 l182 y182 z182 st182 hQ182
      subst l182 y182 z182
      obtain ⟨rfl, N182q, K182, p182_0, p182_1, p182_2, p182_3, p182_4, p182_5, p182_6⟩ := hQ182
      have N182 := Fr.app N181 N182q
      have Z183 : n0 ≤ T182.heap.size := Nat.le_trans Z180 K182.1
      have ss182_0 : Sta Z T182.heap "java/lang/String" "COMPACT_STRINGS" "Z" (.int U0) := own_sta_keep ss179_0 K182 (allS (own_ns p179_0) all0)
      obtain ⟨cq184, kq184, q184a, q184b, q184c⟩ := isOf hZ rfl p182_0
      obtain ⟨_, _, ⟨T184, L184, k184, n184⟩, -, X184, ⟨Lc184, hQ184, l184, y184, z184⟩, st184⟩ := X182.virtualBack hx (y := (⟨"com/example/terseform/terseform/datatypes/HeldCharacters", "checkRoom", "(J)V"⟩ : MethodName)) (z := (⟨"com/example/terseform/terseform/datatypes/HeldCharacters", "checkRoom", "(J)V"⟩ : MethodName)) hown (mvT hZ (hw _ (List.mem_of_getElem? (i := 47) rfl))) (mvT hZ (hw _ (List.mem_of_getElem? (i := 48) rfl))) (notFace_of_selects (args := #[]) (mvT hZ (hw _ (List.mem_of_getElem? (i := 50) rfl)))) (mvT hZ (hw _ (List.mem_of_getElem? (i := 50) rfl))) (mvT hZ (hw _ (List.mem_of_getElem? (i := 49) rfl))) (by decide) (backOf (W := 0) (rm8 l Z a0 hw [] b172 ((P0.toInt64) - (((-P1) - P2) + (P1 + P2))) P0 (((0 : Int64) - P1) - P2) (((0 : Int64) + P1) + P2) (0 : Int64) T182.heap n0 Z183 p182_1 p182_3 p182_4 p182_5 (show ¬ ((P0.toInt64) < ((((((0 : Int64) - P1) - P2) + (((0 : Int64) + P1) + P2)) + (0 : Int64)) + ((P0.toInt64) - (((-P1) - P2) + (P1 + P2))))) from (own_irr _ _ (own_r2 _ _ _)))) hZ (hw _ (List.mem_of_getElem? (i := 51) rfl)) (hw _ (List.mem_of_getElem? (i := 29) rfl)) (by decide) (by decide)) q184a q184c (g := (mkF m 94 #[.val (.int P0), .val (.long P1), .second, .val (.long P2), .second, .val (.int P3), .val (.int P4), .val (.int P0), .val (.int (1 : Int32)), .val (.ref x170_R0), .val (.ref b172), .val (.long ((-P1) - P2)), .second, .val (.long (P1 + P2)), .second, .unset, .unset, .unset, .unset] [(.long ((P0.toInt64) - (((-P1) - P2) + (P1 + P2)))), (.ref b172)])) rfl (by rw [hml]; rfl) (Steps.refl _) (argsL := [(.long ((P0.toInt64) - (((-P1) - P2) + (P1 + P2))))]) (rest := []) (lenOf pd_0_2 rfl) rfl (by show 2 * 0 + _ ≤ _; exact Nat.le_of_eq rfl) (hb hby at_94) (fun _ _ => ⟨rfl, rfl, (by decide : 3 + 0 ≤ _), (by decide : 12 + 0 ≤ _)⟩)
      dsimp only [Pt.U, Pt.locs, Pt.cells, Pt.slots] at X184 l184 y184 z184 st184 hQ184
      subst l184 y184 z184
      obtain ⟨rfl, N184q, K184⟩ := hQ184
      have N184 := Fr.app N182 N184q
      have c185 : Exa Z T182.heap x170_R0 "java/lang/String" := ((((p170_0.ext E172).keep K177).keep K179).keep K182)
      have c186 : Fld Z T182.heap x170_R0 "java/lang/String" "value" "[B" (.ref x170_R1) := ((((p170_1.ext E172).keep K177 (ninS ne173 nin0)).keep K179 (ninS ne173 nin0)).keep K182 (ninS ne173 nin0))
      have c187 : Fld Z T182.heap x170_R0 "java/lang/String" "coder" "B" (.int (0 : Int32)) := ((((p170_2.ext E172).keep K177 (ninS ne173 nin0)).keep K179 (ninS ne173 nin0)).keep K182 (ninS ne173 nin0))
      have c188 : Arv Z T182.heap x170_R1 x170_K0 .byte (1 : Int32) [(.int x170_XV0)] (.int (0 : Int32)) := ((((p170_3.ext E172).keep K177 (ninS ne174 nin0)).keep K179 (ninS ne174 nin0)).keep K182 (ninS ne174 nin0))
      obtain ⟨cq189, kq189, q189a, q189b, q189c⟩ := isOf hZ K184 p182_0
      obtain ⟨_, _, ⟨T189, L189, k189, n189⟩, -, X189, ⟨Lc189, hQ189, l189, y189, z189⟩, st189⟩ := X184.virtualBack hx (y := (⟨"com/example/terseform/terseform/datatypes/HeldCharacters", "holdGiven", "(Ljava/lang/String;)V"⟩ : MethodName)) (z := (⟨"com/example/terseform/terseform/datatypes/HeldCharacters", "holdGiven", "(Ljava/lang/String;)V"⟩ : MethodName)) hown (mvT hZ (hw _ (List.mem_of_getElem? (i := 67) rfl))) (mvT hZ (hw _ (List.mem_of_getElem? (i := 68) rfl))) (notFace_of_selects (args := #[]) (mvT hZ (hw _ (List.mem_of_getElem? (i := 70) rfl)))) (mvT hZ (hw _ (List.mem_of_getElem? (i := 70) rfl))) (mvT hZ (hw _ (List.mem_of_getElem? (i := 69) rfl))) (by decide) (backOf (W := 0) (rm11 l Z a0 hw [] b172 x170_R0 P0 (2147483647 : Int32) (((0 : Int64) - P1) - P2) (((0 : Int64) + P1) + P2) (0 : Int64) (0 : Int64) x170_R1 x170_K0 x170_XV0 U0 T182.heap n0 Z183 p182_1 p182_2 p182_3 p182_4 p182_5 p182_6 p182_0 c185 c186 c187 c188 ss182_0 (show ¬ (U0 = (0 : Int32)) from hcs) (show x170_R0 ≠ b172 from ne173) (show x170_R1 ≠ b172 from ne174) g_b172) hZ (hw _ (List.mem_of_getElem? (i := 71) rfl)) (hw _ (List.mem_of_getElem? (i := 29) rfl)) (by decide) (by decide)) q189a q189c (g := (mkF m 109 #[.val (.int P0), .val (.long P1), .second, .val (.long P2), .second, .val (.int P3), .val (.int P4), .val (.int P0), .val (.int (1 : Int32)), .val (.ref x170_R0), .val (.ref b172), .val (.long ((-P1) - P2)), .second, .val (.long (P1 + P2)), .second, .val (.long (0 : Int64)), .second, .unset, .unset] [(.ref x170_R0), (.ref b172)])) rfl (by rw [hml]; rfl) (Steps.refl _) (argsL := [(.ref x170_R0)]) (rest := []) (lenOf pd_0_5 rfl) rfl (by show 2 * 0 + _ ≤ _; exact Nat.le_of_eq rfl) (hb hby at_109) (fun _ _ => ⟨rfl, K184, (by decide : 3 + 0 ≤ _), (by decide : 12 + 0 ≤ _)⟩)
      dsimp only [Pt.U, Pt.locs, Pt.cells, Pt.slots] at X189 l189 y189 z189 st189 hQ189
      subst l189 y189 z189
      obtain ⟨rfl, N189q, K189, p189_0, p189_1, p189_2, p189_3, p189_4, p189_5, p189_6⟩ := hQ189
      have N189 := Fr.app N184 N189q
      have Z190 : n0 ≤ T189.heap.size := Nat.le_trans Z183 K189.1
      have ss189_0 : Sta Z T189.heap "java/lang/String" "COMPACT_STRINGS" "Z" (.int U0) := own_sta_keep ss182_0 K189 (allS (own_ns p182_0) all0)
      obtain ⟨cq191, kq191, q191a, q191b, q191c⟩ := isOf hZ rfl p189_0
      obtain ⟨_, _, ⟨T191, L191, k191, n191⟩, -, X191, ⟨Lc191, hQ191, l191, y191, z191⟩, st191⟩ := X189.virtualBack hx (y := (⟨"com/example/terseform/terseform/datatypes/HeldCharacters", "release", "()V"⟩ : MethodName)) (z := (⟨"com/example/terseform/terseform/datatypes/HeldCharacters", "release", "()V"⟩ : MethodName)) hown (mvT hZ (hw _ (List.mem_of_getElem? (i := 55) rfl))) (mvT hZ (hw _ (List.mem_of_getElem? (i := 56) rfl))) (notFace_of_selects (args := #[]) (mvT hZ (hw _ (List.mem_of_getElem? (i := 58) rfl)))) (mvT hZ (hw _ (List.mem_of_getElem? (i := 58) rfl))) (mvT hZ (hw _ (List.mem_of_getElem? (i := 57) rfl))) (by decide) (backOf (W := 0) (rm9 l Z a0 hw [] b172 P0 (2147483647 : Int32) (((0 : Int64) - P1) - P2) (((0 : Int64) + P1) + P2) (0 : Int64) ((0 : Int64) + (33 : Int64)) T189.heap n0 Z190 p189_1 p189_2 p189_3 p189_4 p189_5 p189_6 p189_0 g_b172) hZ (hw _ (List.mem_of_getElem? (i := 59) rfl)) (hw _ (List.mem_of_getElem? (i := 29) rfl)) (by decide) (by decide)) q191a q191c (g := (mkF m 119 #[.val (.int P0), .val (.long P1), .second, .val (.long P2), .second, .val (.int P3), .val (.int P4), .val (.int P0), .val (.int (1 : Int32)), .val (.ref x170_R0), .val (.ref b172), .val (.long ((-P1) - P2)), .second, .val (.long (P1 + P2)), .second, .val (.long (33 : Int64)), .second, .unset, .unset] [(.ref b172)])) rfl (by rw [hml]; rfl) (Steps.refl _) (argsL := []) (rest := []) (lenOf pd_0_3 rfl) rfl (by show 2 * 0 + _ ≤ _; exact Nat.le_of_eq rfl) (hb hby at_119) (fun _ _ => ⟨rfl, rfl, (by decide : 3 + 0 ≤ _), (by decide : 12 + 0 ≤ _)⟩)
      dsimp only [Pt.U, Pt.locs, Pt.cells, Pt.slots] at X191 l191 y191 z191 st191 hQ191
      subst l191 y191 z191
      obtain ⟨rfl, N191q, K191, p191_0, p191_1, p191_2, p191_3, p191_4, p191_5, p191_6⟩ := hQ191
      have N191 := Fr.app N189 N191q
      have Z192 : n0 ≤ T191.heap.size := Nat.le_trans Z190 K191.1
      have ss191_0 : Sta Z T191.heap "java/lang/String" "COMPACT_STRINGS" "Z" (.int U0) := own_sta_keep ss189_0 K191 (allS (own_ns p189_0) all0)
      obtain ⟨_, _, ⟨T193, L193, k193, n193⟩, -, X193, ⟨Lc193, hQ193, l193, y193, z193⟩, st193⟩ := Jvm.LawKit.callS X191 hx (y := (⟨"java/lang/Math", "min", "(JJ)J"⟩ : MethodName)) hown (mvT hZ (hw _ (List.mem_of_getElem? (i := 66) rfl))) (mvT hZ (hw _ (List.mem_of_getElem? (i := 63) rfl))) (mvT hZ (hw _ (List.mem_of_getElem? (i := 64) rfl))) (mvT hZ (hw _ (List.mem_of_getElem? (i := 65) rfl))) (by decide) (backOf (W := 0) (rm10 l Z a0 hw [] (P1 + P2) (33 : Int64) T191.heap n0 Z192 ) hZ (hw _ (List.mem_of_getElem? (i := 65) rfl)) (hw _ (List.mem_of_getElem? (i := 64) rfl)) (by decide) (by decide)) (g := (mkF m 126 #[.val (.int P0), .val (.long P1), .second, .val (.long P2), .second, .val (.int P3), .val (.int P4), .val (.int P0), .val (.int (1 : Int32)), .val (.ref x170_R0), .val (.ref b172), .val (.long ((-P1) - P2)), .second, .val (.long (P1 + P2)), .second, .val (.long (33 : Int64)), .second, .unset, .unset] [(.long (33 : Int64)), (.long (P1 + P2))])) rfl (by rw [hml]; rfl) (argsL := [(.long (P1 + P2)), (.long (33 : Int64))]) (rest := []) (lenOf pd_0_4 rfl) rfl (by show 2 * 0 + _ ≤ _; exact Nat.le_of_eq rfl) (hb hby at_126) (fun _ _ => ⟨rfl, rfl, (by decide : 3 + 0 ≤ _), (by decide : 12 + 0 ≤ _)⟩)
      dsimp only [Pt.U, Pt.locs, Pt.cells, Pt.slots] at X193 l193 y193 z193 st193 hQ193
      subst l193 y193 z193
      obtain ⟨rfl, N193q, K193⟩ := hQ193
      have N193 := Fr.app N191 N193q
      obtain ⟨cq194, kq194, q194a, q194b, q194c⟩ := isOf hZ K193 p191_0
      obtain ⟨_, _, ⟨T194, L194, k194, n194⟩, -, X194, ⟨Lc194, hQ194, l194, y194, z194⟩, st194⟩ := X193.virtualBack hx (y := (⟨"com/example/terseform/terseform/datatypes/HeldCharacters", "checkRoom", "(J)V"⟩ : MethodName)) (z := (⟨"com/example/terseform/terseform/datatypes/HeldCharacters", "checkRoom", "(J)V"⟩ : MethodName)) hown (mvT hZ (hw _ (List.mem_of_getElem? (i := 47) rfl))) (mvT hZ (hw _ (List.mem_of_getElem? (i := 48) rfl))) (notFace_of_selects (args := #[]) (mvT hZ (hw _ (List.mem_of_getElem? (i := 50) rfl)))) (mvT hZ (hw _ (List.mem_of_getElem? (i := 50) rfl))) (mvT hZ (hw _ (List.mem_of_getElem? (i := 49) rfl))) (by decide) (backOf (W := 0) (rm8 l Z a0 hw [] b172 ((P0.toInt64) - (((-P1) - P2) + (own_min (P1 + P2) (33 : Int64)))) P0 (((0 : Int64) - P1) - P2) (own_min (((0 : Int64) + P1) + P2) ((0 : Int64) + (33 : Int64))) (0 : Int64) T191.heap n0 Z192 p191_1 p191_3 p191_4 p191_5 (show ¬ ((P0.toInt64) < ((((((0 : Int64) - P1) - P2) + (own_min (((0 : Int64) + P1) + P2) ((0 : Int64) + (33 : Int64)))) + (0 : Int64)) + ((P0.toInt64) - (((-P1) - P2) + (own_min (P1 + P2) (33 : Int64)))))) from (own_irr _ _ (by rw [own_m0, own_g33]; exact own_r3 _ _ _ _)))) hZ (hw _ (List.mem_of_getElem? (i := 51) rfl)) (hw _ (List.mem_of_getElem? (i := 29) rfl)) (by decide) (by decide)) q194a q194c (g := (mkF m 142 #[.val (.int P0), .val (.long P1), .second, .val (.long P2), .second, .val (.int P3), .val (.int P4), .val (.int P0), .val (.int (1 : Int32)), .val (.ref x170_R0), .val (.ref b172), .val (.long ((-P1) - P2)), .second, .val (.long (P1 + P2)), .second, .val (.long (33 : Int64)), .second, .val (.long (own_min (P1 + P2) (33 : Int64))), .second] [(.long ((P0.toInt64) - (((-P1) - P2) + (own_min (P1 + P2) (33 : Int64))))), (.ref b172)])) rfl (by rw [hml]; rfl) (Steps.refl _) (argsL := [(.long ((P0.toInt64) - (((-P1) - P2) + (own_min (P1 + P2) (33 : Int64)))))]) (rest := []) (lenOf pd_0_2 rfl) rfl (by show 2 * 0 + _ ≤ _; exact Nat.le_of_eq rfl) (hb hby at_142) (fun _ _ => ⟨rfl, K193, (by decide : 3 + 0 ≤ _), (by decide : 12 + 0 ≤ _)⟩)
      dsimp only [Pt.U, Pt.locs, Pt.cells, Pt.slots] at X194 l194 y194 z194 st194 hQ194
      subst l194 y194 z194
      obtain ⟨rfl, N194q, K194⟩ := hQ194
      have N194 := Fr.app N193 N194q
      have pre195 : ∀ t, Steps p.tables e below (T194.setTop (mkF m 146 #[.val (.int P0), .val (.long P1), .second, .val (.long P2), .second, .val (.int P3), .val (.int P4), .val (.int P0), .val (.int (1 : Int32)), .val (.ref x170_R0), .val (.ref b172), .val (.long ((-P1) - P2)), .second, .val (.long (P1 + P2)), .second, .val (.long (33 : Int64)), .second, .val (.long (own_min (P1 + P2) (33 : Int64))), .second] [(.int (1 : Int32))])) t → Steps p.tables e below (s₁.setTop (entryFrame m #[(.int P0), (.long P1), (.long P2), (.int P3), (.int P4)] maxLocals)) t := fun t kt => pre149 t (by
          show Steps p.tables e below (s₁.setTop (mkF m 17 #[.val (.int P0), .val (.long P1), .second, .val (.long P2), .second, .val (.int P3), .val (.int P4), .val (.int P0), .unset, .unset, .unset, .unset, .unset, .unset, .unset, .unset, .unset, .unset, .unset] [(.int (P3 &&& (1 : Int32)))])) _
          refine XS.ifNo X0.here hx rfl (hb hby at_17) rfl ((if0 _ _).trans (feq hc17).1) ?_
          show Steps p.tables e below (s₁.setTop (mkF m 20 #[.val (.int P0), .val (.long P1), .second, .val (.long P2), .second, .val (.int P3), .val (.int P4), .val (.int P0), .unset, .unset, .unset, .unset, .unset, .unset, .unset, .unset, .unset, .unset, .unset] [])) _
          refine XS.iconst X0.here hx rfl (hb hby at_20) ?_
          show Steps p.tables e below (s₁.setTop (mkF m 21 #[.val (.int P0), .val (.long P1), .second, .val (.long P2), .second, .val (.int P3), .val (.int P4), .val (.int P0), .unset, .unset, .unset, .unset, .unset, .unset, .unset, .unset, .unset, .unset, .unset] [(.int (1 : Int32))])) _
          refine XS.goto X0.here hx rfl (pc0 := 21) (pc' := 25) rfl (hb hby at_21) (by decide) (by decide) ?_
          show Steps p.tables e below (s₁.setTop (mkF m 25 #[.val (.int P0), .val (.long P1), .second, .val (.long P2), .second, .val (.int P3), .val (.int P4), .val (.int P0), .unset, .unset, .unset, .unset, .unset, .unset, .unset, .unset, .unset, .unset, .unset] [(.int (1 : Int32))])) _
          refine XS.istore X0.here hx rfl (hb hby at_25) rfl (l' := #[.val (.int P0), .val (.long P1), .second, .val (.long P2), .second, .val (.int P3), .val (.int P4), .val (.int P0), .val (.int (1 : Int32)), .unset, .unset, .unset, .unset, .unset, .unset, .unset, .unset, .unset, .unset]) rfl ?_
          show Steps p.tables e below (s₁.setTop (mkF m 27 #[.val (.int P0), .val (.long P1), .second, .val (.long P2), .second, .val (.int P3), .val (.int P4), .val (.int P0), .val (.int (1 : Int32)), .unset, .unset, .unset, .unset, .unset, .unset, .unset, .unset, .unset, .unset] [])) _
          refine XS.iload X0.here hx rfl (hb hby at_27) rfl ?_
          show Steps p.tables e below (s₁.setTop (mkF m 29 #[.val (.int P0), .val (.long P1), .second, .val (.long P2), .second, .val (.int P3), .val (.int P4), .val (.int P0), .val (.int (1 : Int32)), .unset, .unset, .unset, .unset, .unset, .unset, .unset, .unset, .unset, .unset] [(.int P4)])) _
          refine XS.sipush X0.here hx rfl (hb hby at_29) ?_
          show Steps p.tables e below (s₁.setTop (mkF m 32 #[.val (.int P0), .val (.long P1), .second, .val (.long P2), .second, .val (.int P3), .val (.int P4), .val (.int P0), .val (.int (1 : Int32)), .unset, .unset, .unset, .unset, .unset, .unset, .unset, .unset, .unset, .unset] [(.int (255 : Int32)), (.int P4)])) _
          refine XS.iand X0.here hx rfl (hb hby at_32) rfl ?_
          show Steps p.tables e below (s₁.setTop (mkF m 33 #[.val (.int P0), .val (.long P1), .second, .val (.long P2), .second, .val (.int P3), .val (.int P4), .val (.int P0), .val (.int (1 : Int32)), .unset, .unset, .unset, .unset, .unset, .unset, .unset, .unset, .unset, .unset] [(.int (P4 &&& (255 : Int32)))])) _
          refine XS.i2c X0.here hx rfl (hb hby at_33) rfl ?_
          show Steps p.tables e below (s₁.setTop (mkF m 34 #[.val (.int P0), .val (.long P1), .second, .val (.long P2), .second, .val (.int P3), .val (.int P4), .val (.int P0), .val (.int (1 : Int32)), .unset, .unset, .unset, .unset, .unset, .unset, .unset, .unset, .unset, .unset] [(.int ((P4 &&& (255 : Int32)).toUInt32.toUInt16.toUInt32.toInt32))])) _
          refine st170 _ ?_
          show Steps p.tables e below (T170.setTop (mkF m 37 #[.val (.int P0), .val (.long P1), .second, .val (.long P2), .second, .val (.int P3), .val (.int P4), .val (.int P0), .val (.int (1 : Int32)), .unset, .unset, .unset, .unset, .unset, .unset, .unset, .unset, .unset, .unset] [(.ref x170_R0)])) _
          refine XS.astore X170.here hx rfl (hb hby at_37) rfl rfl (l' := #[.val (.int P0), .val (.long P1), .second, .val (.long P2), .second, .val (.int P3), .val (.int P4), .val (.int P0), .val (.int (1 : Int32)), .val (.ref x170_R0), .unset, .unset, .unset, .unset, .unset, .unset, .unset, .unset, .unset]) rfl ?_
          show Steps p.tables e below (T170.setTop (mkF m 39 #[.val (.int P0), .val (.long P1), .second, .val (.long P2), .second, .val (.int P3), .val (.int P4), .val (.int P0), .val (.int (1 : Int32)), .val (.ref x170_R0), .unset, .unset, .unset, .unset, .unset, .unset, .unset, .unset, .unset] [])) _
          refine st172 _ ?_
          show Steps p.tables e below (T172.setTop (mkF m 42 #[.val (.int P0), .val (.long P1), .second, .val (.long P2), .second, .val (.int P3), .val (.int P4), .val (.int P0), .val (.int (1 : Int32)), .val (.ref x170_R0), .unset, .unset, .unset, .unset, .unset, .unset, .unset, .unset, .unset] [(.ref b172)])) _
          refine XS.dup X172.here hx rfl (hb hby at_42) rfl rfl ?_
          show Steps p.tables e below (T172.setTop (mkF m 43 #[.val (.int P0), .val (.long P1), .second, .val (.long P2), .second, .val (.int P3), .val (.int P4), .val (.int P0), .val (.int (1 : Int32)), .val (.ref x170_R0), .unset, .unset, .unset, .unset, .unset, .unset, .unset, .unset, .unset] [(.ref b172), (.ref b172)])) _
          refine XS.iload X172.here hx rfl (hb hby at_43) rfl ?_
          show Steps p.tables e below (T172.setTop (mkF m 45 #[.val (.int P0), .val (.long P1), .second, .val (.long P2), .second, .val (.int P3), .val (.int P4), .val (.int P0), .val (.int (1 : Int32)), .val (.ref x170_R0), .unset, .unset, .unset, .unset, .unset, .unset, .unset, .unset, .unset] [(.int P0), (.ref b172), (.ref b172)])) _
          refine X172.ldcInt hx hown (mvT hZ (hw _ (List.mem_of_getElem? (i := 0) rfl))) (g := (mkF m 45 #[.val (.int P0), .val (.long P1), .second, .val (.long P2), .second, .val (.int P3), .val (.int P4), .val (.int P0), .val (.int (1 : Int32)), .val (.ref x170_R0), .unset, .unset, .unset, .unset, .unset, .unset, .unset, .unset, .unset] [(.int P0), (.ref b172), (.ref b172)])) rfl (hb hby at_45) _ ?_
          show Steps p.tables e below (T172.setTop (mkF m 47 #[.val (.int P0), .val (.long P1), .second, .val (.long P2), .second, .val (.int P3), .val (.int P4), .val (.int P0), .val (.int (1 : Int32)), .val (.ref x170_R0), .unset, .unset, .unset, .unset, .unset, .unset, .unset, .unset, .unset] [(.int (2147483647 : Int32)), (.int P0), (.ref b172), (.ref b172)])) _
          refine st177.trans ?_
          show Steps p.tables e below (T177.setTop (mkF m 50 #[.val (.int P0), .val (.long P1), .second, .val (.long P2), .second, .val (.int P3), .val (.int P4), .val (.int P0), .val (.int (1 : Int32)), .val (.ref x170_R0), .unset, .unset, .unset, .unset, .unset, .unset, .unset, .unset, .unset] [(.ref b172)])) _
          refine XS.astore X177.here hx rfl (hb hby at_50) rfl rfl (l' := #[.val (.int P0), .val (.long P1), .second, .val (.long P2), .second, .val (.int P3), .val (.int P4), .val (.int P0), .val (.int (1 : Int32)), .val (.ref x170_R0), .val (.ref b172), .unset, .unset, .unset, .unset, .unset, .unset, .unset, .unset]) rfl ?_
          show Steps p.tables e below (T177.setTop (mkF m 52 #[.val (.int P0), .val (.long P1), .second, .val (.long P2), .second, .val (.int P3), .val (.int P4), .val (.int P0), .val (.int (1 : Int32)), .val (.ref x170_R0), .val (.ref b172), .unset, .unset, .unset, .unset, .unset, .unset, .unset, .unset] [])) _
          refine XS.aload X177.here hx rfl (hb hby at_52) rfl rfl ?_
          show Steps p.tables e below (T177.setTop (mkF m 54 #[.val (.int P0), .val (.long P1), .second, .val (.long P2), .second, .val (.int P3), .val (.int P4), .val (.int P0), .val (.int (1 : Int32)), .val (.ref x170_R0), .val (.ref b172), .unset, .unset, .unset, .unset, .unset, .unset, .unset, .unset] [(.ref b172)])) _
          refine XS.lloadN X177.here hx rfl (hb hby at_54) rfl ?_
          show Steps p.tables e below (T177.setTop (mkF m 55 #[.val (.int P0), .val (.long P1), .second, .val (.long P2), .second, .val (.int P3), .val (.int P4), .val (.int P0), .val (.int (1 : Int32)), .val (.ref x170_R0), .val (.ref b172), .unset, .unset, .unset, .unset, .unset, .unset, .unset, .unset] [(.long P1), (.ref b172)])) _
          refine st179.trans ?_
          show Steps p.tables e below (T179.setTop (mkF m 58 #[.val (.int P0), .val (.long P1), .second, .val (.long P2), .second, .val (.int P3), .val (.int P4), .val (.int P0), .val (.int (1 : Int32)), .val (.ref x170_R0), .val (.ref b172), .unset, .unset, .unset, .unset, .unset, .unset, .unset, .unset] [])) _
          refine XS.aload X179.here hx rfl (hb hby at_58) rfl rfl ?_
          show Steps p.tables e below (T179.setTop (mkF m 60 #[.val (.int P0), .val (.long P1), .second, .val (.long P2), .second, .val (.int P3), .val (.int P4), .val (.int P0), .val (.int (1 : Int32)), .val (.ref x170_R0), .val (.ref b172), .unset, .unset, .unset, .unset, .unset, .unset, .unset, .unset] [(.ref b172)])) _
          refine XS.iload X179.here hx rfl (hb hby at_60) rfl ?_
          show Steps p.tables e below (T179.setTop (mkF m 62 #[.val (.int P0), .val (.long P1), .second, .val (.long P2), .second, .val (.int P3), .val (.int P4), .val (.int P0), .val (.int (1 : Int32)), .val (.ref x170_R0), .val (.ref b172), .unset, .unset, .unset, .unset, .unset, .unset, .unset, .unset] [(.int P0), (.ref b172)])) _
          refine XS.i2l X179.here hx rfl (hb hby at_62) rfl ?_
          show Steps p.tables e below (T179.setTop (mkF m 63 #[.val (.int P0), .val (.long P1), .second, .val (.long P2), .second, .val (.int P3), .val (.int P4), .val (.int P0), .val (.int (1 : Int32)), .val (.ref x170_R0), .val (.ref b172), .unset, .unset, .unset, .unset, .unset, .unset, .unset, .unset] [(.long (P0.toInt64)), (.ref b172)])) _
          refine st181.trans ?_
          show Steps p.tables e below (T181.setTop (mkF m 66 #[.val (.int P0), .val (.long P1), .second, .val (.long P2), .second, .val (.int P3), .val (.int P4), .val (.int P0), .val (.int (1 : Int32)), .val (.ref x170_R0), .val (.ref b172), .unset, .unset, .unset, .unset, .unset, .unset, .unset, .unset] [])) _
          refine XS.aload X181.here hx rfl (hb hby at_66) rfl rfl ?_
          show Steps p.tables e below (T181.setTop (mkF m 68 #[.val (.int P0), .val (.long P1), .second, .val (.long P2), .second, .val (.int P3), .val (.int P4), .val (.int P0), .val (.int (1 : Int32)), .val (.ref x170_R0), .val (.ref b172), .unset, .unset, .unset, .unset, .unset, .unset, .unset, .unset] [(.ref b172)])) _
          refine XS.lloadN X181.here hx rfl (hb hby at_68) rfl ?_
          show Steps p.tables e below (T181.setTop (mkF m 69 #[.val (.int P0), .val (.long P1), .second, .val (.long P2), .second, .val (.int P3), .val (.int P4), .val (.int P0), .val (.int (1 : Int32)), .val (.ref x170_R0), .val (.ref b172), .unset, .unset, .unset, .unset, .unset, .unset, .unset, .unset] [(.long P2), (.ref b172)])) _
          refine st182.trans ?_
          show Steps p.tables e below (T182.setTop (mkF m 72 #[.val (.int P0), .val (.long P1), .second, .val (.long P2), .second, .val (.int P3), .val (.int P4), .val (.int P0), .val (.int (1 : Int32)), .val (.ref x170_R0), .val (.ref b172), .unset, .unset, .unset, .unset, .unset, .unset, .unset, .unset] [])) _
          refine XS.lloadN X182.here hx rfl (hb hby at_72) rfl ?_
          show Steps p.tables e below (T182.setTop (mkF m 73 #[.val (.int P0), .val (.long P1), .second, .val (.long P2), .second, .val (.int P3), .val (.int P4), .val (.int P0), .val (.int (1 : Int32)), .val (.ref x170_R0), .val (.ref b172), .unset, .unset, .unset, .unset, .unset, .unset, .unset, .unset] [(.long P1)])) _
          refine XS.lneg X182.here hx rfl (hb hby at_73) rfl ?_
          show Steps p.tables e below (T182.setTop (mkF m 74 #[.val (.int P0), .val (.long P1), .second, .val (.long P2), .second, .val (.int P3), .val (.int P4), .val (.int P0), .val (.int (1 : Int32)), .val (.ref x170_R0), .val (.ref b172), .unset, .unset, .unset, .unset, .unset, .unset, .unset, .unset] [(.long (-P1))])) _
          refine XS.lloadN X182.here hx rfl (hb hby at_74) rfl ?_
          show Steps p.tables e below (T182.setTop (mkF m 75 #[.val (.int P0), .val (.long P1), .second, .val (.long P2), .second, .val (.int P3), .val (.int P4), .val (.int P0), .val (.int (1 : Int32)), .val (.ref x170_R0), .val (.ref b172), .unset, .unset, .unset, .unset, .unset, .unset, .unset, .unset] [(.long P2), (.long (-P1))])) _
          refine XS.lsub X182.here hx rfl (hb hby at_75) rfl ?_
          show Steps p.tables e below (T182.setTop (mkF m 76 #[.val (.int P0), .val (.long P1), .second, .val (.long P2), .second, .val (.int P3), .val (.int P4), .val (.int P0), .val (.int (1 : Int32)), .val (.ref x170_R0), .val (.ref b172), .unset, .unset, .unset, .unset, .unset, .unset, .unset, .unset] [(.long ((-P1) - P2))])) _
          refine XS.lstore X182.here hx rfl (hb hby at_76) rfl (l' := #[.val (.int P0), .val (.long P1), .second, .val (.long P2), .second, .val (.int P3), .val (.int P4), .val (.int P0), .val (.int (1 : Int32)), .val (.ref x170_R0), .val (.ref b172), .val (.long ((-P1) - P2)), .second, .unset, .unset, .unset, .unset, .unset, .unset]) rfl ?_
          show Steps p.tables e below (T182.setTop (mkF m 78 #[.val (.int P0), .val (.long P1), .second, .val (.long P2), .second, .val (.int P3), .val (.int P4), .val (.int P0), .val (.int (1 : Int32)), .val (.ref x170_R0), .val (.ref b172), .val (.long ((-P1) - P2)), .second, .unset, .unset, .unset, .unset, .unset, .unset] [])) _
          refine XS.lloadN X182.here hx rfl (hb hby at_78) rfl ?_
          show Steps p.tables e below (T182.setTop (mkF m 79 #[.val (.int P0), .val (.long P1), .second, .val (.long P2), .second, .val (.int P3), .val (.int P4), .val (.int P0), .val (.int (1 : Int32)), .val (.ref x170_R0), .val (.ref b172), .val (.long ((-P1) - P2)), .second, .unset, .unset, .unset, .unset, .unset, .unset] [(.long P1)])) _
          refine XS.lloadN X182.here hx rfl (hb hby at_79) rfl ?_
          show Steps p.tables e below (T182.setTop (mkF m 80 #[.val (.int P0), .val (.long P1), .second, .val (.long P2), .second, .val (.int P3), .val (.int P4), .val (.int P0), .val (.int (1 : Int32)), .val (.ref x170_R0), .val (.ref b172), .val (.long ((-P1) - P2)), .second, .unset, .unset, .unset, .unset, .unset, .unset] [(.long P2), (.long P1)])) _
          refine XS.ladd X182.here hx rfl (hb hby at_80) rfl ?_
          show Steps p.tables e below (T182.setTop (mkF m 81 #[.val (.int P0), .val (.long P1), .second, .val (.long P2), .second, .val (.int P3), .val (.int P4), .val (.int P0), .val (.int (1 : Int32)), .val (.ref x170_R0), .val (.ref b172), .val (.long ((-P1) - P2)), .second, .unset, .unset, .unset, .unset, .unset, .unset] [(.long (P1 + P2))])) _
          refine XS.lstore X182.here hx rfl (hb hby at_81) rfl (l' := #[.val (.int P0), .val (.long P1), .second, .val (.long P2), .second, .val (.int P3), .val (.int P4), .val (.int P0), .val (.int (1 : Int32)), .val (.ref x170_R0), .val (.ref b172), .val (.long ((-P1) - P2)), .second, .val (.long (P1 + P2)), .second, .unset, .unset, .unset, .unset]) rfl ?_
          show Steps p.tables e below (T182.setTop (mkF m 83 #[.val (.int P0), .val (.long P1), .second, .val (.long P2), .second, .val (.int P3), .val (.int P4), .val (.int P0), .val (.int (1 : Int32)), .val (.ref x170_R0), .val (.ref b172), .val (.long ((-P1) - P2)), .second, .val (.long (P1 + P2)), .second, .unset, .unset, .unset, .unset] [])) _
          refine XS.aload X182.here hx rfl (hb hby at_83) rfl rfl ?_
          show Steps p.tables e below (T182.setTop (mkF m 85 #[.val (.int P0), .val (.long P1), .second, .val (.long P2), .second, .val (.int P3), .val (.int P4), .val (.int P0), .val (.int (1 : Int32)), .val (.ref x170_R0), .val (.ref b172), .val (.long ((-P1) - P2)), .second, .val (.long (P1 + P2)), .second, .unset, .unset, .unset, .unset] [(.ref b172)])) _
          refine XS.iload X182.here hx rfl (hb hby at_85) rfl ?_
          show Steps p.tables e below (T182.setTop (mkF m 87 #[.val (.int P0), .val (.long P1), .second, .val (.long P2), .second, .val (.int P3), .val (.int P4), .val (.int P0), .val (.int (1 : Int32)), .val (.ref x170_R0), .val (.ref b172), .val (.long ((-P1) - P2)), .second, .val (.long (P1 + P2)), .second, .unset, .unset, .unset, .unset] [(.int P0), (.ref b172)])) _
          refine XS.i2l X182.here hx rfl (hb hby at_87) rfl ?_
          show Steps p.tables e below (T182.setTop (mkF m 88 #[.val (.int P0), .val (.long P1), .second, .val (.long P2), .second, .val (.int P3), .val (.int P4), .val (.int P0), .val (.int (1 : Int32)), .val (.ref x170_R0), .val (.ref b172), .val (.long ((-P1) - P2)), .second, .val (.long (P1 + P2)), .second, .unset, .unset, .unset, .unset] [(.long (P0.toInt64)), (.ref b172)])) _
          refine XS.lload X182.here hx rfl (hb hby at_88) rfl ?_
          show Steps p.tables e below (T182.setTop (mkF m 90 #[.val (.int P0), .val (.long P1), .second, .val (.long P2), .second, .val (.int P3), .val (.int P4), .val (.int P0), .val (.int (1 : Int32)), .val (.ref x170_R0), .val (.ref b172), .val (.long ((-P1) - P2)), .second, .val (.long (P1 + P2)), .second, .unset, .unset, .unset, .unset] [(.long ((-P1) - P2)), (.long (P0.toInt64)), (.ref b172)])) _
          refine XS.lload X182.here hx rfl (hb hby at_90) rfl ?_
          show Steps p.tables e below (T182.setTop (mkF m 92 #[.val (.int P0), .val (.long P1), .second, .val (.long P2), .second, .val (.int P3), .val (.int P4), .val (.int P0), .val (.int (1 : Int32)), .val (.ref x170_R0), .val (.ref b172), .val (.long ((-P1) - P2)), .second, .val (.long (P1 + P2)), .second, .unset, .unset, .unset, .unset] [(.long (P1 + P2)), (.long ((-P1) - P2)), (.long (P0.toInt64)), (.ref b172)])) _
          refine XS.ladd X182.here hx rfl (hb hby at_92) rfl ?_
          show Steps p.tables e below (T182.setTop (mkF m 93 #[.val (.int P0), .val (.long P1), .second, .val (.long P2), .second, .val (.int P3), .val (.int P4), .val (.int P0), .val (.int (1 : Int32)), .val (.ref x170_R0), .val (.ref b172), .val (.long ((-P1) - P2)), .second, .val (.long (P1 + P2)), .second, .unset, .unset, .unset, .unset] [(.long (((-P1) - P2) + (P1 + P2))), (.long (P0.toInt64)), (.ref b172)])) _
          refine XS.lsub X182.here hx rfl (hb hby at_93) rfl ?_
          show Steps p.tables e below (T182.setTop (mkF m 94 #[.val (.int P0), .val (.long P1), .second, .val (.long P2), .second, .val (.int P3), .val (.int P4), .val (.int P0), .val (.int (1 : Int32)), .val (.ref x170_R0), .val (.ref b172), .val (.long ((-P1) - P2)), .second, .val (.long (P1 + P2)), .second, .unset, .unset, .unset, .unset] [(.long ((P0.toInt64) - (((-P1) - P2) + (P1 + P2)))), (.ref b172)])) _
          refine st184.trans ?_
          show Steps p.tables e below (T184.setTop (mkF m 97 #[.val (.int P0), .val (.long P1), .second, .val (.long P2), .second, .val (.int P3), .val (.int P4), .val (.int P0), .val (.int (1 : Int32)), .val (.ref x170_R0), .val (.ref b172), .val (.long ((-P1) - P2)), .second, .val (.long (P1 + P2)), .second, .unset, .unset, .unset, .unset] [])) _
          refine XS.lconst X184.here hx rfl (hb hby at_97) ?_
          show Steps p.tables e below (T184.setTop (mkF m 98 #[.val (.int P0), .val (.long P1), .second, .val (.long P2), .second, .val (.int P3), .val (.int P4), .val (.int P0), .val (.int (1 : Int32)), .val (.ref x170_R0), .val (.ref b172), .val (.long ((-P1) - P2)), .second, .val (.long (P1 + P2)), .second, .unset, .unset, .unset, .unset] [(.long (0 : Int64))])) _
          refine XS.lstore X184.here hx rfl (hb hby at_98) rfl (l' := #[.val (.int P0), .val (.long P1), .second, .val (.long P2), .second, .val (.int P3), .val (.int P4), .val (.int P0), .val (.int (1 : Int32)), .val (.ref x170_R0), .val (.ref b172), .val (.long ((-P1) - P2)), .second, .val (.long (P1 + P2)), .second, .val (.long (0 : Int64)), .second, .unset, .unset]) rfl ?_
          show Steps p.tables e below (T184.setTop (mkF m 100 #[.val (.int P0), .val (.long P1), .second, .val (.long P2), .second, .val (.int P3), .val (.int P4), .val (.int P0), .val (.int (1 : Int32)), .val (.ref x170_R0), .val (.ref b172), .val (.long ((-P1) - P2)), .second, .val (.long (P1 + P2)), .second, .val (.long (0 : Int64)), .second, .unset, .unset] [])) _
          refine XS.iload X184.here hx rfl (hb hby at_100) rfl ?_
          show Steps p.tables e below (T184.setTop (mkF m 102 #[.val (.int P0), .val (.long P1), .second, .val (.long P2), .second, .val (.int P3), .val (.int P4), .val (.int P0), .val (.int (1 : Int32)), .val (.ref x170_R0), .val (.ref b172), .val (.long ((-P1) - P2)), .second, .val (.long (P1 + P2)), .second, .val (.long (0 : Int64)), .second, .unset, .unset] [(.int (1 : Int32))])) _
          refine XS.ifNo X184.here hx rfl (hb hby at_102) rfl ((if0 _ _).trans (feq (show ¬ ((1 : Int32) = (0 : Int32)) from (by decide))).1) ?_
          show Steps p.tables e below (T184.setTop (mkF m 105 #[.val (.int P0), .val (.long P1), .second, .val (.long P2), .second, .val (.int P3), .val (.int P4), .val (.int P0), .val (.int (1 : Int32)), .val (.ref x170_R0), .val (.ref b172), .val (.long ((-P1) - P2)), .second, .val (.long (P1 + P2)), .second, .val (.long (0 : Int64)), .second, .unset, .unset] [])) _
          refine XS.aload X184.here hx rfl (hb hby at_105) rfl rfl ?_
          show Steps p.tables e below (T184.setTop (mkF m 107 #[.val (.int P0), .val (.long P1), .second, .val (.long P2), .second, .val (.int P3), .val (.int P4), .val (.int P0), .val (.int (1 : Int32)), .val (.ref x170_R0), .val (.ref b172), .val (.long ((-P1) - P2)), .second, .val (.long (P1 + P2)), .second, .val (.long (0 : Int64)), .second, .unset, .unset] [(.ref b172)])) _
          refine XS.aload X184.here hx rfl (hb hby at_107) rfl rfl ?_
          show Steps p.tables e below (T184.setTop (mkF m 109 #[.val (.int P0), .val (.long P1), .second, .val (.long P2), .second, .val (.int P3), .val (.int P4), .val (.int P0), .val (.int (1 : Int32)), .val (.ref x170_R0), .val (.ref b172), .val (.long ((-P1) - P2)), .second, .val (.long (P1 + P2)), .second, .val (.long (0 : Int64)), .second, .unset, .unset] [(.ref x170_R0), (.ref b172)])) _
          refine st189.trans ?_
          show Steps p.tables e below (T189.setTop (mkF m 112 #[.val (.int P0), .val (.long P1), .second, .val (.long P2), .second, .val (.int P3), .val (.int P4), .val (.int P0), .val (.int (1 : Int32)), .val (.ref x170_R0), .val (.ref b172), .val (.long ((-P1) - P2)), .second, .val (.long (P1 + P2)), .second, .val (.long (0 : Int64)), .second, .unset, .unset] [])) _
          refine X189.ldc2Long hx hown (mvT hZ (hw _ (List.mem_of_getElem? (i := 91) rfl))) (g := (mkF m 112 #[.val (.int P0), .val (.long P1), .second, .val (.long P2), .second, .val (.int P3), .val (.int P4), .val (.int P0), .val (.int (1 : Int32)), .val (.ref x170_R0), .val (.ref b172), .val (.long ((-P1) - P2)), .second, .val (.long (P1 + P2)), .second, .val (.long (0 : Int64)), .second, .unset, .unset] [])) rfl (hb hby at_112) _ ?_
          show Steps p.tables e below (T189.setTop (mkF m 115 #[.val (.int P0), .val (.long P1), .second, .val (.long P2), .second, .val (.int P3), .val (.int P4), .val (.int P0), .val (.int (1 : Int32)), .val (.ref x170_R0), .val (.ref b172), .val (.long ((-P1) - P2)), .second, .val (.long (P1 + P2)), .second, .val (.long (0 : Int64)), .second, .unset, .unset] [(.long (33 : Int64))])) _
          refine XS.lstore X189.here hx rfl (hb hby at_115) rfl (l' := #[.val (.int P0), .val (.long P1), .second, .val (.long P2), .second, .val (.int P3), .val (.int P4), .val (.int P0), .val (.int (1 : Int32)), .val (.ref x170_R0), .val (.ref b172), .val (.long ((-P1) - P2)), .second, .val (.long (P1 + P2)), .second, .val (.long (33 : Int64)), .second, .unset, .unset]) rfl ?_
          show Steps p.tables e below (T189.setTop (mkF m 117 #[.val (.int P0), .val (.long P1), .second, .val (.long P2), .second, .val (.int P3), .val (.int P4), .val (.int P0), .val (.int (1 : Int32)), .val (.ref x170_R0), .val (.ref b172), .val (.long ((-P1) - P2)), .second, .val (.long (P1 + P2)), .second, .val (.long (33 : Int64)), .second, .unset, .unset] [])) _
          refine XS.aload X189.here hx rfl (hb hby at_117) rfl rfl ?_
          show Steps p.tables e below (T189.setTop (mkF m 119 #[.val (.int P0), .val (.long P1), .second, .val (.long P2), .second, .val (.int P3), .val (.int P4), .val (.int P0), .val (.int (1 : Int32)), .val (.ref x170_R0), .val (.ref b172), .val (.long ((-P1) - P2)), .second, .val (.long (P1 + P2)), .second, .val (.long (33 : Int64)), .second, .unset, .unset] [(.ref b172)])) _
          refine st191.trans ?_
          show Steps p.tables e below (T191.setTop (mkF m 122 #[.val (.int P0), .val (.long P1), .second, .val (.long P2), .second, .val (.int P3), .val (.int P4), .val (.int P0), .val (.int (1 : Int32)), .val (.ref x170_R0), .val (.ref b172), .val (.long ((-P1) - P2)), .second, .val (.long (P1 + P2)), .second, .val (.long (33 : Int64)), .second, .unset, .unset] [])) _
          refine XS.lload X191.here hx rfl (hb hby at_122) rfl ?_
          show Steps p.tables e below (T191.setTop (mkF m 124 #[.val (.int P0), .val (.long P1), .second, .val (.long P2), .second, .val (.int P3), .val (.int P4), .val (.int P0), .val (.int (1 : Int32)), .val (.ref x170_R0), .val (.ref b172), .val (.long ((-P1) - P2)), .second, .val (.long (P1 + P2)), .second, .val (.long (33 : Int64)), .second, .unset, .unset] [(.long (P1 + P2))])) _
          refine XS.lload X191.here hx rfl (hb hby at_124) rfl ?_
          show Steps p.tables e below (T191.setTop (mkF m 126 #[.val (.int P0), .val (.long P1), .second, .val (.long P2), .second, .val (.int P3), .val (.int P4), .val (.int P0), .val (.int (1 : Int32)), .val (.ref x170_R0), .val (.ref b172), .val (.long ((-P1) - P2)), .second, .val (.long (P1 + P2)), .second, .val (.long (33 : Int64)), .second, .unset, .unset] [(.long (33 : Int64)), (.long (P1 + P2))])) _
          refine st193 _ ?_
          show Steps p.tables e below (T193.setTop (mkF m 129 #[.val (.int P0), .val (.long P1), .second, .val (.long P2), .second, .val (.int P3), .val (.int P4), .val (.int P0), .val (.int (1 : Int32)), .val (.ref x170_R0), .val (.ref b172), .val (.long ((-P1) - P2)), .second, .val (.long (P1 + P2)), .second, .val (.long (33 : Int64)), .second, .unset, .unset] [(.long (own_min (P1 + P2) (33 : Int64)))])) _
          refine XS.lstore X193.here hx rfl (hb hby at_129) rfl (l' := #[.val (.int P0), .val (.long P1), .second, .val (.long P2), .second, .val (.int P3), .val (.int P4), .val (.int P0), .val (.int (1 : Int32)), .val (.ref x170_R0), .val (.ref b172), .val (.long ((-P1) - P2)), .second, .val (.long (P1 + P2)), .second, .val (.long (33 : Int64)), .second, .val (.long (own_min (P1 + P2) (33 : Int64))), .second]) rfl ?_
          show Steps p.tables e below (T193.setTop (mkF m 131 #[.val (.int P0), .val (.long P1), .second, .val (.long P2), .second, .val (.int P3), .val (.int P4), .val (.int P0), .val (.int (1 : Int32)), .val (.ref x170_R0), .val (.ref b172), .val (.long ((-P1) - P2)), .second, .val (.long (P1 + P2)), .second, .val (.long (33 : Int64)), .second, .val (.long (own_min (P1 + P2) (33 : Int64))), .second] [])) _
          refine XS.aload X193.here hx rfl (hb hby at_131) rfl rfl ?_
          show Steps p.tables e below (T193.setTop (mkF m 133 #[.val (.int P0), .val (.long P1), .second, .val (.long P2), .second, .val (.int P3), .val (.int P4), .val (.int P0), .val (.int (1 : Int32)), .val (.ref x170_R0), .val (.ref b172), .val (.long ((-P1) - P2)), .second, .val (.long (P1 + P2)), .second, .val (.long (33 : Int64)), .second, .val (.long (own_min (P1 + P2) (33 : Int64))), .second] [(.ref b172)])) _
          refine XS.iload X193.here hx rfl (hb hby at_133) rfl ?_
          show Steps p.tables e below (T193.setTop (mkF m 135 #[.val (.int P0), .val (.long P1), .second, .val (.long P2), .second, .val (.int P3), .val (.int P4), .val (.int P0), .val (.int (1 : Int32)), .val (.ref x170_R0), .val (.ref b172), .val (.long ((-P1) - P2)), .second, .val (.long (P1 + P2)), .second, .val (.long (33 : Int64)), .second, .val (.long (own_min (P1 + P2) (33 : Int64))), .second] [(.int P0), (.ref b172)])) _
          refine XS.i2l X193.here hx rfl (hb hby at_135) rfl ?_
          show Steps p.tables e below (T193.setTop (mkF m 136 #[.val (.int P0), .val (.long P1), .second, .val (.long P2), .second, .val (.int P3), .val (.int P4), .val (.int P0), .val (.int (1 : Int32)), .val (.ref x170_R0), .val (.ref b172), .val (.long ((-P1) - P2)), .second, .val (.long (P1 + P2)), .second, .val (.long (33 : Int64)), .second, .val (.long (own_min (P1 + P2) (33 : Int64))), .second] [(.long (P0.toInt64)), (.ref b172)])) _
          refine XS.lload X193.here hx rfl (hb hby at_136) rfl ?_
          show Steps p.tables e below (T193.setTop (mkF m 138 #[.val (.int P0), .val (.long P1), .second, .val (.long P2), .second, .val (.int P3), .val (.int P4), .val (.int P0), .val (.int (1 : Int32)), .val (.ref x170_R0), .val (.ref b172), .val (.long ((-P1) - P2)), .second, .val (.long (P1 + P2)), .second, .val (.long (33 : Int64)), .second, .val (.long (own_min (P1 + P2) (33 : Int64))), .second] [(.long ((-P1) - P2)), (.long (P0.toInt64)), (.ref b172)])) _
          refine XS.lload X193.here hx rfl (hb hby at_138) rfl ?_
          show Steps p.tables e below (T193.setTop (mkF m 140 #[.val (.int P0), .val (.long P1), .second, .val (.long P2), .second, .val (.int P3), .val (.int P4), .val (.int P0), .val (.int (1 : Int32)), .val (.ref x170_R0), .val (.ref b172), .val (.long ((-P1) - P2)), .second, .val (.long (P1 + P2)), .second, .val (.long (33 : Int64)), .second, .val (.long (own_min (P1 + P2) (33 : Int64))), .second] [(.long (own_min (P1 + P2) (33 : Int64))), (.long ((-P1) - P2)), (.long (P0.toInt64)), (.ref b172)])) _
          refine XS.ladd X193.here hx rfl (hb hby at_140) rfl ?_
          show Steps p.tables e below (T193.setTop (mkF m 141 #[.val (.int P0), .val (.long P1), .second, .val (.long P2), .second, .val (.int P3), .val (.int P4), .val (.int P0), .val (.int (1 : Int32)), .val (.ref x170_R0), .val (.ref b172), .val (.long ((-P1) - P2)), .second, .val (.long (P1 + P2)), .second, .val (.long (33 : Int64)), .second, .val (.long (own_min (P1 + P2) (33 : Int64))), .second] [(.long (((-P1) - P2) + (own_min (P1 + P2) (33 : Int64)))), (.long (P0.toInt64)), (.ref b172)])) _
          refine XS.lsub X193.here hx rfl (hb hby at_141) rfl ?_
          show Steps p.tables e below (T193.setTop (mkF m 142 #[.val (.int P0), .val (.long P1), .second, .val (.long P2), .second, .val (.int P3), .val (.int P4), .val (.int P0), .val (.int (1 : Int32)), .val (.ref x170_R0), .val (.ref b172), .val (.long ((-P1) - P2)), .second, .val (.long (P1 + P2)), .second, .val (.long (33 : Int64)), .second, .val (.long (own_min (P1 + P2) (33 : Int64))), .second] [(.long ((P0.toInt64) - (((-P1) - P2) + (own_min (P1 + P2) (33 : Int64))))), (.ref b172)])) _
          refine st194.trans ?_
          show Steps p.tables e below (T194.setTop (mkF m 145 #[.val (.int P0), .val (.long P1), .second, .val (.long P2), .second, .val (.int P3), .val (.int P4), .val (.int P0), .val (.int (1 : Int32)), .val (.ref x170_R0), .val (.ref b172), .val (.long ((-P1) - P2)), .second, .val (.long (P1 + P2)), .second, .val (.long (33 : Int64)), .second, .val (.long (own_min (P1 + P2) (33 : Int64))), .second] [])) _
          refine XS.iconst X194.here hx rfl (hb hby at_145) ?_
          exact kt)
      obtain ⟨fs, hr, hrun, hended, hW, hsame⟩ := X194.leave (v := some (.int (1 : Int32))) (fun h => by rw [Bd.returns] at h; cases h)
      refine ⟨_, _, pre195 _ ?_, hrun, hended, _, _, rfl, ?_, ⟨_, rfl⟩, hW, hsame.mono (by decide) (by decide)⟩
      · show Steps p.tables e below (T194.setTop (mkF m 146 #[.val (.int P0), .val (.long P1), .second, .val (.long P2), .second, .val (.int P3), .val (.int P4), .val (.int P0), .val (.int (1 : Int32)), .val (.ref x170_R0), .val (.ref b172), .val (.long ((-P1) - P2)), .second, .val (.long (P1 + P2)), .second, .val (.long (33 : Int64)), .second, .val (.long (own_min (P1 + P2) (33 : Int64))), .second] [(.int (1 : Int32))])) _
        exact retN X194 hx (t := .boolean) Bd.returns (by simp) (hb hby at_146) hr
      · show Q0 Z P0 P1 P2 P3 P4 U0 h0 n0 _ T194.heap _
        rw [K194]
        exact ⟨rfl, N194⟩
set_option maxRecDepth 65536 in
set_option maxHeartbeats 40000000 in
theorem comes_1 {Post : Tables → Env → Array Value → State → Outcome → State → Prop} (hpost : ∀ tb e args s v u, (limb_1_1.after args s (.returned v) u = true ∧ limb_1_2.after args s (.returned v) u = true ∧ True) → FrameEnd s (.returned v) u (Jvm.fieldLocs frame_1_writes args s ++ Jvm.arrayLocs frame_1_arrays args s ++ Jvm.staticLocs frame_1_statics s) 16 128 → Post tb e args s (.returned v) u) :
    ArmFor flags0 classFile x code maxLocals ret World_1 tables_1 room_1 Calls_1 rest_1 Pre_1 Post := by
  intro l hfl _ _ p e ha hc hk s m args below hf hA hF happ hP
  obtain ⟨hcalls, hrest, hpre⟩ := hP
  obtain ⟨-, -, -, hnamed, -, -, -, hat⟩ := (Spec.applies_iff hf).mp happ
  obtain ⟨hg, hn⟩ := and_e (Cond.before_iff.mp (show (Jvm.Cond.and given_1 narrow_1).before args s = true from hpre))
  obtain ⟨gv1, gv2⟩ := and_e hg
  obtain ⟨gv3, gv4⟩ := and_e gv2
  obtain ⟨gv5, gv6⟩ := and_e gv4
  obtain ⟨gv7, gv8⟩ := and_e gv6
  obtain ⟨gv9, gv10⟩ := and_e gv8
  obtain ⟨w0, w1, w2, w3, w4, rfl⟩ : ∃ w0 w1 w2 w3 w4 : Value, args = #[w0, w1, w2, w3, w4] := by
    have hs : args.size = 5 := by simpa [Cond.value, given_1] using gv1
    obtain ⟨L⟩ := args
    match L, hs with
    | [w0, w1, w2, w3, w4], _ => exact ⟨w0, w1, w2, w3, w4, rfl⟩
  have hw := fun d (hd : d ∈ tables_1) => atoms_spec (ws := Jvm.Cond.code x code maxLocals ret :: tables_1) hat d (List.mem_cons_of_mem _ hd)
  have hfit : Fit s := fun {y c} hc i hi => by
    obtain ⟨ha, rfl⟩ := Array.getElem?_eq_some_iff.mp hc
    have q := List.all_eq_true.mp ((Array.all_eq_true_iff_forall_mem.mp hF) _ (Array.getElem_mem ha)) i (List.mem_range.mpr hi)
    simpa [Array.getElem?_eq_getElem hi] using q
  obtain ⟨hsets, hown0⟩ := atoms_of _ (rest_1_c_eq ▸ (show rest_1_c.before _ s = true from hrest))
  have hr0 := Cond.before_iff.mp hown0
  obtain ⟨i0, ei0⟩ := is_v gv3
  obtain rfl : w0 = (.int i0) := Option.some.inj ei0
  obtain ⟨i1, ei1⟩ := isL_v gv5
  obtain rfl : w1 = (.long i1) := Option.some.inj ei1
  obtain ⟨i2, ei2⟩ := isL_v gv7
  obtain rfl : w2 = (.long i2) := Option.some.inj ei2
  obtain ⟨i3, ei3⟩ := is_v gv9
  obtain rfl : w3 = (.int i3) := Option.some.inj ei3
  obtain ⟨i4, ei4⟩ := is_v gv10
  obtain rfl : w4 = (.int i4) := Option.some.inj ei4
  obtain ⟨u0, ev0⟩ := is_v (Cond.before_iff.mp (hsets _ (List.mem_of_getElem? (i := 1) rfl)))
  have hu0 : ¬ (u0 = (0 : Int32)) := by
    have q := Cond.before_iff.mp (hsets _ (List.mem_of_getElem? (i := 2) rfl))
    have q2 := not_v q
    intro e0
    rw [e0] at ev0
    simp only [Cond.value, ev0, Term.int_eval] at q2
    simp at q2
  obtain ⟨n, o, h1, h2, h3, _, L, rfl, ⟨rfl, N⟩, hq⟩ := rm0 l s _ hw tables_1 i0 i1 i2 i3 i4 u0 s.heap s.heap.size (Nat.le_refl _) (Sta.start ev0 (Or.inl (hsets _ (List.mem_of_getElem? (i := 0) rfl)))) hu0 p e ha hc hk s m _ below hf ((Spec.applies_iff_loose hf).mp happ).1 ⟨rfl, State.Warmed39.refl s, rfl⟩ trivial
  refine ⟨n, _, h1, h2, h3, hpost _ _ _ _ _ _ ⟨Cond.after_iff.mpr rfl, Cond.after_iff.mpr (eq_i res_at (Term.int_eval (1)) rfl), trivial⟩ ⟨hq.1, hq.2.1, (hq.2.2.sift fun y hy => Or.inr (N y hy)).mono (by decide) (by decide)⟩⟩
theorem main_1_1 : Claimed_1_1 := comes_1 fun _ _ _ _ _ _ h hF => ⟨h.1, hF⟩
theorem main_1_2 : Claimed_1_2 := comes_1 fun _ _ _ _ _ _ h hF => ⟨h.2.1, hF⟩
end Jvm.Pilot.@@N@@
namespace Jvm.Pilot.@@N@@
open Jvm Jvm.ClassFile Sem Op Lib Jvm.Free Jvm.Stand Jvm.Pilot.@@N@@.Jvm.D
/-! MADE BY PROGRAM (witnessworld.py) out of the Statement's table words and the real class files: 18 classes; the members and pool entries that the words name. The judged class is class 1, her method 1. -/
namespace start1
open Jvm.ClassFile
def u (s : String) : CpInfo := .utf8 (stringToUtf16 s)
/-- a pool by its gaps: so many unusable entries, then the entry; so many at the end -/
def gap : Nat → List CpInfo → List CpInfo
  | 0, r => r
  | n + 1, r => .unusable :: gap n r
def poolList (es : List (Nat × CpInfo)) (last : Nat) : List CpInfo := es.foldr (fun e r => gap e.1 (e.2 :: r)) (gap last [])
def pool (es : List (Nat × CpInfo)) (last : Nat) : Array CpInfo := ⟨poolList es last⟩
def fileOf (pool : Array CpInfo) (this : Nat) (attrs : Array Attribute := #[]) (ms : Array MethodInfo := #[]) (fl : Nat := 33) (sup : Nat := 0) (ifs : Array Nat := #[]) (fds : Array FieldInfo := #[]) : ClassFile where
  minorVersion := 0
  majorVersion := 65
  constantPool := pool
  accessFlags := fl
  thisClass := this
  superClass := sup
  interfaces := ifs
  fields := fds
  methods := ms
  attributes := attrs
def plain (name : String) (sup : Option ClassId) : Class where
  name := name
  kind := .ordinary
  loader := none
  accessFlags := 33
  super := sup
  interfaces := #[]
  cf := none
  fields := #[]
  methods := #[]
  instanceTypes := #[]
  staticTypes := #[]
  resolved := #[]
  callSites := []
  init := .initialized
  statics := none
  mirror := none

def pool0 : Array CpInfo := pool [(5, u "<init>"), (0, u "()V"), (1, .class_ 10), (1, u "java/lang/Object")] 113

def k0c0 : Code := { maxStack := 0, maxLocals := 1, code := object_method_1_code, exceptionTable := #[], attributes := #[] }
def k0m0 : Method := { name := "<init>", desc := "()V", sig := { parameters := [], returnType := none }, accessFlags := 1, code := some k0c0 }
/-- java/lang/Object -/
def k0 : Class := { plain "java/lang/Object" none with
  accessFlags := 33
  interfaces := #[]
  cf := some (fileOf pool0 8 #[] #[{ accessFlags := 1, nameIndex := 5, descriptorIndex := 6, attributes := #[] }] 33 0 #[] #[])
  fields := #[]
  methods := #[k0m0]
  instanceTypes := #[]
  staticTypes := #[]
  resolved := Array.replicate 124 none
  statics := none }

def pool1 : Array CpInfo := pool [(2, .class_ 4), (1, u "java/lang/Object"), (0, u "<init>"), (0, u "()V"), (2, .integer 2147483647), (0, .methodref 11 12), (0, .class_ 13), (0, .nameAndType 14 15), (0, u "java/lang/String"), (0, u "valueOf"), (0, u "(C)Ljava/lang/String;"), (0, .class_ 17), (0, u "com/example/terseform/terseform/datatypes/HeldCharacters"), (0, .methodref 16 19), (0, .nameAndType 5 20), (0, u "(II)V"), (0, .methodref 16 22), (0, .nameAndType 23 24), (0, u "letGo"), (0, u "(J)V"), (0, .methodref 16 26), (0, .nameAndType 27 24), (0, u "checkRoom"), (0, .methodref 16 29), (0, .nameAndType 30 31), (0, u "holdGiven"), (0, u "(Ljava/lang/String;)V"), (0, .long 33), (1, .methodref 16 35), (0, .nameAndType 36 6), (0, u "release"), (0, .methodref 38 39), (0, .class_ 40), (0, .nameAndType 41 42), (0, u "java/lang/Math"), (0, u "min"), (0, u "(JJ)J"), (0, .class_ 44), (0, u "com/example/terseform/terseform/datatypes/HeldCharactersLetGoPinLaw"), (2, u "law"), (0, u "(IJJII)Z")] 6

def k1m0 : Method := { name := "<init>", desc := "()V", sig := { parameters := [], returnType := none }, accessFlags := 1, code := none }
def k1c1 : Code := { maxStack := 7, maxLocals := 19, code := code, exceptionTable := #[], attributes := #[] }
def k1m1 : Method := { name := "law", desc := "(IJJII)Z", sig := { parameters := [.int, .long, .long, .int, .int], returnType := some .boolean }, accessFlags := 9, code := some k1c1 }
/-- com/example/terseform/terseform/datatypes/HeldCharactersLetGoPinLaw -/
def k1 : Class := { plain "com/example/terseform/terseform/datatypes/HeldCharactersLetGoPinLaw" (some 0) with
  accessFlags := 49
  interfaces := #[]
  cf := some (fileOf pool1 43 #[] #[{ accessFlags := 1, nameIndex := 5, descriptorIndex := 6, attributes := #[] }, { accessFlags := 9, nameIndex := 47, descriptorIndex := 48, attributes := #[] }] 49 2 #[] #[])
  fields := #[]
  methods := #[k1m0, k1m1]
  instanceTypes := #[]
  staticTypes := #[]
  resolved := Array.replicate 55 none
  statics := none }

def pool2 : Array CpInfo := pool [(1, .class_ 2), (0, u "java/io/Serializable"), (0, .class_ 4), (0, u "java/lang/Object")] 2

/-- java/io/Serializable -/
def k2 : Class := { plain "java/io/Serializable" (some 0) with
  accessFlags := 1537
  interfaces := #[]
  cf := some (fileOf pool2 1 #[] #[] 1537 3 #[] #[])
  fields := #[]
  methods := #[]
  instanceTypes := #[]
  staticTypes := #[]
  resolved := Array.replicate 7 none
  statics := none }

def pool3 : Array CpInfo := pool [(1, .class_ 2), (0, u "java/lang/Comparable"), (0, .class_ 4), (0, u "java/lang/Object")] 7

/-- java/lang/Comparable -/
def k3 : Class := { plain "java/lang/Comparable" (some 0) with
  accessFlags := 1537
  interfaces := #[]
  cf := some (fileOf pool3 1 #[] #[] 1537 3 #[] #[])
  fields := #[]
  methods := #[]
  instanceTypes := #[]
  staticTypes := #[]
  resolved := Array.replicate 12 none
  statics := none }

def pool4 : Array CpInfo := pool [(2, .class_ 4), (1, u "java/lang/CharSequence"), (42, .class_ 48), (0, u "java/lang/CharSequence$1CodePointIterator"), (10, .class_ 60), (0, u "java/lang/CharSequence$1CharIterator"), (5, .class_ 67), (0, u "java/lang/Object")] 63

/-- java/lang/CharSequence -/
def k4 : Class := { plain "java/lang/CharSequence" (some 0) with
  accessFlags := 1537
  interfaces := #[]
  cf := some (fileOf pool4 2 #[.nestMembers #[47, 59]] #[] 1537 66 #[] #[])
  fields := #[]
  methods := #[]
  instanceTypes := #[]
  staticTypes := #[]
  resolved := Array.replicate 131 none
  statics := none }

def pool5 : Array CpInfo := pool [(1, .class_ 2), (0, u "java/lang/constant/Constable"), (0, .class_ 4), (0, u "java/lang/Object")] 6

/-- java/lang/constant/Constable -/
def k5 : Class := { plain "java/lang/constant/Constable" (some 0) with
  accessFlags := 1537
  interfaces := #[]
  cf := some (fileOf pool5 1 #[] #[] 1537 3 #[] #[])
  fields := #[]
  methods := #[]
  instanceTypes := #[]
  staticTypes := #[]
  resolved := Array.replicate 11 none
  statics := none }

def pool6 : Array CpInfo := pool [(1, .class_ 2), (0, u "java/lang/constant/ConstantDesc"), (0, .class_ 4), (0, u "java/lang/Object")] 32

/-- java/lang/constant/ConstantDesc -/
def k6 : Class := { plain "java/lang/constant/ConstantDesc" (some 0) with
  accessFlags := 1537
  interfaces := #[]
  cf := some (fileOf pool6 1 #[] #[] 1537 3 #[] #[])
  fields := #[]
  methods := #[]
  instanceTypes := #[]
  staticTypes := #[]
  resolved := Array.replicate 37 none
  statics := none }

def pool7 : Array CpInfo := pool [(1, .methodref 2 3), (0, .class_ 4), (0, .nameAndType 5 6), (0, u "java/lang/Object"), (0, u "<init>"), (0, u "()V"), (2, .fieldref 10 11), (0, .class_ 12), (0, .nameAndType 13 14), (0, u "java/lang/String"), (0, u "value"), (0, u "[B"), (0, .fieldref 10 16), (0, .nameAndType 17 18), (0, u "coder"), (0, u "B"), (2, u "hash"), (0, u "I"), (2, u "hashIsZero"), (0, u "Z"), (11, .fieldref 10 39), (0, .nameAndType 40 26), (0, u "COMPACT_STRINGS"), (12, u "toBytes"), (53, .class_ 109), (1, u "java/lang/StringLatin1"), (32, u "()Z"), (66, .methodref 10 210), (0, .nameAndType 5 211), (0, u "([BB)V"), (122, u "()I"), (0, .methodref 10 336), (0, .nameAndType 17 337), (0, u "()B"), (31, u "(C)Z"), (137, u "length"), (67, .class_ 576), (0, u "java/lang/CharSequence"), (22, u "CASE_INSENSITIVE_ORDER"), (0, u "Ljava/util/Comparator;"), (91, u "isEmpty"), (89, u "valueOf"), (0, u "(C)Ljava/lang/String;"), (231, .methodref 107 1016), (0, .nameAndType 1017 369), (0, u "canEncode"), (0, .methodref 107 1019), (0, .nameAndType 53 1020), (0, u "(C)[B"), (80, u "serialPersistentFields"), (0, u "[Ljava/io/ObjectStreamField;"), (0, .class_ 1104), (0, u "java/lang/String$CaseInsensitiveComparator"), (1, .class_ 1107), (0, u "java/io/Serializable"), (0, .class_ 1109), (0, u "java/lang/Comparable"), (0, .class_ 1111), (0, u "java/lang/constant/Constable"), (0, .class_ 1113), (0, u "java/lang/constant/ConstantDesc"), (2, u "serialVersionUID"), (0, u "J"), (3, u "REPL"), (0, u "C"), (2, u "LATIN1"), (1, u "UTF16")] 323

def k7m0 : Method := { name := "<init>", desc := "()V", sig := { parameters := [], returnType := none }, accessFlags := 1, code := none }
def k7c1 : Code := { maxStack := 2, maxLocals := 1, code := jdk_42_method_54_code, exceptionTable := #[], attributes := #[] }
def k7m1 : Method := { name := "length", desc := "()I", sig := { parameters := [], returnType := some .int }, accessFlags := 1, code := some k7c1 }
def k7c2 : Code := { maxStack := 1, maxLocals := 1, code := jdk_42_method_55_code, exceptionTable := #[], attributes := #[] }
def k7m2 : Method := { name := "isEmpty", desc := "()Z", sig := { parameters := [], returnType := some .boolean }, accessFlags := 1, code := some k7c2 }
def k7c3 : Code := { maxStack := 4, maxLocals := 1, code := jdk_42_method_139_code, exceptionTable := #[], attributes := #[] }
def k7m3 : Method := { name := "valueOf", desc := "(C)Ljava/lang/String;", sig := { parameters := [.char], returnType := some (.object "java/lang/String") }, accessFlags := 9, code := some k7c3 }
def k7c4 : Code := { maxStack := 2, maxLocals := 3, code := jdk_42_method_151_code, exceptionTable := #[], attributes := #[] }
def k7m4 : Method := { name := "<init>", desc := "([BB)V", sig := { parameters := [(.array .byte), .byte], returnType := none }, accessFlags := 0, code := some k7c4 }
def k7c5 : Code := { maxStack := 1, maxLocals := 1, code := jdk_42_method_152_code, exceptionTable := #[], attributes := #[] }
def k7m5 : Method := { name := "coder", desc := "()B", sig := { parameters := [], returnType := some .byte }, accessFlags := 0, code := some k7c5 }
/-- java/lang/String -/
def k7 : Class := { plain "java/lang/String" (some 0) with
  accessFlags := 49
  interfaces := #[2, 3, 4, 5, 6]
  cf := some (fileOf pool7 10 #[.nestMembers #[1103]] #[{ accessFlags := 1, nameIndex := 5, descriptorIndex := 6, attributes := #[] }, { accessFlags := 1, nameIndex := 507, descriptorIndex := 334, attributes := #[] }, { accessFlags := 1, nameIndex := 692, descriptorIndex := 142, attributes := #[] }, { accessFlags := 9, nameIndex := 782, descriptorIndex := 783, attributes := #[] }, { accessFlags := 0, nameIndex := 5, descriptorIndex := 211, attributes := #[] }, { accessFlags := 0, nameIndex := 17, descriptorIndex := 337, attributes := #[] }] 49 2 #[1106, 1108, 575, 1110, 1112] #[{ accessFlags := 18, nameIndex := 13, descriptorIndex := 14, attributes := #[] }, { accessFlags := 18, nameIndex := 17, descriptorIndex := 18, attributes := #[] }, { accessFlags := 2, nameIndex := 21, descriptorIndex := 22, attributes := #[] }, { accessFlags := 2, nameIndex := 25, descriptorIndex := 26, attributes := #[] }, { accessFlags := 26, nameIndex := 1116, descriptorIndex := 1117, attributes := #[] }, { accessFlags := 24, nameIndex := 40, descriptorIndex := 26, attributes := #[] }, { accessFlags := 26, nameIndex := 1101, descriptorIndex := 1102, attributes := #[] }, { accessFlags := 26, nameIndex := 1121, descriptorIndex := 1122, attributes := #[] }, { accessFlags := 25, nameIndex := 599, descriptorIndex := 600, attributes := #[] }, { accessFlags := 24, nameIndex := 1125, descriptorIndex := 18, attributes := #[] }, { accessFlags := 24, nameIndex := 1127, descriptorIndex := 18, attributes := #[] }])
  fields := #[{ name := "value", type := (.array .byte), accessFlags := 18, slot := 0, constantValue := 0 }, { name := "coder", type := .byte, accessFlags := 18, slot := 1, constantValue := 0 }, { name := "hash", type := .int, accessFlags := 2, slot := 2, constantValue := 0 }, { name := "hashIsZero", type := .boolean, accessFlags := 2, slot := 3, constantValue := 0 }, { name := "serialVersionUID", type := .long, accessFlags := 26, slot := 0, constantValue := 0 }, { name := "COMPACT_STRINGS", type := .boolean, accessFlags := 24, slot := 1, constantValue := 0 }, { name := "serialPersistentFields", type := (.array (.object "java/io/ObjectStreamField")), accessFlags := 26, slot := 2, constantValue := 0 }, { name := "REPL", type := .char, accessFlags := 26, slot := 3, constantValue := 0 }, { name := "CASE_INSENSITIVE_ORDER", type := (.object "java/util/Comparator"), accessFlags := 25, slot := 4, constantValue := 0 }, { name := "LATIN1", type := .byte, accessFlags := 24, slot := 5, constantValue := 0 }, { name := "UTF16", type := .byte, accessFlags := 24, slot := 6, constantValue := 0 }]
  methods := #[k7m0, k7m1, k7m2, k7m3, k7m4, k7m5]
  instanceTypes := #[(.array .byte), .byte, .int, .boolean]
  staticTypes := #[.long, .boolean, (.array (.object "java/io/ObjectStreamField")), .char, (.object "java/util/Comparator"), .byte, .byte]
  resolved := Array.replicate 1451 none
  statics := some 0 }

def pool8 : Array CpInfo := pool [(4, .class_ 6), (1, u "java/lang/Object"), (0, u "<init>"), (0, u "()V"), (5, .class_ 16), (1, u "java/lang/StringLatin1"), (73, u "canEncode"), (14, u "(C)Z"), (15, u "$assertionsDisabled"), (0, u "Z"), (98, .class_ 223), (1, u "java/lang/StringLatin1$LinesSpliterator"), (156, u "toBytes"), (1, u "(C)[B"), (7, .class_ 391), (0, u "java/lang/StringLatin1$CharsSpliterator")] 3

def k8m0 : Method := { name := "<init>", desc := "()V", sig := { parameters := [], returnType := none }, accessFlags := 0, code := none }
def k8c1 : Code := { maxStack := 2, maxLocals := 1, code := jdk_43_method_3_code, exceptionTable := #[], attributes := #[] }
def k8m1 : Method := { name := "canEncode", desc := "(C)Z", sig := { parameters := [.char], returnType := some .boolean }, accessFlags := 9, code := some k8c1 }
def k8c2 : Code := { maxStack := 4, maxLocals := 1, code := jdk_43_method_46_code, exceptionTable := #[], attributes := #[] }
def k8m2 : Method := { name := "toBytes", desc := "(C)[B", sig := { parameters := [.char], returnType := some (.array .byte) }, accessFlags := 9, code := some k8c2 }
/-- java/lang/StringLatin1 -/
def k8 : Class := { plain "java/lang/StringLatin1" (some 0) with
  accessFlags := 48
  interfaces := #[]
  cf := some (fileOf pool8 14 #[.nestMembers #[390, 221]] #[{ accessFlags := 0, nameIndex := 7, descriptorIndex := 8, attributes := #[] }, { accessFlags := 9, nameIndex := 90, descriptorIndex := 105, attributes := #[] }, { accessFlags := 9, nameIndex := 380, descriptorIndex := 382, attributes := #[] }] 48 4 #[] #[{ accessFlags := 4120, nameIndex := 121, descriptorIndex := 122, attributes := #[] }])
  fields := #[{ name := "$assertionsDisabled", type := .boolean, accessFlags := 4120, slot := 0, constantValue := 0 }]
  methods := #[k8m0, k8m1, k8m2]
  instanceTypes := #[]
  staticTypes := #[.boolean]
  resolved := Array.replicate 395 none
  statics := none }

def pool9 : Array CpInfo := pool [(3, .methodref 4 5), (0, .class_ 6), (0, .nameAndType 7 8), (0, u "java/lang/Object"), (0, u "<init>"), (0, u "()V"), (0, .fieldref 10 11), (0, .class_ 12), (0, .nameAndType 13 14), (0, u "com/example/terseform/terseform/datatypes/HeldCharacters"), (0, u "limit"), (0, u "I"), (0, .fieldref 10 16), (0, .nameAndType 17 14), (0, u "nameLimit"), (0, .methodref 19 20), (0, .class_ 21), (0, .nameAndType 22 23), (0, u "java/lang/String"), (0, u "length"), (0, u "()I"), (0, .long 32), (1, .integer 2147483647), (0, .fieldref 10 28), (0, .nameAndType 29 30), (0, u "kept"), (0, u "J"), (0, .fieldref 10 32), (0, .nameAndType 33 30), (0, u "held"), (0, .fieldref 10 35), (0, .nameAndType 36 30), (0, u "reading"), (8, u "(Ljava/lang/String;)V"), (0, .methodref 10 47), (0, .nameAndType 48 49), (0, u "count"), (0, u "(Ljava/lang/String;)J"), (3, .methodref 19 54), (0, .nameAndType 55 56), (0, u "isEmpty"), (0, u "()Z"), (2, .fieldref 10 60), (0, .nameAndType 61 30), (0, u "given"), (2, u "holdGiven"), (3, .methodref 69 70), (0, .class_ 71), (0, .nameAndType 72 73), (0, u "java/lang/Math"), (0, u "min"), (0, u "(JJ)J"), (2, u "names"), (7, u "VALUE_WEIGHT"), (2, u "EVENT_WEIGHT"), (1, u "PART_WEIGHT"), (0, u "UNBOUNDED"), (0, u "(II)V"), (2, u "checkRoom"), (0, u "(J)V"), (4, u "letGo"), (5, u "release")] 28

def k9c0 : Code := { maxStack := 2, maxLocals := 3, code := prog_27_method_1_code, exceptionTable := #[], attributes := #[] }
def k9m0 : Method := { name := "<init>", desc := "(II)V", sig := { parameters := [.int, .int], returnType := none }, accessFlags := 1, code := some k9c0 }
def k9c1 : Code := { maxStack := 4, maxLocals := 1, code := prog_27_method_2_code, exceptionTable := #[], attributes := #[] }
def k9m1 : Method := { name := "count", desc := "(Ljava/lang/String;)J", sig := { parameters := [(.object "java/lang/String")], returnType := some .long }, accessFlags := 9, code := some k9c1 }
def k9c2 : Code := { maxStack := 8, maxLocals := 3, code := prog_27_method_3_code, exceptionTable := #[], attributes := #[] }
def k9m2 : Method := { name := "checkRoom", desc := "(J)V", sig := { parameters := [.long], returnType := none }, accessFlags := 1, code := some k9c2 }
def k9c3 : Code := { maxStack := 5, maxLocals := 3, code := prog_27_method_6_code, exceptionTable := #[], attributes := #[] }
def k9m3 : Method := { name := "letGo", desc := "(J)V", sig := { parameters := [.long], returnType := none }, accessFlags := 1, code := some k9c3 }
def k9c4 : Code := { maxStack := 5, maxLocals := 2, code := prog_27_method_10_code, exceptionTable := #[], attributes := #[] }
def k9m4 : Method := { name := "holdGiven", desc := "(Ljava/lang/String;)V", sig := { parameters := [(.object "java/lang/String")], returnType := none }, accessFlags := 1, code := some k9c4 }
def k9c5 : Code := { maxStack := 5, maxLocals := 1, code := prog_27_method_13_code, exceptionTable := #[], attributes := #[] }
def k9m5 : Method := { name := "release", desc := "()V", sig := { parameters := [], returnType := none }, accessFlags := 1, code := some k9c5 }
/-- com/example/terseform/terseform/datatypes/HeldCharacters -/
def k9 : Class := { plain "com/example/terseform/terseform/datatypes/HeldCharacters" (some 0) with
  accessFlags := 49
  interfaces := #[]
  cf := some (fileOf pool9 10 #[] #[{ accessFlags := 1, nameIndex := 7, descriptorIndex := 91, attributes := #[] }, { accessFlags := 9, nameIndex := 48, descriptorIndex := 49, attributes := #[] }, { accessFlags := 1, nameIndex := 94, descriptorIndex := 95, attributes := #[] }, { accessFlags := 1, nameIndex := 100, descriptorIndex := 95, attributes := #[] }, { accessFlags := 1, nameIndex := 64, descriptorIndex := 45, attributes := #[] }, { accessFlags := 1, nameIndex := 106, descriptorIndex := 8, attributes := #[] }] 49 4 #[] #[{ accessFlags := 25, nameIndex := 84, descriptorIndex := 14, attributes := #[] }, { accessFlags := 25, nameIndex := 87, descriptorIndex := 14, attributes := #[] }, { accessFlags := 25, nameIndex := 89, descriptorIndex := 14, attributes := #[] }, { accessFlags := 26, nameIndex := 90, descriptorIndex := 14, attributes := #[] }, { accessFlags := 18, nameIndex := 13, descriptorIndex := 14, attributes := #[] }, { accessFlags := 18, nameIndex := 17, descriptorIndex := 14, attributes := #[] }, { accessFlags := 2, nameIndex := 29, descriptorIndex := 30, attributes := #[] }, { accessFlags := 2, nameIndex := 76, descriptorIndex := 30, attributes := #[] }, { accessFlags := 2, nameIndex := 33, descriptorIndex := 30, attributes := #[] }, { accessFlags := 2, nameIndex := 36, descriptorIndex := 30, attributes := #[] }, { accessFlags := 2, nameIndex := 61, descriptorIndex := 30, attributes := #[] }])
  fields := #[{ name := "VALUE_WEIGHT", type := .int, accessFlags := 25, slot := 0, constantValue := 0 }, { name := "EVENT_WEIGHT", type := .int, accessFlags := 25, slot := 1, constantValue := 0 }, { name := "PART_WEIGHT", type := .int, accessFlags := 25, slot := 2, constantValue := 0 }, { name := "UNBOUNDED", type := .int, accessFlags := 26, slot := 3, constantValue := 0 }, { name := "limit", type := .int, accessFlags := 18, slot := 0, constantValue := 0 }, { name := "nameLimit", type := .int, accessFlags := 18, slot := 1, constantValue := 0 }, { name := "kept", type := .long, accessFlags := 2, slot := 2, constantValue := 0 }, { name := "names", type := .long, accessFlags := 2, slot := 3, constantValue := 0 }, { name := "held", type := .long, accessFlags := 2, slot := 4, constantValue := 0 }, { name := "reading", type := .long, accessFlags := 2, slot := 5, constantValue := 0 }, { name := "given", type := .long, accessFlags := 2, slot := 6, constantValue := 0 }]
  methods := #[k9m0, k9m1, k9m2, k9m3, k9m4, k9m5]
  instanceTypes := #[.int, .int, .long, .long, .long, .long, .long]
  staticTypes := #[.int, .int, .int, .int]
  resolved := Array.replicate 135 none
  statics := none }

def pool10 : Array CpInfo := pool [(1, .class_ 2), (0, u "java/lang/Math"), (1, .class_ 6), (1, u "java/lang/Object"), (0, u "<init>"), (0, u "()V"), (89, .class_ 100), (1, u "java/lang/Math$RandomNumberGeneratorHolder"), (20, u "(JJ)J"), (50, u "negativeZeroFloatBits"), (0, u "J"), (2, u "negativeZeroDoubleBits"), (24, u "min"), (43, u "$assertionsDisabled"), (0, u "Z"), (91, u "twoToTheDoubleScaleDown"), (0, u "D"), (4, u "twoToTheDoubleScaleUp"), (9, u "E"), (3, u "PI"), (2, u "TAU"), (2, u "DEGREES_TO_RADIANS"), (0, u "RADIANS_TO_DEGREES")] 94

def k10m0 : Method := { name := "<init>", desc := "()V", sig := { parameters := [], returnType := none }, accessFlags := 2, code := none }
def k10c1 : Code := { maxStack := 4, maxLocals := 4, code := jdk_29_method_70_code, exceptionTable := #[], attributes := #[] }
def k10m1 : Method := { name := "min", desc := "(JJ)J", sig := { parameters := [.long, .long], returnType := some .long }, accessFlags := 9, code := some k10c1 }
/-- java/lang/Math -/
def k10 : Class := { plain "java/lang/Math" (some 0) with
  accessFlags := 49
  interfaces := #[]
  cf := some (fileOf pool10 1 #[.nestMembers #[98]] #[{ accessFlags := 2, nameIndex := 7, descriptorIndex := 8, attributes := #[] }, { accessFlags := 9, nameIndex := 201, descriptorIndex := 121, attributes := #[] }] 49 4 #[] #[{ accessFlags := 25, nameIndex := 354, descriptorIndex := 339, attributes := #[] }, { accessFlags := 25, nameIndex := 358, descriptorIndex := 339, attributes := #[] }, { accessFlags := 25, nameIndex := 361, descriptorIndex := 339, attributes := #[] }, { accessFlags := 26, nameIndex := 364, descriptorIndex := 339, attributes := #[] }, { accessFlags := 26, nameIndex := 365, descriptorIndex := 339, attributes := #[] }, { accessFlags := 26, nameIndex := 172, descriptorIndex := 173, attributes := #[] }, { accessFlags := 26, nameIndex := 176, descriptorIndex := 173, attributes := #[] }, { accessFlags := 8, nameIndex := 344, descriptorIndex := 339, attributes := #[] }, { accessFlags := 8, nameIndex := 338, descriptorIndex := 339, attributes := #[] }, { accessFlags := 4120, nameIndex := 245, descriptorIndex := 246, attributes := #[] }])
  fields := #[{ name := "E", type := .double, accessFlags := 25, slot := 0, constantValue := 0 }, { name := "PI", type := .double, accessFlags := 25, slot := 1, constantValue := 0 }, { name := "TAU", type := .double, accessFlags := 25, slot := 2, constantValue := 0 }, { name := "DEGREES_TO_RADIANS", type := .double, accessFlags := 26, slot := 3, constantValue := 0 }, { name := "RADIANS_TO_DEGREES", type := .double, accessFlags := 26, slot := 4, constantValue := 0 }, { name := "negativeZeroFloatBits", type := .long, accessFlags := 26, slot := 5, constantValue := 0 }, { name := "negativeZeroDoubleBits", type := .long, accessFlags := 26, slot := 6, constantValue := 0 }, { name := "twoToTheDoubleScaleUp", type := .double, accessFlags := 8, slot := 7, constantValue := 0 }, { name := "twoToTheDoubleScaleDown", type := .double, accessFlags := 8, slot := 8, constantValue := 0 }, { name := "$assertionsDisabled", type := .boolean, accessFlags := 4120, slot := 9, constantValue := 0 }]
  methods := #[k10m0, k10m1]
  instanceTypes := #[]
  staticTypes := #[.double, .double, .double, .double, .double, .long, .long, .double, .double, .boolean]
  resolved := Array.replicate 460 none
  statics := none }

def pool11 : Array CpInfo := pool [(2, .class_ 4), (1, u "java/lang/Object"), (0, u "<init>"), (0, u "()V"), (17, .class_ 26), (1, u "jdk/internal/util/Preconditions"), (28, .class_ 56), (0, u "jdk/internal/util/Preconditions$4"), (57, .class_ 115), (0, u "jdk/internal/util/Preconditions$1"), (7, u "SIOOBE_FORMATTER"), (0, u "Ljava/util/function/BiFunction;"), (0, .class_ 126), (0, u "jdk/internal/util/Preconditions$2"), (3, u "AIOOBE_FORMATTER"), (0, .class_ 132), (0, u "jdk/internal/util/Preconditions$3"), (3, u "IOOBE_FORMATTER")] 57

def k11m0 : Method := { name := "<init>", desc := "()V", sig := { parameters := [], returnType := none }, accessFlags := 1, code := none }
/-- jdk/internal/util/Preconditions -/
def k11 : Class := { plain "jdk/internal/util/Preconditions" (some 0) with
  accessFlags := 33
  interfaces := #[]
  cf := some (fileOf pool11 24 #[.nestMembers #[55, 131, 125, 114]] #[{ accessFlags := 1, nameIndex := 5, descriptorIndex := 6, attributes := #[] }] 33 2 #[] #[{ accessFlags := 25, nameIndex := 123, descriptorIndex := 124, attributes := #[] }, { accessFlags := 25, nameIndex := 130, descriptorIndex := 124, attributes := #[] }, { accessFlags := 25, nameIndex := 136, descriptorIndex := 124, attributes := #[] }])
  fields := #[{ name := "SIOOBE_FORMATTER", type := (.object "java/util/function/BiFunction"), accessFlags := 25, slot := 0, constantValue := 0 }, { name := "AIOOBE_FORMATTER", type := (.object "java/util/function/BiFunction"), accessFlags := 25, slot := 1, constantValue := 0 }, { name := "IOOBE_FORMATTER", type := (.object "java/util/function/BiFunction"), accessFlags := 25, slot := 2, constantValue := 0 }]
  methods := #[k11m0]
  instanceTypes := #[]
  staticTypes := #[(.object "java/util/function/BiFunction"), (.object "java/util/function/BiFunction"), (.object "java/util/function/BiFunction")]
  resolved := Array.replicate 194 none
  statics := some 1 }

def pool12 : Array CpInfo := pool [(9, u "<init>"), (6, .class_ 18), (1, u "java/lang/Object"), (0, u "()V"), (1, .class_ 23), (1, u "jdk/internal/util/ArraysSupport"), (0, u "LOG2_ARRAY_LONG_INDEX_SCALE"), (0, u "I"), (2, u "U"), (0, u "Ljdk/internal/misc/Unsafe;"), (8, u "BIG_ENDIAN"), (0, u "Z"), (8, u "LOG2_BYTE_BIT_SIZE"), (4, u "LOG2_ARRAY_INT_INDEX_SCALE"), (54, u "JLA"), (0, u "Ljdk/internal/access/JavaLangAccess;"), (11, u "LOG2_ARRAY_BOOLEAN_INDEX_SCALE"), (9, u "LOG2_ARRAY_BYTE_INDEX_SCALE"), (5, u "LOG2_ARRAY_CHAR_INDEX_SCALE"), (5, u "LOG2_ARRAY_SHORT_INDEX_SCALE"), (18, u "LOG2_ARRAY_FLOAT_INDEX_SCALE"), (24, u "LOG2_ARRAY_DOUBLE_INDEX_SCALE"), (89, u "T_BOOLEAN"), (2, u "T_CHAR"), (1, u "T_FLOAT"), (1, u "T_DOUBLE"), (1, u "T_BYTE"), (1, u "T_SHORT"), (1, u "T_INT"), (1, u "T_LONG"), (1, u "SOFT_MAX_ARRAY_LENGTH")] 83

def k12m0 : Method := { name := "<init>", desc := "()V", sig := { parameters := [], returnType := none }, accessFlags := 2, code := none }
/-- jdk/internal/util/ArraysSupport -/
def k12 : Class := { plain "jdk/internal/util/ArraysSupport" (some 0) with
  accessFlags := 33
  interfaces := #[]
  cf := some (fileOf pool12 21 #[] #[{ accessFlags := 2, nameIndex := 9, descriptorIndex := 19, attributes := #[] }] 33 16 #[] #[{ accessFlags := 24, nameIndex := 28, descriptorIndex := 29, attributes := #[] }, { accessFlags := 26, nameIndex := 38, descriptorIndex := 39, attributes := #[] }, { accessFlags := 25, nameIndex := 121, descriptorIndex := 25, attributes := #[] }, { accessFlags := 25, nameIndex := 131, descriptorIndex := 25, attributes := #[] }, { accessFlags := 25, nameIndex := 137, descriptorIndex := 25, attributes := #[] }, { accessFlags := 25, nameIndex := 143, descriptorIndex := 25, attributes := #[] }, { accessFlags := 25, nameIndex := 53, descriptorIndex := 25, attributes := #[] }, { accessFlags := 25, nameIndex := 24, descriptorIndex := 25, attributes := #[] }, { accessFlags := 25, nameIndex := 162, descriptorIndex := 25, attributes := #[] }, { accessFlags := 25, nameIndex := 187, descriptorIndex := 25, attributes := #[] }, { accessFlags := 26, nameIndex := 48, descriptorIndex := 25, attributes := #[] }, { accessFlags := 25, nameIndex := 277, descriptorIndex := 25, attributes := #[] }, { accessFlags := 25, nameIndex := 280, descriptorIndex := 25, attributes := #[] }, { accessFlags := 25, nameIndex := 282, descriptorIndex := 25, attributes := #[] }, { accessFlags := 25, nameIndex := 284, descriptorIndex := 25, attributes := #[] }, { accessFlags := 25, nameIndex := 286, descriptorIndex := 25, attributes := #[] }, { accessFlags := 25, nameIndex := 288, descriptorIndex := 25, attributes := #[] }, { accessFlags := 25, nameIndex := 290, descriptorIndex := 25, attributes := #[] }, { accessFlags := 25, nameIndex := 292, descriptorIndex := 25, attributes := #[] }, { accessFlags := 26, nameIndex := 108, descriptorIndex := 109, attributes := #[] }, { accessFlags := 25, nameIndex := 294, descriptorIndex := 25, attributes := #[] }])
  fields := #[{ name := "U", type := (.object "jdk/internal/misc/Unsafe"), accessFlags := 24, slot := 0, constantValue := 0 }, { name := "BIG_ENDIAN", type := .boolean, accessFlags := 26, slot := 1, constantValue := 0 }, { name := "LOG2_ARRAY_BOOLEAN_INDEX_SCALE", type := .int, accessFlags := 25, slot := 2, constantValue := 0 }, { name := "LOG2_ARRAY_BYTE_INDEX_SCALE", type := .int, accessFlags := 25, slot := 3, constantValue := 0 }, { name := "LOG2_ARRAY_CHAR_INDEX_SCALE", type := .int, accessFlags := 25, slot := 4, constantValue := 0 }, { name := "LOG2_ARRAY_SHORT_INDEX_SCALE", type := .int, accessFlags := 25, slot := 5, constantValue := 0 }, { name := "LOG2_ARRAY_INT_INDEX_SCALE", type := .int, accessFlags := 25, slot := 6, constantValue := 0 }, { name := "LOG2_ARRAY_LONG_INDEX_SCALE", type := .int, accessFlags := 25, slot := 7, constantValue := 0 }, { name := "LOG2_ARRAY_FLOAT_INDEX_SCALE", type := .int, accessFlags := 25, slot := 8, constantValue := 0 }, { name := "LOG2_ARRAY_DOUBLE_INDEX_SCALE", type := .int, accessFlags := 25, slot := 9, constantValue := 0 }, { name := "LOG2_BYTE_BIT_SIZE", type := .int, accessFlags := 26, slot := 10, constantValue := 0 }, { name := "T_BOOLEAN", type := .int, accessFlags := 25, slot := 11, constantValue := 0 }, { name := "T_CHAR", type := .int, accessFlags := 25, slot := 12, constantValue := 0 }, { name := "T_FLOAT", type := .int, accessFlags := 25, slot := 13, constantValue := 0 }, { name := "T_DOUBLE", type := .int, accessFlags := 25, slot := 14, constantValue := 0 }, { name := "T_BYTE", type := .int, accessFlags := 25, slot := 15, constantValue := 0 }, { name := "T_SHORT", type := .int, accessFlags := 25, slot := 16, constantValue := 0 }, { name := "T_INT", type := .int, accessFlags := 25, slot := 17, constantValue := 0 }, { name := "T_LONG", type := .int, accessFlags := 25, slot := 18, constantValue := 0 }, { name := "JLA", type := (.object "jdk/internal/access/JavaLangAccess"), accessFlags := 26, slot := 19, constantValue := 0 }, { name := "SOFT_MAX_ARRAY_LENGTH", type := .int, accessFlags := 25, slot := 20, constantValue := 0 }]
  methods := #[k12m0]
  instanceTypes := #[]
  staticTypes := #[(.object "jdk/internal/misc/Unsafe"), .boolean, .int, .int, .int, .int, .int, .int, .int, .int, .int, .int, .int, .int, .int, .int, .int, .int, .int, (.object "jdk/internal/access/JavaLangAccess"), .int]
  resolved := Array.replicate 378 none
  statics := none }

def pool13 : Array CpInfo := pool [(1, u "java/lang/Cloneable"), (0, .class_ 1), (0, u "java/lang/Object"), (0, .class_ 3)] 3

/-- java/lang/Cloneable -/
def k13 : Class := { plain "java/lang/Cloneable" (some 0) with
  accessFlags := 1537
  interfaces := #[]
  cf := some (fileOf pool13 2 #[] #[] 1537 4 #[] #[])
  fields := #[]
  methods := #[]
  instanceTypes := #[]
  staticTypes := #[]
  resolved := Array.replicate 8 none
  statics := none }

/-- the primitive byte -/
def k14 : Class := { plain "byte" none with kind := .primitive 'B', accessFlags := 0x411 }
/-- [B -/
def k15 : Class := { plain "[B" (some 0) with kind := .array 14 .byte, interfaces := #[13, 2], accessFlags := 1041 }

/-- the primitive int -/
def k16 : Class := { plain "int" none with kind := .primitive 'I', accessFlags := 0x411 }
/-- [I -/
def k17 : Class := { plain "[I" (some 0) with kind := .array 16 .int, interfaces := #[13, 2], accessFlags := 1041 }

def heap : Heap := #[{ cls := 7, slots := #[.long 0, .int 1, .null, .int 0, .null, .int 0, .int 0], vm := .statics 7 },
  { cls := 11, slots := #[.null, .null, .null], vm := .statics 11 }]
def classes : Array Class := #[k0, k1, k2, k3, k4, k5, k6, k7, k8, k9, k10, k11, k12, k13, k14, k15, k16, k17]
def interned : List (Array UInt16 × Addr) := []
def slotsUsed : Nat := 10
def theMethod : MethodId := ⟨1, 1⟩
def args0 : Array Value := #[.int 5, .long 6, .long 7, .int 1, .int 65]
def aboutOver (below : List Frame) : State where
  vm := { classes := classes, interned := interned.toArray }
  heap := heap
  slotsUsed := slotsUsed
  threads := #[{ frames := .invoking theMethod args0 :: below }]
def below0 : List Frame := [.native { method := ⟨0, 0⟩, args := #[] }]
def about1 : State := aboutOver below0
def p0 : Program := .bare "" "" ""
def e0 : Env := launch0.env 0 0 0
theorem w_frames : about1.frames = Frame.invoking theMethod args0 :: below0 := rfl
set_option maxRecDepth 65536 in
theorem w_args : argsFit about1.vm theMethod args0 = true := by decide +kernel
set_option maxRecDepth 65536 in
theorem w_heap : heapFits about1 = true := by decide +kernel
set_option maxRecDepth 65536 in
theorem w_runnable : about1.curStatus? = some .runnable := by decide +kernel
set_option maxRecDepth 65536 in
theorem w_alone : about1.alone = true := by decide +kernel
set_option maxRecDepth 65536 in
theorem w_named : about1.methodNamed? x = some theMethod := by decide +kernel
set_option maxRecDepth 65536 in
theorem w_hears : about1.hears theMethod below0 = true := by decide +kernel
set_option maxRecDepth 65536 in
theorem w_ripe : about1.ripe theMethod args0 below0 = true := by decide +kernel
theorem w_running : about1.status = .running := rfl
set_option maxRecDepth 65536 in
theorem w_room : about1.hasRoom e0.platform room_1 = true :=
  launch0.hasRoom_least _ room_1 (by decide +kernel) (by decide +kernel) (by decide +kernel) (by decide +kernel) (by decide +kernel) (by decide +kernel)
theorem allAtoms_all (ts : List Jvm.Cond) (a : Array Jvm.Value) (st : Jvm.State) : (allAtoms ts).before a st = ts.all (fun c => c.before a st) := by
  induction ts with
  | nil => rfl
  | cons c t ih =>
    show (Jvm.Cond.and c (allAtoms t)).before a st = _
    rw [Jvm.Cond.before_and, ih, List.all_cons]
def words1 : List Jvm.Cond := Jvm.Cond.code x code maxLocals ret :: tables_1
/-- a 'code' word, met by the world's own term for the bytes: nothing is compared byte by byte -/
theorem code_word {y : MethodName} {bytes : ByteArray} {mx : Nat} {rt : Option FieldType} {a : Array Value} {s : State} {m : MethodId} {meth : Method} {c : Code} (h1 : s.methodNamed? y = some m) (h2 : s.vm.method? m = some meth) (h3 : meth.code = some c) (h4 : c.code = bytes)
    (h5 : (c.maxLocals == mx && c.exceptionTable.isEmpty && decide (c.maxStack ≤ mostOperands) && decide (meth.sig.returnType = rt) && !meth.locks && decide (parseMethodDescriptor y.desc = some meth.sig)) = true) : (Jvm.Cond.code y bytes mx rt).before a s = true := by
  simp only [Bool.and_eq_true, beq_iff_eq, Bool.not_eq_true', decide_eq_true_eq] at h5
  obtain ⟨⟨⟨⟨⟨g1, g2⟩, g3⟩, g4⟩, g5⟩, g6⟩ := h5
  simp [Cond.before, Cond.holds, Cond.value, h1, h2, h3, h4, g1, g2, g3, g4, g5, g6]
def isCode : Jvm.Cond → Bool
  | .code _ _ _ _ => true
  | _ => false
theorem all_split {L : List Jvm.Cond} {P : Jvm.Cond → Bool} (h1 : L.all (fun c => isCode c || P c) = true) (h2 : ∀ c ∈ L.filter isCode, P c = true) : L.all P = true := by
  refine List.all_eq_true.mpr fun c hc => ?_
  have h := List.all_eq_true.mp h1 c hc
  rcases Bool.eq_false_or_eq_true (isCode c) with hi | hi
  · exact h2 c (List.mem_filter.mpr ⟨hc, hi⟩)
  · simpa [hi] using h
set_option maxRecDepth 65536 in
theorem w_c0 : (Jvm.Cond.code x code maxLocals ret).before args0 about1 = true := code_word (m := ⟨1, 1⟩) (meth := k1m1) (c := k1c1) (by decide +kernel) rfl rfl rfl (by decide +kernel)
set_option maxRecDepth 65536 in
theorem w_c1 : (Jvm.Cond.code ({ cls := "java/lang/String", name := "valueOf", desc := "(C)Ljava/lang/String;" } : Jvm.MethodName) jdk_42_method_139_code (1 : Nat) (Option.some (Jvm.ClassFile.FieldType.object "java/lang/String"))).before args0 about1 = true := code_word (m := ⟨7, 3⟩) (meth := k7m3) (c := k7c3) (by decide +kernel) rfl rfl rfl (by decide +kernel)
set_option maxRecDepth 65536 in
theorem w_c2 : (Jvm.Cond.code ({ cls := "java/lang/StringLatin1", name := "canEncode", desc := "(C)Z" } : Jvm.MethodName) jdk_43_method_3_code (1 : Nat) (Option.some Jvm.ClassFile.FieldType.boolean)).before args0 about1 = true := code_word (m := ⟨8, 1⟩) (meth := k8m1) (c := k8c1) (by decide +kernel) rfl rfl rfl (by decide +kernel)
set_option maxRecDepth 65536 in
theorem w_c3 : (Jvm.Cond.code ({ cls := "java/lang/StringLatin1", name := "toBytes", desc := "(C)[B" } : Jvm.MethodName) jdk_43_method_46_code (1 : Nat) (Option.some (Jvm.ClassFile.FieldType.array Jvm.ClassFile.FieldType.byte))).before args0 about1 = true := code_word (m := ⟨8, 2⟩) (meth := k8m2) (c := k8c2) (by decide +kernel) rfl rfl rfl (by decide +kernel)
set_option maxRecDepth 65536 in
theorem w_c4 : (Jvm.Cond.code ({ cls := "java/lang/String", name := "<init>", desc := "([BB)V" } : Jvm.MethodName) jdk_42_method_151_code (3 : Nat) (Option.none : Option Jvm.ClassFile.FieldType)).before args0 about1 = true := code_word (m := ⟨7, 4⟩) (meth := k7m4) (c := k7c4) (by decide +kernel) rfl rfl rfl (by decide +kernel)
set_option maxRecDepth 65536 in
theorem w_c5 : (Jvm.Cond.code ({ cls := "java/lang/Object", name := "<init>", desc := "()V" } : Jvm.MethodName) object_method_1_code (1 : Nat) (Option.none : Option Jvm.ClassFile.FieldType)).before args0 about1 = true := code_word (m := ⟨0, 0⟩) (meth := k0m0) (c := k0c0) (by decide +kernel) rfl rfl rfl (by decide +kernel)
set_option maxRecDepth 65536 in
theorem w_c6 : (Jvm.Cond.code ({ cls := "com/example/terseform/terseform/datatypes/HeldCharacters", name := "<init>", desc := "(II)V" } : Jvm.MethodName) prog_27_method_1_code (3 : Nat) (Option.none : Option Jvm.ClassFile.FieldType)).before args0 about1 = true := code_word (m := ⟨9, 0⟩) (meth := k9m0) (c := k9c0) (by decide +kernel) rfl rfl rfl (by decide +kernel)
set_option maxRecDepth 65536 in
theorem w_c7 : (Jvm.Cond.code ({ cls := "com/example/terseform/terseform/datatypes/HeldCharacters", name := "letGo", desc := "(J)V" } : Jvm.MethodName) prog_27_method_6_code (3 : Nat) (Option.none : Option Jvm.ClassFile.FieldType)).before args0 about1 = true := code_word (m := ⟨9, 3⟩) (meth := k9m3) (c := k9c3) (by decide +kernel) rfl rfl rfl (by decide +kernel)
set_option maxRecDepth 65536 in
theorem w_c8 : (Jvm.Cond.code ({ cls := "com/example/terseform/terseform/datatypes/HeldCharacters", name := "checkRoom", desc := "(J)V" } : Jvm.MethodName) prog_27_method_3_code (3 : Nat) (Option.none : Option Jvm.ClassFile.FieldType)).before args0 about1 = true := code_word (m := ⟨9, 2⟩) (meth := k9m2) (c := k9c2) (by decide +kernel) rfl rfl rfl (by decide +kernel)
set_option maxRecDepth 65536 in
theorem w_c9 : (Jvm.Cond.code ({ cls := "com/example/terseform/terseform/datatypes/HeldCharacters", name := "release", desc := "()V" } : Jvm.MethodName) prog_27_method_13_code (1 : Nat) (Option.none : Option Jvm.ClassFile.FieldType)).before args0 about1 = true := code_word (m := ⟨9, 5⟩) (meth := k9m5) (c := k9c5) (by decide +kernel) rfl rfl rfl (by decide +kernel)
set_option maxRecDepth 65536 in
theorem w_c10 : (Jvm.Cond.code ({ cls := "java/lang/Math", name := "min", desc := "(JJ)J" } : Jvm.MethodName) jdk_29_method_70_code (4 : Nat) (Option.some Jvm.ClassFile.FieldType.long)).before args0 about1 = true := code_word (m := ⟨10, 1⟩) (meth := k10m1) (c := k10c1) (by decide +kernel) rfl rfl rfl (by decide +kernel)
set_option maxRecDepth 65536 in
theorem w_c11 : (Jvm.Cond.code ({ cls := "com/example/terseform/terseform/datatypes/HeldCharacters", name := "holdGiven", desc := "(Ljava/lang/String;)V" } : Jvm.MethodName) prog_27_method_10_code (2 : Nat) (Option.none : Option Jvm.ClassFile.FieldType)).before args0 about1 = true := code_word (m := ⟨9, 4⟩) (meth := k9m4) (c := k9c4) (by decide +kernel) rfl rfl rfl (by decide +kernel)
set_option maxRecDepth 65536 in
theorem w_c12 : (Jvm.Cond.code ({ cls := "java/lang/String", name := "isEmpty", desc := "()Z" } : Jvm.MethodName) jdk_42_method_55_code (1 : Nat) (Option.some Jvm.ClassFile.FieldType.boolean)).before args0 about1 = true := code_word (m := ⟨7, 2⟩) (meth := k7m2) (c := k7c2) (by decide +kernel) rfl rfl rfl (by decide +kernel)
set_option maxRecDepth 65536 in
theorem w_c13 : (Jvm.Cond.code ({ cls := "com/example/terseform/terseform/datatypes/HeldCharacters", name := "count", desc := "(Ljava/lang/String;)J" } : Jvm.MethodName) prog_27_method_2_code (1 : Nat) (Option.some Jvm.ClassFile.FieldType.long)).before args0 about1 = true := code_word (m := ⟨9, 1⟩) (meth := k9m1) (c := k9c1) (by decide +kernel) rfl rfl rfl (by decide +kernel)
set_option maxRecDepth 65536 in
theorem w_c14 : (Jvm.Cond.code ({ cls := "java/lang/String", name := "length", desc := "()I" } : Jvm.MethodName) jdk_42_method_54_code (1 : Nat) (Option.some Jvm.ClassFile.FieldType.int)).before args0 about1 = true := code_word (m := ⟨7, 1⟩) (meth := k7m1) (c := k7c1) (by decide +kernel) rfl rfl rfl (by decide +kernel)
set_option maxRecDepth 65536 in
theorem w_c15 : (Jvm.Cond.code ({ cls := "java/lang/String", name := "coder", desc := "()B" } : Jvm.MethodName) jdk_42_method_152_code (1 : Nat) (Option.some Jvm.ClassFile.FieldType.byte)).before args0 about1 = true := code_word (m := ⟨7, 5⟩) (meth := k7m5) (c := k7c5) (by decide +kernel) rfl rfl rfl (by decide +kernel)
def codes1 : List Jvm.Cond := [Jvm.Cond.code x code maxLocals ret, Jvm.Cond.code ({ cls := "java/lang/String", name := "valueOf", desc := "(C)Ljava/lang/String;" } : Jvm.MethodName) jdk_42_method_139_code (1 : Nat) (Option.some (Jvm.ClassFile.FieldType.object "java/lang/String")), Jvm.Cond.code ({ cls := "java/lang/StringLatin1", name := "canEncode", desc := "(C)Z" } : Jvm.MethodName) jdk_43_method_3_code (1 : Nat) (Option.some Jvm.ClassFile.FieldType.boolean), Jvm.Cond.code ({ cls := "java/lang/StringLatin1", name := "toBytes", desc := "(C)[B" } : Jvm.MethodName) jdk_43_method_46_code (1 : Nat) (Option.some (Jvm.ClassFile.FieldType.array Jvm.ClassFile.FieldType.byte)), Jvm.Cond.code ({ cls := "java/lang/String", name := "<init>", desc := "([BB)V" } : Jvm.MethodName) jdk_42_method_151_code (3 : Nat) (Option.none : Option Jvm.ClassFile.FieldType), Jvm.Cond.code ({ cls := "java/lang/Object", name := "<init>", desc := "()V" } : Jvm.MethodName) object_method_1_code (1 : Nat) (Option.none : Option Jvm.ClassFile.FieldType), Jvm.Cond.code ({ cls := "com/example/terseform/terseform/datatypes/HeldCharacters", name := "<init>", desc := "(II)V" } : Jvm.MethodName) prog_27_method_1_code (3 : Nat) (Option.none : Option Jvm.ClassFile.FieldType), Jvm.Cond.code ({ cls := "com/example/terseform/terseform/datatypes/HeldCharacters", name := "letGo", desc := "(J)V" } : Jvm.MethodName) prog_27_method_6_code (3 : Nat) (Option.none : Option Jvm.ClassFile.FieldType), Jvm.Cond.code ({ cls := "com/example/terseform/terseform/datatypes/HeldCharacters", name := "checkRoom", desc := "(J)V" } : Jvm.MethodName) prog_27_method_3_code (3 : Nat) (Option.none : Option Jvm.ClassFile.FieldType), Jvm.Cond.code ({ cls := "com/example/terseform/terseform/datatypes/HeldCharacters", name := "release", desc := "()V" } : Jvm.MethodName) prog_27_method_13_code (1 : Nat) (Option.none : Option Jvm.ClassFile.FieldType), Jvm.Cond.code ({ cls := "java/lang/Math", name := "min", desc := "(JJ)J" } : Jvm.MethodName) jdk_29_method_70_code (4 : Nat) (Option.some Jvm.ClassFile.FieldType.long), Jvm.Cond.code ({ cls := "com/example/terseform/terseform/datatypes/HeldCharacters", name := "holdGiven", desc := "(Ljava/lang/String;)V" } : Jvm.MethodName) prog_27_method_10_code (2 : Nat) (Option.none : Option Jvm.ClassFile.FieldType), Jvm.Cond.code ({ cls := "java/lang/String", name := "isEmpty", desc := "()Z" } : Jvm.MethodName) jdk_42_method_55_code (1 : Nat) (Option.some Jvm.ClassFile.FieldType.boolean), Jvm.Cond.code ({ cls := "com/example/terseform/terseform/datatypes/HeldCharacters", name := "count", desc := "(Ljava/lang/String;)J" } : Jvm.MethodName) prog_27_method_2_code (1 : Nat) (Option.some Jvm.ClassFile.FieldType.long), Jvm.Cond.code ({ cls := "java/lang/String", name := "length", desc := "()I" } : Jvm.MethodName) jdk_42_method_54_code (1 : Nat) (Option.some Jvm.ClassFile.FieldType.int), Jvm.Cond.code ({ cls := "java/lang/String", name := "coder", desc := "()B" } : Jvm.MethodName) jdk_42_method_152_code (1 : Nat) (Option.some Jvm.ClassFile.FieldType.byte)]
set_option maxRecDepth 65536 in
theorem codes_eq : words1.filter isCode = codes1 := rfl
theorem w_codes : ∀ c ∈ words1.filter isCode, c.before args0 about1 = true := by
  rw [codes_eq]
  intro c hc
  simp only [codes1, List.mem_cons, List.not_mem_nil, or_false] at hc
  rcases hc with rfl | rfl | rfl | rfl | rfl | rfl | rfl | rfl | rfl | rfl | rfl | rfl | rfl | rfl | rfl | rfl
  · exact w_c0
  · exact w_c1
  · exact w_c2
  · exact w_c3
  · exact w_c4
  · exact w_c5
  · exact w_c6
  · exact w_c7
  · exact w_c8
  · exact w_c9
  · exact w_c10
  · exact w_c11
  · exact w_c12
  · exact w_c13
  · exact w_c14
  · exact w_c15
set_option maxRecDepth 65536 in
theorem w_t1 : (words1.take 24).all (fun c => isCode c || c.before args0 about1) = true := by decide +kernel
set_option maxRecDepth 65536 in
theorem w_t2 : ((words1.drop 24).take 24).all (fun c => isCode c || c.before args0 about1) = true := by decide +kernel
set_option maxRecDepth 65536 in
theorem w_t3 : (((words1.drop 24).drop 24).take 24).all (fun c => isCode c || c.before args0 about1) = true := by decide +kernel
set_option maxRecDepth 65536 in
theorem w_t4 : (((words1.drop 24).drop 24).drop 24).all (fun c => isCode c || c.before args0 about1) = true := by decide +kernel
theorem w_tables : (allAtoms (Jvm.Cond.code x code maxLocals ret :: tables_1)).before args0 about1 = true := by
  rw [allAtoms_all]
  show words1.all (fun c => c.before args0 about1) = true
  refine all_split ?_ w_codes
  rw [← List.take_append_drop 24 words1, List.all_append, w_t1, ← List.take_append_drop 24 (words1.drop 24), List.all_append, w_t2, ← List.take_append_drop 24 ((words1.drop 24).drop 24), List.all_append, w_t3, w_t4]
  rfl
set_option maxRecDepth 65536 in
theorem w_rest : rest_1_c.before args0 about1 = true := by decide +kernel
set_option maxRecDepth 65536 in
theorem w_case : (Jvm.Cond.and given_1 narrow_1).before args0 about1 = true := by decide +kernel
theorem w_applies : (headSpec (Jvm.Cond.code x code maxLocals ret :: tables_1) room_1).applies x e0.platform about1 = true :=
  (Spec.applies_iff w_frames).mpr ⟨w_running, w_runnable, w_alone, w_named, w_hears, w_ripe, w_room, w_tables⟩
theorem atStart : AtStart classFile x code maxLocals ret World_1 tables_1 room_1 Calls_1 rest_1 Pre_1 launch0 p0 e0 about1 theMethod args0 below0 :=
  ⟨lists_1, trivial, launch0.admits_env _ _ _, launch0.least_env, fairChoices_fair.cas, fairChoices_fair.clock, w_frames, w_args, w_heap, w_applies, trivial, w_rest, w_case⟩
end start1
theorem witness_1 : WitnessClaimed_1 := ⟨start1.p0, start1.e0, start1.about1, start1.theMethod, start1.args0, start1.below0, start1.atStart⟩
end Jvm.Pilot.@@N@@
