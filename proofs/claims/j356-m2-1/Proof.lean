import JvmDerived
import JvmDerived.Pilot.@@N@@Statement
import JvmDerived.Pilot.@@N@@Code
set_option linter.unusedVariables false
set_option linter.unusedSimpArgs false
namespace Jvm.RoadKit
open Sem ClassFile Op Lib Jvm.Stand Jvm.Free Jvm.LawKit
section New
variable {p : Program} {l : Launch} {e : Env} {R : Room} {s : State} {m : MethodId} {args : Array Value} {below : List Frame} {meth : Method} {c : Code} {T : State} {locs : List Loc} {cells slots : Nat}
theorem retI (X : Stand p l e R s m args below meth c T locs cells slots) (hx : p.tables.exec = Jvm.exec) {pc : Nat} {Ls : Array Slot} {z : Int32} {rest : List Value} (hret : meth.sig.returnType = some .int) (hd : decode c.code pc = .ok (.ireturn, 1)) {fs : List Frame}
    (hl : ∀ (f : JFrame) (acts : List Action), f.method = m → f.locked = none → f.entered = [] → (doReturn e (T.setTop f) acts (some (.int z))).1 = T.setFrames fs) : Steps p.tables e below (T.setTop (mkF m pc Ls (.int z :: rest))) (T.setFrames fs) := by
  have hm' : T.vm.method? m = some meth := X.method'
  have hn : narrow .int (.int z) = .int z := rfl
  show Steps p.tables e below (T.setTop { method := m, pc := pc, locals := Ls, stack := _ :: rest, locked := none }) _
  jvm_step X.here [X.here.top, hx, hd, hm', hret, hn]
  first | (intro acts; rw [hl _ acts rfl rfl rfl]) | rw [hl _ _ rfl rfl rfl]
  exact Steps.refl _
end New
end Jvm.RoadKit
namespace Jvm.Pilot.@@N@@
open Jvm Jvm.ClassFile Sem Op Lib Jvm.Free Jvm.Stand Jvm.LawKit Jvm.RoadKit Bundle Jvm.Pilot.@@N@@.Jvm.D
theorem own_sta_keep {Z : State} {h h' : Heap} {C n d : String} {v : Value} {ws : List Addr} (F : Sta Z h C n d v) (K : Keep h h' ws) (q : ∀ x ∈ ws, ∃ cell : Cell, h[x]? = some cell ∧ cell.vm.isStatics = false) : Sta Z h' C n d v := by
  obtain ⟨cf, i, k, f, st, cell, h1, h2, h3, h4, h5, h6, h7⟩ := F
  refine ⟨cf, i, k, f, st, cell, h1, h2, h3, h4, K.2.1 st cell h5 (fun hm => ?_), h6, h7⟩
  obtain ⟨c2, e1, e2⟩ := q st hm
  cases h5.symm.trans e1
  rw [e2] at h6
  cases h6
theorem own_ns {Z : State} {h : Heap} {x : Addr} {C : String} (E : Exa Z h x C) : ∃ cell : Cell, h[x]? = some cell ∧ cell.vm.isStatics = false := by
  obtain ⟨cell, k, h1, -, -, h4, -⟩ := E
  exact ⟨cell, h1, h4⟩
theorem d9_0 : decode jdk_52_method_21_code 0 = .ok (.iconst 0, 1) := by decide +kernel
theorem d9_1 : decode jdk_52_method_21_code 1 = .ok (.istore 5, 2) := by decide +kernel
theorem d9_3 : decode jdk_52_method_21_code 3 = .ok (.iload 5, 2) := by decide +kernel
theorem d9_5 : decode jdk_52_method_21_code 5 = .ok (.iload 4, 2) := by decide +kernel
theorem d9_7 : decode jdk_52_method_21_code 7 = .ok (.if_icmp .ge 37, 3) := by decide +kernel
theorem d9_10 : decode jdk_52_method_21_code 10 = .ok (.aload_n 0, 1) := by decide +kernel
theorem d9_11 : decode jdk_52_method_21_code 11 = .ok (.iload_n 1, 1) := by decide +kernel
theorem d9_12 : decode jdk_52_method_21_code 12 = .ok (.caload, 1) := by decide +kernel
theorem d9_13 : decode jdk_52_method_21_code 13 = .ok (.istore 6, 2) := by decide +kernel
theorem d9_15 : decode jdk_52_method_21_code 15 = .ok (.iload 6, 2) := by decide +kernel
theorem d9_17 : decode jdk_52_method_21_code 17 = .ok (.sipush 255, 3) := by decide +kernel
theorem d9_20 : decode jdk_52_method_21_code 20 = .ok (.if_icmp .le 6, 3) := by decide +kernel
theorem d9_26 : decode jdk_52_method_21_code 26 = .ok (.aload_n 2, 1) := by decide +kernel
theorem d9_27 : decode jdk_52_method_21_code 27 = .ok (.iload_n 3, 1) := by decide +kernel
theorem d9_28 : decode jdk_52_method_21_code 28 = .ok (.iload 6, 2) := by decide +kernel
theorem d9_30 : decode jdk_52_method_21_code 30 = .ok (.i2b, 1) := by decide +kernel
theorem d9_31 : decode jdk_52_method_21_code 31 = .ok (.bastore, 1) := by decide +kernel
theorem d9_32 : decode jdk_52_method_21_code 32 = .ok (.iinc 1 1, 3) := by decide +kernel
theorem d9_35 : decode jdk_52_method_21_code 35 = .ok (.iinc 3 1, 3) := by decide +kernel
theorem d9_38 : decode jdk_52_method_21_code 38 = .ok (.iinc 5 1, 3) := by decide +kernel
theorem d9_41 : decode jdk_52_method_21_code 41 = .ok (.goto (-38), 3) := by decide +kernel
theorem d9_44 : decode jdk_52_method_21_code 44 = .ok (.iload 4, 2) := by decide +kernel
theorem d9_46 : decode jdk_52_method_21_code 46 = .ok (.ireturn, 1) := by decide +kernel
theorem pn_9 : plainName "java/lang/StringUTF16" = true := by first | (simp [plainName, overriddenIn]; done) | decide +kernel
theorem ef_9 (m : MethodId) (A0 : Addr) (A2 : Addr) : entryFrame m #[(.ref A0), (.int (0 : Int32)), (.ref A2), (.int (0 : Int32)), (.int (1 : Int32))] 7 = mkF m 0 #[.val (.ref A0), .val (.int (0 : Int32)), .val (.ref A2), .val (.int (0 : Int32)), .val (.int (1 : Int32)), .unset, .unset] [] := by first | (simp [entryFrame, mkF, argsToLocals, Value.category]; done) | rfl
def Q9 (Z : State) (A0 : Addr) (A2 : Addr) (K0 : ClassId) (C0 : Int32) (K1 : ClassId) (XV0 : Int32) (h0 : Heap) (n0 : Nat) (v : Option Value) (h : Heap) (L : List Loc) : Prop := ∃ XV1 : Int32, (v = some (.int (1 : Int32))) ∧ (Fr n0 L) ∧ (Keep h0 h [A2]) ∧ (Arv Z h A2 K1 .byte (1 : Int32) [(.int XV1)] (.int (0 : Int32)))
set_option maxRecDepth 65536 in
set_option maxHeartbeats 40000000 in
theorem rm9 (l : Launch) (Z : State) (a0 : Array Value) (hw : ∀ d ∈ tables_1, d.before a0 Z = true) (ws : List Jvm.Cond) (A0 : Addr) (A2 : Addr) (K0 : ClassId) (C0 : Int32) (K1 : ClassId) (XV0 : Int32) (h0 : Heap) (n0 : Nat) (Z0 : n0 ≤ h0.size) (pm0 : Arv Z h0 A0 K0 .char (1 : Int32) [(.int C0)] (.int (0 : Int32))) (pm1 : Arv Z h0 A2 K1 .byte (1 : Int32) [(.int XV0)] (.int (0 : Int32))) (hle : ¬ ((255 : Int32) < C0)) (hne : A0 ≠ A2) (g_A2 : n0 ≤ A2) :
    MetFree l (⟨"java/lang/StringUTF16", "compress", "([CI[BII)I"⟩ : MethodName) (head1 (Jvm.Cond.code (⟨"java/lang/StringUTF16", "compress", "([CI[BII)I"⟩ : MethodName) jdk_52_method_21_code 7 (some .int) :: ws) ({ frames := 0, cells := 0, slots := 0, locals := 0 } : Room)) (fun a U => a = #[(.ref A0), (.int (0 : Int32)), (.ref A2), (.int (0 : Int32)), (.int (1 : Int32))] ∧ Z.Warmed39 U.vm ∧ U.heap = h0) (fun _ _ _ _ _ => True) (fun _ U o U' => ∃ v L, o = .returned v ∧ Q9 Z A0 A2 K0 C0 K1 XV0 h0 n0 v U'.heap L ∧ FrameEnd U o U' L ({ frames := 0, cells := 0, slots := 0, locals := 0 } : Room).cells ({ frames := 0, cells := 0, slots := 0, locals := 0 } : Room).slots) := by
  refine MetFree.of_bodySF (plainFor_of_name pn_9) hisR ?_
  intro p e s m args below meth c s₁ Bd hml0 hP hK
  obtain ⟨rfl, hZ, hh⟩ := hP
  have hx := Bd.exec
  have hby := Bd.bytes
  have hml : c.maxLocals = 7 := hml0
  have hown : s.vm.findClass "java/lang/StringUTF16" = some m.cls := findClass_of_methodNamed Bd.named
  have hnm := (name_of_methodNamed Bd.named Bd.method).1
  have X0 : Stand p l e ({ frames := 0, cells := 0, slots := 0, locals := 0 } : Room) s m #[(.ref A0), (.int (0 : Int32)), (.ref A2), (.int (0 : Int32)), (.int (1 : Int32))] below meth c s₁ [] 0 0 := Stand.of_body Bd
  have e0 : s₁.heap = h0 := by rw [← hh, Bd.state]; rfl
  have N0 := Fr.nil n0
  have pre0 : ∀ t, Steps p.tables e below (s₁.setTop (mkF m 0 #[.val (.ref A0), .val (.int (0 : Int32)), .val (.ref A2), .val (.int (0 : Int32)), .val (.int (1 : Int32)), .unset, .unset] [])) t → Steps p.tables e below (s₁.setTop (entryFrame m #[(.ref A0), (.int (0 : Int32)), (.ref A2), (.int (0 : Int32)), (.int (1 : Int32))] 7)) t := fun t k => castTop (ef_9 m A0 A2) k
  have K_0 : Keep h0 h0 [A2] := Keep.refl h0 _
  obtain ⟨cl101, Ar101, q101, S101, N_101, H101, G101⟩ := id pm0
  have hin101 : ¬ ((0 : Int32) < 0 ∨ cl101.slots.size ≤ ((0 : Int32)).toNatClampNeg) := inb_of S101 ⟨by decide, by decide⟩
  obtain ⟨cl102, Ar102, q102, S102, N_102, H102, G102⟩ := id pm1
  have hin102 : ¬ ((0 : Int32) < 0 ∨ cl102.slots.size ≤ ((0 : Int32)).toNatClampNeg) := inb_of S102 ⟨by decide, by decide⟩
  obtain ⟨T103, h103, X103, e103, W103, st103⟩ := stB X0 hx hZ e0 Ar102 (j := (0 : Int32)) hin102 (g := (mkF m 31 #[.val (.ref A0), .val (.int (0 : Int32)), .val (.ref A2), .val (.int (0 : Int32)), .val (.int (1 : Int32)), .val (.int (0 : Int32)), .val (.int C0)] [(.int (C0.toInt8.toInt32)), (.int (0 : Int32)), (.ref A2)])) rfl rfl (hb hby d9_31)
  have Z104 : n0 ≤ h103.size := Nat.le_trans Z0 (Nat.le_of_eq W103.size.symm)
  have K_104 : Keep h0 h103 [A2] := K_0.wr W103 (Or.inl (List.mem_of_getElem? (i := 0) rfl))
  have V103 : Arv Z h103 A2 K1 .byte (1 : Int32) [(.int ((C0.toInt8.toInt32).toInt8.toInt32))] (.int (0 : Int32)) := Arv.set Ar102 q102 S102 N_102 H102 G102 (fits_nar_byte _) W103 0 rfl (Nat.le_of_ble_eq_true rfl)
  have N103 := Fr.snoc X103 N0 g_A2
  have pre105 : ∀ t, Steps p.tables e below (T103.setTop (mkF m 46 #[.val (.ref A0), .val (.int ((0 : Int32) + (1 : Int32))), .val (.ref A2), .val (.int ((0 : Int32) + (1 : Int32))), .val (.int (1 : Int32)), .val (.int ((0 : Int32) + (1 : Int32))), .val (.int C0)] [(.int (1 : Int32))])) t → Steps p.tables e below (s₁.setTop (entryFrame m #[(.ref A0), (.int (0 : Int32)), (.ref A2), (.int (0 : Int32)), (.int (1 : Int32))] 7)) t := fun t kt => pre0 t (by
      show Steps p.tables e below (s₁.setTop (mkF m 0 #[.val (.ref A0), .val (.int (0 : Int32)), .val (.ref A2), .val (.int (0 : Int32)), .val (.int (1 : Int32)), .unset, .unset] [])) _
      refine XS.iconst X0.here hx rfl (hb hby d9_0) ?_
      show Steps p.tables e below (s₁.setTop (mkF m 1 #[.val (.ref A0), .val (.int (0 : Int32)), .val (.ref A2), .val (.int (0 : Int32)), .val (.int (1 : Int32)), .unset, .unset] [(.int (0 : Int32))])) _
      refine XS.istore X0.here hx rfl (hb hby d9_1) rfl (l' := #[.val (.ref A0), .val (.int (0 : Int32)), .val (.ref A2), .val (.int (0 : Int32)), .val (.int (1 : Int32)), .val (.int (0 : Int32)), .unset]) rfl ?_
      show Steps p.tables e below (s₁.setTop (mkF m 3 #[.val (.ref A0), .val (.int (0 : Int32)), .val (.ref A2), .val (.int (0 : Int32)), .val (.int (1 : Int32)), .val (.int (0 : Int32)), .unset] [])) _
      refine XS.iload X0.here hx rfl (hb hby d9_3) rfl ?_
      show Steps p.tables e below (s₁.setTop (mkF m 5 #[.val (.ref A0), .val (.int (0 : Int32)), .val (.ref A2), .val (.int (0 : Int32)), .val (.int (1 : Int32)), .val (.int (0 : Int32)), .unset] [(.int (0 : Int32))])) _
      refine XS.iload X0.here hx rfl (hb hby d9_5) rfl ?_
      show Steps p.tables e below (s₁.setTop (mkF m 7 #[.val (.ref A0), .val (.int (0 : Int32)), .val (.ref A2), .val (.int (0 : Int32)), .val (.int (1 : Int32)), .val (.int (0 : Int32)), .unset] [(.int (1 : Int32)), (.int (0 : Int32))])) _
      refine XS.icmpNo X0.here hx rfl (hb hby d9_7) rfl (tlt (show (0 : Int32) < (1 : Int32) from (by decide))).2.1 ?_
      show Steps p.tables e below (s₁.setTop (mkF m 10 #[.val (.ref A0), .val (.int (0 : Int32)), .val (.ref A2), .val (.int (0 : Int32)), .val (.int (1 : Int32)), .val (.int (0 : Int32)), .unset] [])) _
      refine XS.aloadN X0.here hx rfl (hb hby d9_10) rfl rfl ?_
      show Steps p.tables e below (s₁.setTop (mkF m 11 #[.val (.ref A0), .val (.int (0 : Int32)), .val (.ref A2), .val (.int (0 : Int32)), .val (.int (1 : Int32)), .val (.int (0 : Int32)), .unset] [(.ref A0)])) _
      refine XS.iloadN X0.here hx rfl (hb hby d9_11) rfl ?_
      show Steps p.tables e below (s₁.setTop (mkF m 12 #[.val (.ref A0), .val (.int (0 : Int32)), .val (.ref A2), .val (.int (0 : Int32)), .val (.int (1 : Int32)), .val (.int (0 : Int32)), .unset] [(.int (0 : Int32)), (.ref A0)])) _
      refine X0.caload hx (j := (0 : Int32)) (v := (.int C0)) (by rw [e0]; exact Ar101.1) (State.isArrayOf_alike hZ.alike Ar101.2.1) Ar101.2.2 hin101 (H101.at hin101 rfl) (g := (mkF m 12 #[.val (.ref A0), .val (.int (0 : Int32)), .val (.ref A2), .val (.int (0 : Int32)), .val (.int (1 : Int32)), .val (.int (0 : Int32)), .unset] [(.int (0 : Int32)), (.ref A0)])) rfl rfl (hb hby d9_12) _ ?_
      show Steps p.tables e below (s₁.setTop (mkF m 13 #[.val (.ref A0), .val (.int (0 : Int32)), .val (.ref A2), .val (.int (0 : Int32)), .val (.int (1 : Int32)), .val (.int (0 : Int32)), .unset] [(.int C0)])) _
      refine XS.istore X0.here hx rfl (hb hby d9_13) rfl (l' := #[.val (.ref A0), .val (.int (0 : Int32)), .val (.ref A2), .val (.int (0 : Int32)), .val (.int (1 : Int32)), .val (.int (0 : Int32)), .val (.int C0)]) rfl ?_
      show Steps p.tables e below (s₁.setTop (mkF m 15 #[.val (.ref A0), .val (.int (0 : Int32)), .val (.ref A2), .val (.int (0 : Int32)), .val (.int (1 : Int32)), .val (.int (0 : Int32)), .val (.int C0)] [])) _
      refine XS.iload X0.here hx rfl (hb hby d9_15) rfl ?_
      show Steps p.tables e below (s₁.setTop (mkF m 17 #[.val (.ref A0), .val (.int (0 : Int32)), .val (.ref A2), .val (.int (0 : Int32)), .val (.int (1 : Int32)), .val (.int (0 : Int32)), .val (.int C0)] [(.int C0)])) _
      refine XS.sipush X0.here hx rfl (hb hby d9_17) ?_
      show Steps p.tables e below (s₁.setTop (mkF m 20 #[.val (.ref A0), .val (.int (0 : Int32)), .val (.ref A2), .val (.int (0 : Int32)), .val (.int (1 : Int32)), .val (.int (0 : Int32)), .val (.int C0)] [(.int (255 : Int32)), (.int C0)])) _
      refine XS.icmpYes X0.here hx rfl (pc0 := 20) (pc' := 26) rfl (hb hby d9_20) rfl (flt (show ¬ ((255 : Int32) < C0) from hle)).2.2.2 (by decide) (by decide) ?_
      show Steps p.tables e below (s₁.setTop (mkF m 26 #[.val (.ref A0), .val (.int (0 : Int32)), .val (.ref A2), .val (.int (0 : Int32)), .val (.int (1 : Int32)), .val (.int (0 : Int32)), .val (.int C0)] [])) _
      refine XS.aloadN X0.here hx rfl (hb hby d9_26) rfl rfl ?_
      show Steps p.tables e below (s₁.setTop (mkF m 27 #[.val (.ref A0), .val (.int (0 : Int32)), .val (.ref A2), .val (.int (0 : Int32)), .val (.int (1 : Int32)), .val (.int (0 : Int32)), .val (.int C0)] [(.ref A2)])) _
      refine XS.iloadN X0.here hx rfl (hb hby d9_27) rfl ?_
      show Steps p.tables e below (s₁.setTop (mkF m 28 #[.val (.ref A0), .val (.int (0 : Int32)), .val (.ref A2), .val (.int (0 : Int32)), .val (.int (1 : Int32)), .val (.int (0 : Int32)), .val (.int C0)] [(.int (0 : Int32)), (.ref A2)])) _
      refine XS.iload X0.here hx rfl (hb hby d9_28) rfl ?_
      show Steps p.tables e below (s₁.setTop (mkF m 30 #[.val (.ref A0), .val (.int (0 : Int32)), .val (.ref A2), .val (.int (0 : Int32)), .val (.int (1 : Int32)), .val (.int (0 : Int32)), .val (.int C0)] [(.int C0), (.int (0 : Int32)), (.ref A2)])) _
      refine XS.i2b X0.here hx rfl (hb hby d9_30) rfl ?_
      show Steps p.tables e below (s₁.setTop (mkF m 31 #[.val (.ref A0), .val (.int (0 : Int32)), .val (.ref A2), .val (.int (0 : Int32)), .val (.int (1 : Int32)), .val (.int (0 : Int32)), .val (.int C0)] [(.int (C0.toInt8.toInt32)), (.int (0 : Int32)), (.ref A2)])) _
      refine st103 _ ?_
      show Steps p.tables e below (T103.setTop (mkF m 32 #[.val (.ref A0), .val (.int (0 : Int32)), .val (.ref A2), .val (.int (0 : Int32)), .val (.int (1 : Int32)), .val (.int (0 : Int32)), .val (.int C0)] [])) _
      refine XS.iinc X103.here hx rfl (hb hby d9_32) rfl (l' := #[.val (.ref A0), .val (.int ((0 : Int32) + (1 : Int32))), .val (.ref A2), .val (.int (0 : Int32)), .val (.int (1 : Int32)), .val (.int (0 : Int32)), .val (.int C0)]) rfl ?_
      show Steps p.tables e below (T103.setTop (mkF m 35 #[.val (.ref A0), .val (.int ((0 : Int32) + (1 : Int32))), .val (.ref A2), .val (.int (0 : Int32)), .val (.int (1 : Int32)), .val (.int (0 : Int32)), .val (.int C0)] [])) _
      refine XS.iinc X103.here hx rfl (hb hby d9_35) rfl (l' := #[.val (.ref A0), .val (.int ((0 : Int32) + (1 : Int32))), .val (.ref A2), .val (.int ((0 : Int32) + (1 : Int32))), .val (.int (1 : Int32)), .val (.int (0 : Int32)), .val (.int C0)]) rfl ?_
      show Steps p.tables e below (T103.setTop (mkF m 38 #[.val (.ref A0), .val (.int ((0 : Int32) + (1 : Int32))), .val (.ref A2), .val (.int ((0 : Int32) + (1 : Int32))), .val (.int (1 : Int32)), .val (.int (0 : Int32)), .val (.int C0)] [])) _
      refine XS.iinc X103.here hx rfl (hb hby d9_38) rfl (l' := #[.val (.ref A0), .val (.int ((0 : Int32) + (1 : Int32))), .val (.ref A2), .val (.int ((0 : Int32) + (1 : Int32))), .val (.int (1 : Int32)), .val (.int ((0 : Int32) + (1 : Int32))), .val (.int C0)]) rfl ?_
      show Steps p.tables e below (T103.setTop (mkF m 41 #[.val (.ref A0), .val (.int ((0 : Int32) + (1 : Int32))), .val (.ref A2), .val (.int ((0 : Int32) + (1 : Int32))), .val (.int (1 : Int32)), .val (.int ((0 : Int32) + (1 : Int32))), .val (.int C0)] [])) _
      refine XS.goto X103.here hx rfl (pc0 := 41) (pc' := 3) rfl (hb hby d9_41) (by decide) (by decide) ?_
      show Steps p.tables e below (T103.setTop (mkF m 3 #[.val (.ref A0), .val (.int ((0 : Int32) + (1 : Int32))), .val (.ref A2), .val (.int ((0 : Int32) + (1 : Int32))), .val (.int (1 : Int32)), .val (.int ((0 : Int32) + (1 : Int32))), .val (.int C0)] [])) _
      refine XS.iload X103.here hx rfl (hb hby d9_3) rfl ?_
      show Steps p.tables e below (T103.setTop (mkF m 5 #[.val (.ref A0), .val (.int ((0 : Int32) + (1 : Int32))), .val (.ref A2), .val (.int ((0 : Int32) + (1 : Int32))), .val (.int (1 : Int32)), .val (.int ((0 : Int32) + (1 : Int32))), .val (.int C0)] [(.int ((0 : Int32) + (1 : Int32)))])) _
      refine XS.iload X103.here hx rfl (hb hby d9_5) rfl ?_
      show Steps p.tables e below (T103.setTop (mkF m 7 #[.val (.ref A0), .val (.int ((0 : Int32) + (1 : Int32))), .val (.ref A2), .val (.int ((0 : Int32) + (1 : Int32))), .val (.int (1 : Int32)), .val (.int ((0 : Int32) + (1 : Int32))), .val (.int C0)] [(.int (1 : Int32)), (.int ((0 : Int32) + (1 : Int32)))])) _
      refine XS.icmpYes X103.here hx rfl (pc0 := 7) (pc' := 44) rfl (hb hby d9_7) rfl (flt (show ¬ (((0 : Int32) + (1 : Int32)) < (1 : Int32)) from (by decide))).2.1 (by decide) (by decide) ?_
      show Steps p.tables e below (T103.setTop (mkF m 44 #[.val (.ref A0), .val (.int ((0 : Int32) + (1 : Int32))), .val (.ref A2), .val (.int ((0 : Int32) + (1 : Int32))), .val (.int (1 : Int32)), .val (.int ((0 : Int32) + (1 : Int32))), .val (.int C0)] [])) _
      refine XS.iload X103.here hx rfl (hb hby d9_44) rfl ?_
      exact kt)
  obtain ⟨fs, hr, hrun, hended, hW, hsame⟩ := X103.leave (v := some (.int (1 : Int32))) (fun h => by rw [Bd.returns] at h; cases h)
  refine ⟨_, _, pre105 _ ?_, hrun, hended, _, _, rfl, ?_, ⟨_, rfl⟩, hW, hsame.mono (by decide) (by decide)⟩
  · show Steps p.tables e below (T103.setTop (mkF m 46 #[.val (.ref A0), .val (.int ((0 : Int32) + (1 : Int32))), .val (.ref A2), .val (.int ((0 : Int32) + (1 : Int32))), .val (.int (1 : Int32)), .val (.int ((0 : Int32) + (1 : Int32))), .val (.int C0)] [(.int (1 : Int32))])) _
    exact retI X103 hx Bd.returns (hb hby d9_46) hr
  · show Q9 Z A0 A2 K0 C0 K1 XV0 h0 n0 _ T103.heap _
    rw [e103]
    exact ⟨((C0.toInt8.toInt32).toInt8.toInt32), rfl, N103, K_104, V103⟩
theorem d8_0 : decode jdk_52_method_16_code 0 = .ok (.iload_n 2, 1) := by decide +kernel
theorem d8_1 : decode jdk_52_method_16_code 1 = .ok (.newarray .byte, 2) := by decide +kernel
theorem d8_3 : decode jdk_52_method_16_code 3 = .ok (.astore_n 3, 1) := by decide +kernel
theorem d8_4 : decode jdk_52_method_16_code 4 = .ok (.aload_n 0, 1) := by decide +kernel
theorem d8_5 : decode jdk_52_method_16_code 5 = .ok (.iload_n 1, 1) := by decide +kernel
theorem d8_6 : decode jdk_52_method_16_code 6 = .ok (.aload_n 3, 1) := by decide +kernel
theorem d8_7 : decode jdk_52_method_16_code 7 = .ok (.iconst 0, 1) := by decide +kernel
theorem d8_8 : decode jdk_52_method_16_code 8 = .ok (.iload_n 2, 1) := by decide +kernel
theorem d8_9 : decode jdk_52_method_16_code 9 = .ok (.invokestatic 115, 3) := by decide +kernel
theorem d8_12 : decode jdk_52_method_16_code 12 = .ok (.istore 4, 2) := by decide +kernel
theorem d8_14 : decode jdk_52_method_16_code 14 = .ok (.iload 4, 2) := by decide +kernel
theorem d8_16 : decode jdk_52_method_16_code 16 = .ok (.iload_n 2, 1) := by decide +kernel
theorem d8_17 : decode jdk_52_method_16_code 17 = .ok (.if_icmp .eq 40, 3) := by decide +kernel
theorem d8_57 : decode jdk_52_method_16_code 57 = .ok (.aload_n 3, 1) := by decide +kernel
theorem d8_58 : decode jdk_52_method_16_code 58 = .ok (.areturn, 1) := by decide +kernel
theorem pn_8 : plainName "java/lang/StringUTF16" = true := by first | (simp [plainName, overriddenIn]; done) | decide +kernel
theorem pd_8_0 : parseMethodDescriptor "([CI[BII)I" = some ⟨[(.array .char), .int, (.array .byte), .int, .int], some .int⟩ := by decide +kernel
theorem ef_8 (m : MethodId) (A0 : Addr) : entryFrame m #[(.ref A0), (.int (0 : Int32)), (.int (1 : Int32))] 6 = mkF m 0 #[.val (.ref A0), .val (.int (0 : Int32)), .val (.int (1 : Int32)), .unset, .unset, .unset] [] := by first | (simp [entryFrame, mkF, argsToLocals, Value.category]; done) | rfl
def Q8 (Z : State) (A0 : Addr) (K0 : ClassId) (C0 : Int32) (h0 : Heap) (n0 : Nat) (v : Option Value) (h : Heap) (L : List Loc) : Prop := ∃ R0 : Addr, ∃ K1 : ClassId, ∃ XV1 : Int32, (v = some (.ref R0)) ∧ (Fr n0 L) ∧ (Keep h0 h []) ∧ (h0.size ≤ R0) ∧ (Arv Z h R0 K1 .byte (1 : Int32) [(.int XV1)] (.int (0 : Int32)))
set_option maxRecDepth 65536 in
set_option maxHeartbeats 40000000 in
theorem rm8 (l : Launch) (Z : State) (a0 : Array Value) (hw : ∀ d ∈ tables_1, d.before a0 Z = true) (ws : List Jvm.Cond) (A0 : Addr) (K0 : ClassId) (C0 : Int32) (h0 : Heap) (n0 : Nat) (Z0 : n0 ≤ h0.size) (pm0 : Arv Z h0 A0 K0 .char (1 : Int32) [(.int C0)] (.int (0 : Int32))) (hle : ¬ ((255 : Int32) < C0)) :
    MetFree l (⟨"java/lang/StringUTF16", "compress", "([CII)[B"⟩ : MethodName) (head1 (Jvm.Cond.code (⟨"java/lang/StringUTF16", "compress", "([CII)[B"⟩ : MethodName) jdk_52_method_16_code 6 (some (.array .byte)) :: ws) ({ frames := 1, cells := 1, slots := 1, locals := 18 } : Room)) (fun a U => a = #[(.ref A0), (.int (0 : Int32)), (.int (1 : Int32))] ∧ Z.Warmed39 U.vm ∧ U.heap = h0) (fun _ _ _ _ _ => True) (fun _ U o U' => ∃ v L, o = .returned v ∧ Q8 Z A0 K0 C0 h0 n0 v U'.heap L ∧ FrameEnd U o U' L ({ frames := 1, cells := 1, slots := 1, locals := 18 } : Room).cells ({ frames := 1, cells := 1, slots := 1, locals := 18 } : Room).slots) := by
  refine MetFree.of_bodySF (plainFor_of_name pn_8) hisR ?_
  intro p e s m args below meth c s₁ Bd hml0 hP hK
  obtain ⟨rfl, hZ, hh⟩ := hP
  have hx := Bd.exec
  have hby := Bd.bytes
  have hml : c.maxLocals = 6 := hml0
  have hown : s.vm.findClass "java/lang/StringUTF16" = some m.cls := findClass_of_methodNamed Bd.named
  have hnm := (name_of_methodNamed Bd.named Bd.method).1
  have X0 : Stand p l e ({ frames := 1, cells := 1, slots := 1, locals := 18 } : Room) s m #[(.ref A0), (.int (0 : Int32)), (.int (1 : Int32))] below meth c s₁ [] 0 0 := Stand.of_body Bd
  have e0 : s₁.heap = h0 := by rw [← hh, Bd.state]; rfl
  have N0 := Fr.nil n0
  have pre0 : ∀ t, Steps p.tables e below (s₁.setTop (mkF m 0 #[.val (.ref A0), .val (.int (0 : Int32)), .val (.int (1 : Int32)), .unset, .unset, .unset] [])) t → Steps p.tables e below (s₁.setTop (entryFrame m #[(.ref A0), (.int (0 : Int32)), (.int (1 : Int32))] 6)) t := fun t k => castTop (ef_8 m A0) k
  have K_0 : Keep h0 h0 [] := Keep.refl h0 _
  obtain ⟨T101, h101, k101, X101, e101, E101, A101, EX101, st101⟩ := newPE X0 hx hZ (hw _ (List.mem_of_getElem? (i := 47) rfl)) e0 (g := (mkF m 1 #[.val (.ref A0), .val (.int (0 : Int32)), .val (.int (1 : Int32)), .unset, .unset, .unset] [(.int (1 : Int32))])) rfl (hb hby d8_1) rfl (by decide) (cap := 1) (by decide) (by decide) (by decide) (by decide) (ad := "[B") (by decide)
  obtain ⟨b101, q101⟩ : ∃ z, z = h0.size := ⟨_, rfl⟩
  rw [← q101] at A101 EX101 st101
  have ne102 : A0 ≠ b101 := Nat.ne_of_lt (Nat.lt_of_lt_of_le pm0.lt (Nat.le_of_eq q101.symm))
  have g_b101 : n0 ≤ b101 := Nat.le_trans Z0 (Nat.le_of_eq q101.symm)
  have sz_b101 : h0.size ≤ b101 := Nat.le_trans K_0.1 (Nat.le_of_eq q101.symm)
  have Z103 : n0 ≤ h101.size := Nat.le_trans Z0 E101.1
  have K_103 : Keep h0 h101 [] := K_0.ext E101
  have V101 : Arv Z h101 b101 k101 .byte (1 : Int32) [(.int (0 : Int32))] (.int (0 : Int32)) := (Arv.new A101 (by decide)).pad (pad_rep [] (.int (0 : Int32)) 1)
  have c104 : Arv Z h101 A0 K0 .char (1 : Int32) [(.int C0)] (.int (0 : Int32)) := (pm0.ext E101)
  obtain ⟨_, _, ⟨T105, L105, k105, n105⟩, -, X105, ⟨Lc105, hQ105, l105, y105, z105⟩, st105⟩ := Jvm.LawKit.callS X101 hx (y := (⟨"java/lang/StringUTF16", "compress", "([CI[BII)I"⟩ : MethodName)) hown (mvT hZ (hw _ (List.mem_of_getElem? (i := 48) rfl))) (mvT hZ (hw _ (List.mem_of_getElem? (i := 49) rfl))) (mvT hZ (hw _ (List.mem_of_getElem? (i := 45) rfl))) (mvT hZ (hw _ (List.mem_of_getElem? (i := 50) rfl))) (by decide) (backOf (W := 0) (rm9 l Z a0 hw [] A0 b101 K0 C0 k101 (0 : Int32) h101 n0 Z103 c104 V101 (show ¬ ((255 : Int32) < C0) from hle) (show A0 ≠ b101 from ne102) g_b101) hZ (hw _ (List.mem_of_getElem? (i := 50) rfl)) (hw _ (List.mem_of_getElem? (i := 45) rfl)) (by decide) (by decide)) (g := (mkF m 9 #[.val (.ref A0), .val (.int (0 : Int32)), .val (.int (1 : Int32)), .val (.ref b101), .unset, .unset] [(.int (1 : Int32)), (.int (0 : Int32)), (.ref b101), (.int (0 : Int32)), (.ref A0)])) rfl (by rw [hml]; rfl) (argsL := [(.ref A0), (.int (0 : Int32)), (.ref b101), (.int (0 : Int32)), (.int (1 : Int32))]) (rest := []) (lenOf pd_8_0 rfl) rfl (by show 2 * 0 + _ ≤ _; exact Nat.le_of_eq rfl) (hb hby d8_9) (fun _ _ => ⟨rfl, e101, (by decide : 1 + 0 ≤ _), (by decide : 1 + 0 ≤ _)⟩)
  dsimp only [Pt.U, Pt.locs, Pt.cells, Pt.slots] at X105 l105 y105 z105 st105 hQ105
  subst l105 y105 z105
  obtain ⟨x105_XV1, rfl, N105q, K105, p105_0⟩ := hQ105
  have N105 := Fr.app N0 N105q
  have Z106 : n0 ≤ T105.heap.size := Nat.le_trans Z103 K105.1
  have K_106 : Keep h0 T105.heap [] := K_103.trans K105 (allS (Or.inr sz_b101) all0)
  have pre107 : ∀ t, Steps p.tables e below (T105.setTop (mkF m 58 #[.val (.ref A0), .val (.int (0 : Int32)), .val (.int (1 : Int32)), .val (.ref b101), .val (.int (1 : Int32)), .unset] [(.ref b101)])) t → Steps p.tables e below (s₁.setTop (entryFrame m #[(.ref A0), (.int (0 : Int32)), (.int (1 : Int32))] 6)) t := fun t kt => pre0 t (by
      show Steps p.tables e below (s₁.setTop (mkF m 0 #[.val (.ref A0), .val (.int (0 : Int32)), .val (.int (1 : Int32)), .unset, .unset, .unset] [])) _
      refine XS.iloadN X0.here hx rfl (hb hby d8_0) rfl ?_
      show Steps p.tables e below (s₁.setTop (mkF m 1 #[.val (.ref A0), .val (.int (0 : Int32)), .val (.int (1 : Int32)), .unset, .unset, .unset] [(.int (1 : Int32))])) _
      refine st101 _ ?_
      show Steps p.tables e below (T101.setTop (mkF m 3 #[.val (.ref A0), .val (.int (0 : Int32)), .val (.int (1 : Int32)), .unset, .unset, .unset] [(.ref b101)])) _
      refine XS.astoreN X101.here hx rfl (hb hby d8_3) rfl rfl (l' := #[.val (.ref A0), .val (.int (0 : Int32)), .val (.int (1 : Int32)), .val (.ref b101), .unset, .unset]) rfl ?_
      show Steps p.tables e below (T101.setTop (mkF m 4 #[.val (.ref A0), .val (.int (0 : Int32)), .val (.int (1 : Int32)), .val (.ref b101), .unset, .unset] [])) _
      refine XS.aloadN X101.here hx rfl (hb hby d8_4) rfl rfl ?_
      show Steps p.tables e below (T101.setTop (mkF m 5 #[.val (.ref A0), .val (.int (0 : Int32)), .val (.int (1 : Int32)), .val (.ref b101), .unset, .unset] [(.ref A0)])) _
      refine XS.iloadN X101.here hx rfl (hb hby d8_5) rfl ?_
      show Steps p.tables e below (T101.setTop (mkF m 6 #[.val (.ref A0), .val (.int (0 : Int32)), .val (.int (1 : Int32)), .val (.ref b101), .unset, .unset] [(.int (0 : Int32)), (.ref A0)])) _
      refine XS.aloadN X101.here hx rfl (hb hby d8_6) rfl rfl ?_
      show Steps p.tables e below (T101.setTop (mkF m 7 #[.val (.ref A0), .val (.int (0 : Int32)), .val (.int (1 : Int32)), .val (.ref b101), .unset, .unset] [(.ref b101), (.int (0 : Int32)), (.ref A0)])) _
      refine XS.iconst X101.here hx rfl (hb hby d8_7) ?_
      show Steps p.tables e below (T101.setTop (mkF m 8 #[.val (.ref A0), .val (.int (0 : Int32)), .val (.int (1 : Int32)), .val (.ref b101), .unset, .unset] [(.int (0 : Int32)), (.ref b101), (.int (0 : Int32)), (.ref A0)])) _
      refine XS.iloadN X101.here hx rfl (hb hby d8_8) rfl ?_
      show Steps p.tables e below (T101.setTop (mkF m 9 #[.val (.ref A0), .val (.int (0 : Int32)), .val (.int (1 : Int32)), .val (.ref b101), .unset, .unset] [(.int (1 : Int32)), (.int (0 : Int32)), (.ref b101), (.int (0 : Int32)), (.ref A0)])) _
      refine st105 _ ?_
      show Steps p.tables e below (T105.setTop (mkF m 12 #[.val (.ref A0), .val (.int (0 : Int32)), .val (.int (1 : Int32)), .val (.ref b101), .unset, .unset] [(.int (1 : Int32))])) _
      refine XS.istore X105.here hx rfl (hb hby d8_12) rfl (l' := #[.val (.ref A0), .val (.int (0 : Int32)), .val (.int (1 : Int32)), .val (.ref b101), .val (.int (1 : Int32)), .unset]) rfl ?_
      show Steps p.tables e below (T105.setTop (mkF m 14 #[.val (.ref A0), .val (.int (0 : Int32)), .val (.int (1 : Int32)), .val (.ref b101), .val (.int (1 : Int32)), .unset] [])) _
      refine XS.iload X105.here hx rfl (hb hby d8_14) rfl ?_
      show Steps p.tables e below (T105.setTop (mkF m 16 #[.val (.ref A0), .val (.int (0 : Int32)), .val (.int (1 : Int32)), .val (.ref b101), .val (.int (1 : Int32)), .unset] [(.int (1 : Int32))])) _
      refine XS.iloadN X105.here hx rfl (hb hby d8_16) rfl ?_
      show Steps p.tables e below (T105.setTop (mkF m 17 #[.val (.ref A0), .val (.int (0 : Int32)), .val (.int (1 : Int32)), .val (.ref b101), .val (.int (1 : Int32)), .unset] [(.int (1 : Int32)), (.int (1 : Int32))])) _
      refine XS.icmpYes X105.here hx rfl (pc0 := 17) (pc' := 57) rfl (hb hby d8_17) rfl (teq (show (1 : Int32) = (1 : Int32) from (by decide))).1 (by decide) (by decide) ?_
      show Steps p.tables e below (T105.setTop (mkF m 57 #[.val (.ref A0), .val (.int (0 : Int32)), .val (.int (1 : Int32)), .val (.ref b101), .val (.int (1 : Int32)), .unset] [])) _
      refine XS.aloadN X105.here hx rfl (hb hby d8_57) rfl rfl ?_
      exact kt)
  obtain ⟨fs, hr, hrun, hended, hW, hsame⟩ := X105.leave (v := some (.ref b101)) (fun h => by rw [Bd.returns] at h; cases h)
  refine ⟨_, _, pre107 _ ?_, hrun, hended, _, _, rfl, ?_, ⟨_, rfl⟩, hW, hsame.mono (by decide) (by decide)⟩
  · show Steps p.tables e below (T105.setTop (mkF m 58 #[.val (.ref A0), .val (.int (0 : Int32)), .val (.int (1 : Int32)), .val (.ref b101), .val (.int (1 : Int32)), .unset] [(.ref b101)])) _
    exact retOut X105 hx Bd.returns rfl (Or.inr (Or.inr (Or.inr (Or.inr ⟨rfl, rfl, rfl⟩)))) (hb hby d8_58) hr
  · show Q8 Z A0 K0 C0 h0 n0 _ T105.heap _
    exact ⟨b101, k101, x105_XV1, rfl, N105, K_106, sz_b101, p105_0⟩
theorem d10_0 : decode jdk_52_method_15_code 0 = .ok (.iload_n 1, 1) := by decide +kernel
theorem d10_1 : decode jdk_52_method_15_code 1 = .ok (.aload_n 0, 1) := by decide +kernel
theorem d10_2 : decode jdk_52_method_15_code 2 = .ok (.arraylength, 1) := by decide +kernel
theorem d10_3 : decode jdk_52_method_15_code 3 = .ok (.isub, 1) := by decide +kernel
theorem d10_4 : decode jdk_52_method_15_code 4 = .ok (.bipush 31, 2) := by decide +kernel
theorem d10_6 : decode jdk_52_method_15_code 6 = .ok (.iushr, 1) := by decide +kernel
theorem d10_7 : decode jdk_52_method_15_code 7 = .ok (.i2b, 1) := by decide +kernel
theorem d10_8 : decode jdk_52_method_15_code 8 = .ok (.ireturn, 1) := by decide +kernel
theorem pn_10 : plainName "java/lang/StringUTF16" = true := by first | (simp [plainName, overriddenIn]; done) | decide +kernel
theorem ef_10 (m : MethodId) (A0 : Addr) : entryFrame m #[(.ref A0), (.int (1 : Int32))] 2 = mkF m 0 #[.val (.ref A0), .val (.int (1 : Int32))] [] := by first | (simp [entryFrame, mkF, argsToLocals, Value.category]; done) | rfl
def Q10 (Z : State) (A0 : Addr) (K0 : ClassId) (XV0 : Int32) (h0 : Heap) (n0 : Nat) (v : Option Value) (h : Heap) (L : List Loc) : Prop := (v = some (.int (0 : Int32))) ∧ (Fr n0 L) ∧ (h = h0)
set_option maxRecDepth 65536 in
set_option maxHeartbeats 40000000 in
theorem rm10 (l : Launch) (Z : State) (a0 : Array Value) (hw : ∀ d ∈ tables_1, d.before a0 Z = true) (ws : List Jvm.Cond) (A0 : Addr) (K0 : ClassId) (XV0 : Int32) (h0 : Heap) (n0 : Nat) (Z0 : n0 ≤ h0.size) (pm0 : Arv Z h0 A0 K0 .byte (1 : Int32) [(.int XV0)] (.int (0 : Int32))) :
    MetFree l (⟨"java/lang/StringUTF16", "coderFromArrayLen", "([BI)B"⟩ : MethodName) (head1 (Jvm.Cond.code (⟨"java/lang/StringUTF16", "coderFromArrayLen", "([BI)B"⟩ : MethodName) jdk_52_method_15_code 2 (some .byte) :: ws) ({ frames := 0, cells := 0, slots := 0, locals := 0 } : Room)) (fun a U => a = #[(.ref A0), (.int (1 : Int32))] ∧ Z.Warmed39 U.vm ∧ U.heap = h0) (fun _ _ _ _ _ => True) (fun _ U o U' => ∃ v L, o = .returned v ∧ Q10 Z A0 K0 XV0 h0 n0 v U'.heap L ∧ FrameEnd U o U' L ({ frames := 0, cells := 0, slots := 0, locals := 0 } : Room).cells ({ frames := 0, cells := 0, slots := 0, locals := 0 } : Room).slots) := by
  refine MetFree.of_bodySF (plainFor_of_name pn_10) hisR ?_
  intro p e s m args below meth c s₁ Bd hml0 hP hK
  obtain ⟨rfl, hZ, hh⟩ := hP
  have hx := Bd.exec
  have hby := Bd.bytes
  have hml : c.maxLocals = 2 := hml0
  have hown : s.vm.findClass "java/lang/StringUTF16" = some m.cls := findClass_of_methodNamed Bd.named
  have hnm := (name_of_methodNamed Bd.named Bd.method).1
  have X0 : Stand p l e ({ frames := 0, cells := 0, slots := 0, locals := 0 } : Room) s m #[(.ref A0), (.int (1 : Int32))] below meth c s₁ [] 0 0 := Stand.of_body Bd
  have e0 : s₁.heap = h0 := by rw [← hh, Bd.state]; rfl
  have N0 := Fr.nil n0
  have pre0 : ∀ t, Steps p.tables e below (s₁.setTop (mkF m 0 #[.val (.ref A0), .val (.int (1 : Int32))] [])) t → Steps p.tables e below (s₁.setTop (entryFrame m #[(.ref A0), (.int (1 : Int32))] 2)) t := fun t k => castTop (ef_10 m A0) k
  obtain ⟨cl101, Ar101, -, S101, N_101, -, -⟩ := id pm0
  have pre102 : ∀ t, Steps p.tables e below (s₁.setTop (mkF m 8 #[.val (.ref A0), .val (.int (1 : Int32))] [(.int (((((1 : Int32) - (1 : Int32)).toUInt32 >>> ((31 : Int32) &&& 31).toUInt32).toInt32).toInt8.toInt32))])) t → Steps p.tables e below (s₁.setTop (entryFrame m #[(.ref A0), (.int (1 : Int32))] 2)) t := fun t kt => pre0 t (by
      show Steps p.tables e below (s₁.setTop (mkF m 0 #[.val (.ref A0), .val (.int (1 : Int32))] [])) _
      refine XS.iloadN X0.here hx rfl (hb hby d10_0) rfl ?_
      show Steps p.tables e below (s₁.setTop (mkF m 1 #[.val (.ref A0), .val (.int (1 : Int32))] [(.int (1 : Int32))])) _
      refine XS.aloadN X0.here hx rfl (hb hby d10_1) rfl rfl ?_
      show Steps p.tables e below (s₁.setTop (mkF m 2 #[.val (.ref A0), .val (.int (1 : Int32))] [(.ref A0), (.int (1 : Int32))])) _
      refine X0.arraylength hx (by rw [e0]; exact Ar101.1) (State.isArrayOf_alike hZ.alike Ar101.2.1) (g := (mkF m 2 #[.val (.ref A0), .val (.int (1 : Int32))] [(.ref A0), (.int (1 : Int32))])) rfl rfl (hb hby d10_2) _ ?_
      rw [len_of S101 N_101]
      show Steps p.tables e below (s₁.setTop (mkF m 3 #[.val (.ref A0), .val (.int (1 : Int32))] [(.int (1 : Int32)), (.int (1 : Int32))])) _
      refine XS.isub X0.here hx rfl (hb hby d10_3) rfl ?_
      show Steps p.tables e below (s₁.setTop (mkF m 4 #[.val (.ref A0), .val (.int (1 : Int32))] [(.int ((1 : Int32) - (1 : Int32)))])) _
      refine XS.bipush X0.here hx rfl (hb hby d10_4) ?_
      show Steps p.tables e below (s₁.setTop (mkF m 6 #[.val (.ref A0), .val (.int (1 : Int32))] [(.int (31 : Int32)), (.int ((1 : Int32) - (1 : Int32)))])) _
      refine XS.iushr X0.here hx rfl (hb hby d10_6) rfl ?_
      show Steps p.tables e below (s₁.setTop (mkF m 7 #[.val (.ref A0), .val (.int (1 : Int32))] [(.int ((((1 : Int32) - (1 : Int32)).toUInt32 >>> ((31 : Int32) &&& 31).toUInt32).toInt32))])) _
      refine XS.i2b X0.here hx rfl (hb hby d10_7) rfl ?_
      exact kt)
  obtain ⟨fs, hr, hrun, hended, hW, hsame⟩ := X0.leave (v := some (.int (nar .byte (((((1 : Int32) - (1 : Int32)).toUInt32 >>> ((31 : Int32) &&& 31).toUInt32).toInt32).toInt8.toInt32)))) (fun h => by rw [Bd.returns] at h; cases h)
  refine ⟨_, _, pre102 _ ?_, hrun, hended, _, _, rfl, ?_, ⟨_, rfl⟩, hW, hsame.mono (by decide) (by decide)⟩
  · show Steps p.tables e below (s₁.setTop (mkF m 8 #[.val (.ref A0), .val (.int (1 : Int32))] [(.int (((((1 : Int32) - (1 : Int32)).toUInt32 >>> ((31 : Int32) &&& 31).toUInt32).toInt32).toInt8.toInt32))])) _
    exact retN X0 hx (t := .byte) Bd.returns (by simp) (hb hby d10_8) hr
  · show Q10 Z A0 K0 XV0 h0 n0 _ s₁.heap _
    rw [e0]
    exact ⟨(congrArg (fun z => some (Value.int z)) (show (nar .byte (((((1 : Int32) - (1 : Int32)).toUInt32 >>> ((31 : Int32) &&& 31).toUInt32).toInt32).toInt8.toInt32)) = (0 : Int32) from by decide)), N0, rfl⟩
theorem d7_0 : decode jdk_42_method_149_code 0 = .ok (.aload_n 0, 1) := by decide +kernel
theorem d7_1 : decode jdk_42_method_149_code 1 = .ok (.invokespecial 1, 3) := by decide +kernel
theorem d7_4 : decode jdk_42_method_149_code 4 = .ok (.iload_n 3, 1) := by decide +kernel
theorem d7_5 : decode jdk_42_method_149_code 5 = .ok (.ifCond .ne 22, 3) := by decide +kernel
theorem d7_27 : decode jdk_42_method_149_code 27 = .ok (.getstatic 38, 3) := by decide +kernel
theorem d7_30 : decode jdk_42_method_149_code 30 = .ok (.ifCond .eq 28, 3) := by decide +kernel
theorem d7_33 : decode jdk_42_method_149_code 33 = .ok (.aload_n 1, 1) := by decide +kernel
theorem d7_34 : decode jdk_42_method_149_code 34 = .ok (.iload_n 2, 1) := by decide +kernel
theorem d7_35 : decode jdk_42_method_149_code 35 = .ok (.iload_n 3, 1) := by decide +kernel
theorem d7_36 : decode jdk_42_method_149_code 36 = .ok (.invokestatic 177, 3) := by decide +kernel
theorem d7_39 : decode jdk_42_method_149_code 39 = .ok (.astore 5, 2) := by decide +kernel
theorem d7_41 : decode jdk_42_method_149_code 41 = .ok (.aload_n 0, 1) := by decide +kernel
theorem d7_42 : decode jdk_42_method_149_code 42 = .ok (.aload 5, 2) := by decide +kernel
theorem d7_44 : decode jdk_42_method_149_code 44 = .ok (.iload_n 3, 1) := by decide +kernel
theorem d7_45 : decode jdk_42_method_149_code 45 = .ok (.invokestatic 47, 3) := by decide +kernel
theorem d7_48 : decode jdk_42_method_149_code 48 = .ok (.putfield 15, 3) := by decide +kernel
theorem d7_51 : decode jdk_42_method_149_code 51 = .ok (.aload_n 0, 1) := by decide +kernel
theorem d7_52 : decode jdk_42_method_149_code 52 = .ok (.aload 5, 2) := by decide +kernel
theorem d7_54 : decode jdk_42_method_149_code 54 = .ok (.putfield 9, 3) := by decide +kernel
theorem d7_57 : decode jdk_42_method_149_code 57 = .ok (.return_, 1) := by decide +kernel
theorem pn_7 : plainName "java/lang/String" = true := by first | (simp [plainName, overriddenIn]; done) | decide +kernel
theorem pd_7_0 : parseMethodDescriptor "([CII)[B" = some ⟨[(.array .char), .int, .int], some (.array .byte)⟩ := by decide +kernel
theorem pd_7_1 : parseMethodDescriptor "([BI)B" = some ⟨[(.array .byte), .int], some .byte⟩ := by decide +kernel
theorem ef_7 (m : MethodId) (A0 : Addr) (A1 : Addr) : entryFrame m #[(.ref A0), (.ref A1), (.int (0 : Int32)), (.int (1 : Int32)), .null] 6 = mkF m 0 #[.val (.ref A0), .val (.ref A1), .val (.int (0 : Int32)), .val (.int (1 : Int32)), .val .null, .unset] [] := by first | (simp [entryFrame, mkF, argsToLocals, Value.category]; done) | rfl
def Q7 (Z : State) (A0 : Addr) (A1 : Addr) (K0 : ClassId) (C0 : Int32) (W0 : Value) (W2 : Int32) (W1 : Int32) (h0 : Heap) (n0 : Nat) (v : Option Value) (h : Heap) (L : List Loc) : Prop := (v = none) ∧ (Fr n0 L) ∧ (Keep h0 h [A0]) ∧ (Exa Z h A0 "java/lang/String")
set_option maxRecDepth 65536 in
set_option maxHeartbeats 40000000 in
theorem rm7 (l : Launch) (Z : State) (a0 : Array Value) (hw : ∀ d ∈ tables_1, d.before a0 Z = true) (ws : List Jvm.Cond) (A0 : Addr) (A1 : Addr) (K0 : ClassId) (C0 : Int32) (W0 : Value) (W2 : Int32) (W1 : Int32) (h0 : Heap) (n0 : Nat) (Z0 : n0 ≤ h0.size) (pm0 : Fld Z h0 A0 "java/lang/String" "value" "[B" W0) (pm1 : Fld Z h0 A0 "java/lang/String" "coder" "B" (.int W2)) (pm2 : Exa Z h0 A0 "java/lang/String") (pm3 : Arv Z h0 A1 K0 .char (1 : Int32) [(.int C0)] (.int (0 : Int32))) (hle : ¬ ((255 : Int32) < C0)) (pm5 : Sta Z h0 "java/lang/String" "COMPACT_STRINGS" "Z" (.int W1)) (hcs : ¬ (W1 = (0 : Int32))) (g_A0 : n0 ≤ A0) :
    MetFree l (⟨"java/lang/String", "<init>", "([CIILjava/lang/Void;)V"⟩ : MethodName) (head1 (Jvm.Cond.code (⟨"java/lang/String", "<init>", "([CIILjava/lang/Void;)V"⟩ : MethodName) jdk_42_method_149_code 6 none :: ws) ({ frames := 2, cells := 1, slots := 1, locals := 35 } : Room)) (fun a U => a = #[(.ref A0), (.ref A1), (.int (0 : Int32)), (.int (1 : Int32)), .null] ∧ Z.Warmed39 U.vm ∧ U.heap = h0) (fun _ _ _ _ _ => True) (fun _ U o U' => ∃ v L, o = .returned v ∧ Q7 Z A0 A1 K0 C0 W0 W2 W1 h0 n0 v U'.heap L ∧ FrameEnd U o U' L ({ frames := 2, cells := 1, slots := 1, locals := 35 } : Room).cells ({ frames := 2, cells := 1, slots := 1, locals := 35 } : Room).slots) := by
  refine MetFree.of_bodySF (plainFor_of_name pn_7) hisR ?_
  intro p e s m args below meth c s₁ Bd hml0 hP hK
  obtain ⟨rfl, hZ, hh⟩ := hP
  have hx := Bd.exec
  have hby := Bd.bytes
  have hml : c.maxLocals = 6 := hml0
  have hown : s.vm.findClass "java/lang/String" = some m.cls := findClass_of_methodNamed Bd.named
  have hnm := (name_of_methodNamed Bd.named Bd.method).1
  have X0 : Stand p l e ({ frames := 2, cells := 1, slots := 1, locals := 35 } : Room) s m #[(.ref A0), (.ref A1), (.int (0 : Int32)), (.int (1 : Int32)), .null] below meth c s₁ [] 0 0 := Stand.of_body Bd
  have e0 : s₁.heap = h0 := by rw [← hh, Bd.state]; rfl
  have N0 := Fr.nil n0
  have pre0 : ∀ t, Steps p.tables e below (s₁.setTop (mkF m 0 #[.val (.ref A0), .val (.ref A1), .val (.int (0 : Int32)), .val (.int (1 : Int32)), .val .null, .unset] [])) t → Steps p.tables e below (s₁.setTop (entryFrame m #[(.ref A0), (.ref A1), (.int (0 : Int32)), (.int (1 : Int32)), .null] 6)) t := fun t k => castTop (ef_7 m A0 A1) k
  have K_0 : Keep h0 h0 [A0] := Keep.refl h0 _
  obtain ⟨T101, X101, e101, st101⟩ := initO X0 hx hZ hown (hw _ (List.mem_of_getElem? (i := 41) rfl)) (hw _ (List.mem_of_getElem? (i := 8) rfl)) (hw _ (List.mem_of_getElem? (i := 9) rfl)) e0 (g := (mkF m 1 #[.val (.ref A0), .val (.ref A1), .val (.int (0 : Int32)), .val (.int (1 : Int32)), .val .null, .unset] [(.ref A0)])) rfl (by rw [hml]; rfl) rfl (hb hby d7_1) (by decide) (W := 0) (by show 2 * 0 + _ ≤ _; exact Nat.le_of_eq rfl) (by decide)
  obtain ⟨T102, X102, e102, st102⟩ := getS2 X101 hx hZ hown (host := "") (Or.inl (hw _ (List.mem_of_getElem? (i := 42) rfl))) Via.refl e101 pm5 (g := (mkF m 27 #[.val (.ref A0), .val (.ref A1), .val (.int (0 : Int32)), .val (.int (1 : Int32)), .val .null, .unset] [])) rfl (hb hby d7_27)
  obtain ⟨_, _, ⟨T103, L103, k103, n103⟩, -, X103, ⟨Lc103, hQ103, l103, y103, z103⟩, st103⟩ := Jvm.LawKit.callS X102 hx (y := (⟨"java/lang/StringUTF16", "compress", "([CII)[B"⟩ : MethodName)) hown (mvT hZ (hw _ (List.mem_of_getElem? (i := 43) rfl))) (mvT hZ (hw _ (List.mem_of_getElem? (i := 44) rfl))) (mvT hZ (hw _ (List.mem_of_getElem? (i := 45) rfl))) (mvT hZ (hw _ (List.mem_of_getElem? (i := 46) rfl))) (by decide) (backOf (W := 0) (rm8 l Z a0 hw [] A1 K0 C0 h0 n0 Z0 pm3 (show ¬ ((255 : Int32) < C0) from hle)) hZ (hw _ (List.mem_of_getElem? (i := 46) rfl)) (hw _ (List.mem_of_getElem? (i := 45) rfl)) (by decide) (by decide)) (g := (mkF m 36 #[.val (.ref A0), .val (.ref A1), .val (.int (0 : Int32)), .val (.int (1 : Int32)), .val .null, .unset] [(.int (1 : Int32)), (.int (0 : Int32)), (.ref A1)])) rfl (by rw [hml]; rfl) (argsL := [(.ref A1), (.int (0 : Int32)), (.int (1 : Int32))]) (rest := []) (lenOf pd_7_0 rfl) rfl (by show 2 * 0 + _ ≤ _; exact Nat.le_of_eq rfl) (hb hby d7_36) (fun _ _ => ⟨rfl, e102, (by decide : 0 + 1 ≤ _), (by decide : 0 + 1 ≤ _)⟩)
  dsimp only [Pt.U, Pt.locs, Pt.cells, Pt.slots] at X103 l103 y103 z103 st103 hQ103
  subst l103 y103 z103
  obtain ⟨x103_R0, x103_K1, x103_XV1, rfl, N103q, K103, lb103_0, p103_0⟩ := hQ103
  have N103 := Fr.app N0 N103q
  have ne104 : A0 ≠ x103_R0 := Nat.ne_of_lt (Nat.lt_of_lt_of_le pm0.lt lb103_0)
  have ne105 : A1 ≠ x103_R0 := Nat.ne_of_lt (Nat.lt_of_lt_of_le pm3.lt lb103_0)
  have g_x103_R0 : n0 ≤ x103_R0 := Nat.le_trans Z0 lb103_0
  have sz_x103_R0 : h0.size ≤ x103_R0 := Nat.le_trans K_0.1 lb103_0
  have Z106 : n0 ≤ T103.heap.size := Nat.le_trans Z0 K103.1
  have K_106 : Keep h0 T103.heap [A0] := K_0.trans K103 all0
  have ss103_0 : Sta Z T103.heap "java/lang/String" "COMPACT_STRINGS" "Z" (.int W1) := own_sta_keep pm5 K103 all0
  obtain ⟨_, _, ⟨T107, L107, k107, n107⟩, -, X107, ⟨Lc107, hQ107, l107, y107, z107⟩, st107⟩ := Jvm.LawKit.callS X103 hx (y := (⟨"java/lang/StringUTF16", "coderFromArrayLen", "([BI)B"⟩ : MethodName)) hown (mvT hZ (hw _ (List.mem_of_getElem? (i := 51) rfl))) (mvT hZ (hw _ (List.mem_of_getElem? (i := 52) rfl))) (mvT hZ (hw _ (List.mem_of_getElem? (i := 45) rfl))) (mvT hZ (hw _ (List.mem_of_getElem? (i := 53) rfl))) (by decide) (backOf (W := 1) (rm10 l Z a0 hw [] x103_R0 x103_K1 x103_XV1 T103.heap n0 Z106 p103_0) hZ (hw _ (List.mem_of_getElem? (i := 53) rfl)) (hw _ (List.mem_of_getElem? (i := 45) rfl)) (by decide) (by decide)) (g := (mkF m 45 #[.val (.ref A0), .val (.ref A1), .val (.int (0 : Int32)), .val (.int (1 : Int32)), .val .null, .val (.ref x103_R0)] [(.int (1 : Int32)), (.ref x103_R0), (.ref A0)])) rfl (by rw [hml]; rfl) (argsL := [(.ref x103_R0), (.int (1 : Int32))]) (rest := [(.ref A0)]) (lenOf pd_7_1 rfl) rfl (by show 2 * 0 + _ ≤ _; exact Nat.le_of_eq rfl) (hb hby d7_45) (fun _ _ => ⟨rfl, rfl, (by decide : 1 + 0 ≤ _), (by decide : 1 + 0 ≤ _)⟩)
  dsimp only [Pt.U, Pt.locs, Pt.cells, Pt.slots] at X107 l107 y107 z107 st107 hQ107
  subst l107 y107 z107
  obtain ⟨rfl, N107q, K107⟩ := hQ107
  have N107 := Fr.app N103 N107q
  have c108 : Exa Z T103.heap A0 "java/lang/String" := (pm2.keep K103)
  have c109 : Fld Z T103.heap A0 "java/lang/String" "coder" "B" (.int W2) := (pm1.keep K103 nin0)
  obtain ⟨T110, h110, X110, e110, W110, st110⟩ := putFN X107 hx hZ hown (hw _ (List.mem_of_getElem? (i := 54) rfl)) Via.refl K107 c109 c108 (Or.inr ⟨(hw _ (List.mem_of_getElem? (i := 55) rfl)), rfl, hnm⟩) (hw _ (List.mem_of_getElem? (i := 32) rfl)) (ty := .byte) (v' := (.int ((0 : Int32).toInt8.toInt32))) (by decide) rfl (fits_nar_byte _) (g := (mkF m 48 #[.val (.ref A0), .val (.ref A1), .val (.int (0 : Int32)), .val (.int (1 : Int32)), .val .null, .val (.ref x103_R0)] [(.int (0 : Int32)), (.ref A0)])) rfl rfl (hb hby d7_48)
  have Z111 : n0 ≤ h110.size := Nat.le_trans Z106 (Nat.le_of_eq W110.size.symm)
  have K_111 : Keep h0 h110 [A0] := K_106.wr W110 (Or.inl (List.mem_of_getElem? (i := 0) rfl))
  have Fw110 : Fld Z h110 A0 "java/lang/String" "coder" "B" (.int ((0 : Int32).toInt8.toInt32)) := c109.same W110
  have N110 := Fr.snoc X110 N107 g_A0
  have c112 : Exa Z h110 A0 "java/lang/String" := (c108.wr W110)
  have c113 : Fld Z h110 A0 "java/lang/String" "value" "[B" W0 := ((pm0.keep K103 nin0).other W110 (Or.inr (slot_ne (Or.inr (hw _ (List.mem_of_getElem? (i := 57) rfl))) (Or.inr (hw _ (List.mem_of_getElem? (i := 55) rfl))) (by decide) (t := (.array .byte)) (t' := .byte) (by decide) (by decide))))
  obtain ⟨T114, h114, X114, e114, W114, st114⟩ := putF X110 hx hZ hown (host := "") (Or.inl (hw _ (List.mem_of_getElem? (i := 56) rfl))) Via.refl e110 c113 c112 (Or.inr ⟨(hw _ (List.mem_of_getElem? (i := 57) rfl)), rfl, hnm⟩) (hw _ (List.mem_of_getElem? (i := 32) rfl)) (ty := (.array .byte)) (by decide) rfl rfl (g := (mkF m 54 #[.val (.ref A0), .val (.ref A1), .val (.int (0 : Int32)), .val (.int (1 : Int32)), .val .null, .val (.ref x103_R0)] [(.ref x103_R0), (.ref A0)])) rfl rfl (hb hby d7_54)
  have Z115 : n0 ≤ h114.size := Nat.le_trans Z111 (Nat.le_of_eq W114.size.symm)
  have K_115 : Keep h0 h114 [A0] := K_111.wr W114 (Or.inl (List.mem_of_getElem? (i := 0) rfl))
  have Fw114 : Fld Z h114 A0 "java/lang/String" "value" "[B" (.ref x103_R0) := c113.same W114
  have N114 := Fr.snoc X114 N110 g_A0
  have pre116 : ∀ t, Steps p.tables e below (T114.setTop (mkF m 57 #[.val (.ref A0), .val (.ref A1), .val (.int (0 : Int32)), .val (.int (1 : Int32)), .val .null, .val (.ref x103_R0)] [])) t → Steps p.tables e below (s₁.setTop (entryFrame m #[(.ref A0), (.ref A1), (.int (0 : Int32)), (.int (1 : Int32)), .null] 6)) t := fun t kt => pre0 t (by
      show Steps p.tables e below (s₁.setTop (mkF m 0 #[.val (.ref A0), .val (.ref A1), .val (.int (0 : Int32)), .val (.int (1 : Int32)), .val .null, .unset] [])) _
      refine XS.aloadN X0.here hx rfl (hb hby d7_0) rfl rfl ?_
      show Steps p.tables e below (s₁.setTop (mkF m 1 #[.val (.ref A0), .val (.ref A1), .val (.int (0 : Int32)), .val (.int (1 : Int32)), .val .null, .unset] [(.ref A0)])) _
      refine st101 _ ?_
      show Steps p.tables e below (T101.setTop (mkF m 4 #[.val (.ref A0), .val (.ref A1), .val (.int (0 : Int32)), .val (.int (1 : Int32)), .val .null, .unset] [])) _
      refine XS.iloadN X101.here hx rfl (hb hby d7_4) rfl ?_
      show Steps p.tables e below (T101.setTop (mkF m 5 #[.val (.ref A0), .val (.ref A1), .val (.int (0 : Int32)), .val (.int (1 : Int32)), .val .null, .unset] [(.int (1 : Int32))])) _
      refine XS.ifYes X101.here hx rfl (pc0 := 5) (pc' := 27) rfl (hb hby d7_5) rfl ((if0 _ _).trans (feq (show ¬ ((1 : Int32) = (0 : Int32)) from (by decide))).2) (by decide) (by decide) ?_
      show Steps p.tables e below (T101.setTop (mkF m 27 #[.val (.ref A0), .val (.ref A1), .val (.int (0 : Int32)), .val (.int (1 : Int32)), .val .null, .unset] [])) _
      refine st102 _ ?_
      show Steps p.tables e below (T102.setTop (mkF m 30 #[.val (.ref A0), .val (.ref A1), .val (.int (0 : Int32)), .val (.int (1 : Int32)), .val .null, .unset] [(.int W1)])) _
      refine XS.ifNo X102.here hx rfl (hb hby d7_30) rfl ((if0 _ _).trans (feq hcs).1) ?_
      show Steps p.tables e below (T102.setTop (mkF m 33 #[.val (.ref A0), .val (.ref A1), .val (.int (0 : Int32)), .val (.int (1 : Int32)), .val .null, .unset] [])) _
      refine XS.aloadN X102.here hx rfl (hb hby d7_33) rfl rfl ?_
      show Steps p.tables e below (T102.setTop (mkF m 34 #[.val (.ref A0), .val (.ref A1), .val (.int (0 : Int32)), .val (.int (1 : Int32)), .val .null, .unset] [(.ref A1)])) _
      refine XS.iloadN X102.here hx rfl (hb hby d7_34) rfl ?_
      show Steps p.tables e below (T102.setTop (mkF m 35 #[.val (.ref A0), .val (.ref A1), .val (.int (0 : Int32)), .val (.int (1 : Int32)), .val .null, .unset] [(.int (0 : Int32)), (.ref A1)])) _
      refine XS.iloadN X102.here hx rfl (hb hby d7_35) rfl ?_
      show Steps p.tables e below (T102.setTop (mkF m 36 #[.val (.ref A0), .val (.ref A1), .val (.int (0 : Int32)), .val (.int (1 : Int32)), .val .null, .unset] [(.int (1 : Int32)), (.int (0 : Int32)), (.ref A1)])) _
      refine st103 _ ?_
      show Steps p.tables e below (T103.setTop (mkF m 39 #[.val (.ref A0), .val (.ref A1), .val (.int (0 : Int32)), .val (.int (1 : Int32)), .val .null, .unset] [(.ref x103_R0)])) _
      refine XS.astore X103.here hx rfl (hb hby d7_39) rfl rfl (l' := #[.val (.ref A0), .val (.ref A1), .val (.int (0 : Int32)), .val (.int (1 : Int32)), .val .null, .val (.ref x103_R0)]) rfl ?_
      show Steps p.tables e below (T103.setTop (mkF m 41 #[.val (.ref A0), .val (.ref A1), .val (.int (0 : Int32)), .val (.int (1 : Int32)), .val .null, .val (.ref x103_R0)] [])) _
      refine XS.aloadN X103.here hx rfl (hb hby d7_41) rfl rfl ?_
      show Steps p.tables e below (T103.setTop (mkF m 42 #[.val (.ref A0), .val (.ref A1), .val (.int (0 : Int32)), .val (.int (1 : Int32)), .val .null, .val (.ref x103_R0)] [(.ref A0)])) _
      refine XS.aload X103.here hx rfl (hb hby d7_42) rfl rfl ?_
      show Steps p.tables e below (T103.setTop (mkF m 44 #[.val (.ref A0), .val (.ref A1), .val (.int (0 : Int32)), .val (.int (1 : Int32)), .val .null, .val (.ref x103_R0)] [(.ref x103_R0), (.ref A0)])) _
      refine XS.iloadN X103.here hx rfl (hb hby d7_44) rfl ?_
      show Steps p.tables e below (T103.setTop (mkF m 45 #[.val (.ref A0), .val (.ref A1), .val (.int (0 : Int32)), .val (.int (1 : Int32)), .val .null, .val (.ref x103_R0)] [(.int (1 : Int32)), (.ref x103_R0), (.ref A0)])) _
      refine st107 _ ?_
      show Steps p.tables e below (T107.setTop (mkF m 48 #[.val (.ref A0), .val (.ref A1), .val (.int (0 : Int32)), .val (.int (1 : Int32)), .val .null, .val (.ref x103_R0)] [(.int (0 : Int32)), (.ref A0)])) _
      refine st110 _ ?_
      show Steps p.tables e below (T110.setTop (mkF m 51 #[.val (.ref A0), .val (.ref A1), .val (.int (0 : Int32)), .val (.int (1 : Int32)), .val .null, .val (.ref x103_R0)] [])) _
      refine XS.aloadN X110.here hx rfl (hb hby d7_51) rfl rfl ?_
      show Steps p.tables e below (T110.setTop (mkF m 52 #[.val (.ref A0), .val (.ref A1), .val (.int (0 : Int32)), .val (.int (1 : Int32)), .val .null, .val (.ref x103_R0)] [(.ref A0)])) _
      refine XS.aload X110.here hx rfl (hb hby d7_52) rfl rfl ?_
      show Steps p.tables e below (T110.setTop (mkF m 54 #[.val (.ref A0), .val (.ref A1), .val (.int (0 : Int32)), .val (.int (1 : Int32)), .val .null, .val (.ref x103_R0)] [(.ref x103_R0), (.ref A0)])) _
      refine st114 _ ?_
      exact kt)
  have c117 : Exa Z h114 A0 "java/lang/String" := (c112.wr W114)
  obtain ⟨fs, hr, hrun, hended, hW, hsame⟩ := X114.leave (v := none) (fun _ => rfl)
  refine ⟨_, _, pre116 _ ?_, hrun, hended, _, _, rfl, ?_, ⟨_, rfl⟩, hW, hsame.mono (by decide) (by decide)⟩
  · show Steps p.tables e below (T114.setTop (mkF m 57 #[.val (.ref A0), .val (.ref A1), .val (.int (0 : Int32)), .val (.int (1 : Int32)), .val .null, .val (.ref x103_R0)] [])) _
    exact X114.returnOut hx Bd.returns (hb hby d7_57) hr
  · show Q7 Z A0 A1 K0 C0 W0 W2 W1 h0 n0 _ T114.heap _
    rw [e114]
    exact ⟨rfl, N114, K_115, c117⟩
theorem d6_0 : decode jdk_42_method_3_code 0 = .ok (.aload_n 0, 1) := by decide +kernel
theorem d6_1 : decode jdk_42_method_3_code 1 = .ok (.aload_n 1, 1) := by decide +kernel
theorem d6_2 : decode jdk_42_method_3_code 2 = .ok (.iconst 0, 1) := by decide +kernel
theorem d6_3 : decode jdk_42_method_3_code 3 = .ok (.aload_n 1, 1) := by decide +kernel
theorem d6_4 : decode jdk_42_method_3_code 4 = .ok (.arraylength, 1) := by decide +kernel
theorem d6_5 : decode jdk_42_method_3_code 5 = .ok (.aconst_null, 1) := by decide +kernel
theorem d6_6 : decode jdk_42_method_3_code 6 = .ok (.invokespecial 27, 3) := by decide +kernel
theorem d6_9 : decode jdk_42_method_3_code 9 = .ok (.return_, 1) := by decide +kernel
theorem pn_6 : plainName "java/lang/String" = true := by first | (simp [plainName, overriddenIn]; done) | decide +kernel
theorem pd_6_0 : parseMethodDescriptor "([CIILjava/lang/Void;)V" = some ⟨[(.array .char), .int, .int, (.object "java/lang/Void")], none⟩ := by decide +kernel
theorem ef_6 (m : MethodId) (A0 : Addr) (A1 : Addr) : entryFrame m #[(.ref A0), (.ref A1)] 2 = mkF m 0 #[.val (.ref A0), .val (.ref A1)] [] := by first | (simp [entryFrame, mkF, argsToLocals, Value.category]; done) | rfl
def Q6 (Z : State) (A0 : Addr) (A1 : Addr) (K0 : ClassId) (C0 : Int32) (W0 : Value) (W2 : Int32) (W1 : Int32) (h0 : Heap) (n0 : Nat) (v : Option Value) (h : Heap) (L : List Loc) : Prop := (v = none) ∧ (Fr n0 L) ∧ (Keep h0 h [A0]) ∧ (Exa Z h A0 "java/lang/String")
set_option maxRecDepth 65536 in
set_option maxHeartbeats 40000000 in
theorem rm6 (l : Launch) (Z : State) (a0 : Array Value) (hw : ∀ d ∈ tables_1, d.before a0 Z = true) (ws : List Jvm.Cond) (A0 : Addr) (A1 : Addr) (K0 : ClassId) (C0 : Int32) (W0 : Value) (W2 : Int32) (W1 : Int32) (h0 : Heap) (n0 : Nat) (Z0 : n0 ≤ h0.size) (pm0 : Fld Z h0 A0 "java/lang/String" "value" "[B" W0) (pm1 : Fld Z h0 A0 "java/lang/String" "coder" "B" (.int W2)) (pm2 : Exa Z h0 A0 "java/lang/String") (pm3 : Arv Z h0 A1 K0 .char (1 : Int32) [(.int C0)] (.int (0 : Int32))) (hle : ¬ ((255 : Int32) < C0)) (pm5 : Sta Z h0 "java/lang/String" "COMPACT_STRINGS" "Z" (.int W1)) (hcs : ¬ (W1 = (0 : Int32))) (g_A0 : n0 ≤ A0) :
    MetFree l (⟨"java/lang/String", "<init>", "([C)V"⟩ : MethodName) (head1 (Jvm.Cond.code (⟨"java/lang/String", "<init>", "([C)V"⟩ : MethodName) jdk_42_method_3_code 2 none :: ws) ({ frames := 3, cells := 1, slots := 1, locals := 52 } : Room)) (fun a U => a = #[(.ref A0), (.ref A1)] ∧ Z.Warmed39 U.vm ∧ U.heap = h0) (fun _ _ _ _ _ => True) (fun _ U o U' => ∃ v L, o = .returned v ∧ Q6 Z A0 A1 K0 C0 W0 W2 W1 h0 n0 v U'.heap L ∧ FrameEnd U o U' L ({ frames := 3, cells := 1, slots := 1, locals := 52 } : Room).cells ({ frames := 3, cells := 1, slots := 1, locals := 52 } : Room).slots) := by
  refine MetFree.of_bodySF (plainFor_of_name pn_6) hisR ?_
  intro p e s m args below meth c s₁ Bd hml0 hP hK
  obtain ⟨rfl, hZ, hh⟩ := hP
  have hx := Bd.exec
  have hby := Bd.bytes
  have hml : c.maxLocals = 2 := hml0
  have hown : s.vm.findClass "java/lang/String" = some m.cls := findClass_of_methodNamed Bd.named
  have hnm := (name_of_methodNamed Bd.named Bd.method).1
  have X0 : Stand p l e ({ frames := 3, cells := 1, slots := 1, locals := 52 } : Room) s m #[(.ref A0), (.ref A1)] below meth c s₁ [] 0 0 := Stand.of_body Bd
  have e0 : s₁.heap = h0 := by rw [← hh, Bd.state]; rfl
  have N0 := Fr.nil n0
  have pre0 : ∀ t, Steps p.tables e below (s₁.setTop (mkF m 0 #[.val (.ref A0), .val (.ref A1)] [])) t → Steps p.tables e below (s₁.setTop (entryFrame m #[(.ref A0), (.ref A1)] 2)) t := fun t k => castTop (ef_6 m A0 A1) k
  have K_0 : Keep h0 h0 [A0] := Keep.refl h0 _
  obtain ⟨cl101, Ar101, -, S101, N_101, -, -⟩ := id pm3
  obtain ⟨_, _, ⟨T102, L102, k102, n102⟩, -, X102, ⟨Lc102, hQ102, l102, y102, z102⟩, st102⟩ := X0.specialBack hx (y := (⟨"java/lang/String", "<init>", "([CIILjava/lang/Void;)V"⟩ : MethodName)) rfl hown (mvT hZ (hw _ (List.mem_of_getElem? (i := 37) rfl))) (mvT hZ (hw _ (List.mem_of_getElem? (i := 38) rfl))) (mvT hZ (hw _ (List.mem_of_getElem? (i := 40) rfl))) (by decide) (backOf (W := 0) (rm7 l Z a0 hw [] A0 A1 K0 C0 W0 W2 W1 h0 n0 Z0 pm0 pm1 pm2 pm3 (show ¬ ((255 : Int32) < C0) from hle) pm5 (show ¬ (W1 = (0 : Int32)) from hcs) g_A0) hZ (hw _ (List.mem_of_getElem? (i := 40) rfl)) (hw _ (List.mem_of_getElem? (i := 33) rfl)) (by decide) (by decide)) (g := (mkF m 6 #[.val (.ref A0), .val (.ref A1)] [.null, (.int (1 : Int32)), (.int (0 : Int32)), (.ref A1), (.ref A0)])) rfl (by rw [hml]; rfl) (Steps.refl _) (a := A0) (argsL := [(.ref A1), (.int (0 : Int32)), (.int (1 : Int32)), .null]) (rest := []) (lenOf pd_6_0 rfl) rfl (by show 2 * 0 + _ ≤ _; exact Nat.le_of_eq rfl) (hb hby d6_6) (fun _ _ => ⟨rfl, e0, (by decide : 0 + 1 ≤ _), (by decide : 0 + 1 ≤ _)⟩)
  dsimp only [Pt.U, Pt.locs, Pt.cells, Pt.slots] at X102 l102 y102 z102 st102 hQ102
  subst l102 y102 z102
  obtain ⟨rfl, N102q, K102, p102_0⟩ := hQ102
  have N102 := Fr.app N0 N102q
  have Z103 : n0 ≤ T102.heap.size := Nat.le_trans Z0 K102.1
  have K_103 : Keep h0 T102.heap [A0] := K_0.trans K102 (allS (Or.inl (List.mem_of_getElem? (i := 0) rfl)) all0)
  have ss102_0 : Sta Z T102.heap "java/lang/String" "COMPACT_STRINGS" "Z" (.int W1) := own_sta_keep pm5 K102 (allS (own_ns pm2) all0)
  have pre104 : ∀ t, Steps p.tables e below (T102.setTop (mkF m 9 #[.val (.ref A0), .val (.ref A1)] [])) t → Steps p.tables e below (s₁.setTop (entryFrame m #[(.ref A0), (.ref A1)] 2)) t := fun t kt => pre0 t (by
      show Steps p.tables e below (s₁.setTop (mkF m 0 #[.val (.ref A0), .val (.ref A1)] [])) _
      refine XS.aloadN X0.here hx rfl (hb hby d6_0) rfl rfl ?_
      show Steps p.tables e below (s₁.setTop (mkF m 1 #[.val (.ref A0), .val (.ref A1)] [(.ref A0)])) _
      refine XS.aloadN X0.here hx rfl (hb hby d6_1) rfl rfl ?_
      show Steps p.tables e below (s₁.setTop (mkF m 2 #[.val (.ref A0), .val (.ref A1)] [(.ref A1), (.ref A0)])) _
      refine XS.iconst X0.here hx rfl (hb hby d6_2) ?_
      show Steps p.tables e below (s₁.setTop (mkF m 3 #[.val (.ref A0), .val (.ref A1)] [(.int (0 : Int32)), (.ref A1), (.ref A0)])) _
      refine XS.aloadN X0.here hx rfl (hb hby d6_3) rfl rfl ?_
      show Steps p.tables e below (s₁.setTop (mkF m 4 #[.val (.ref A0), .val (.ref A1)] [(.ref A1), (.int (0 : Int32)), (.ref A1), (.ref A0)])) _
      refine X0.arraylength hx (by rw [e0]; exact Ar101.1) (State.isArrayOf_alike hZ.alike Ar101.2.1) (g := (mkF m 4 #[.val (.ref A0), .val (.ref A1)] [(.ref A1), (.int (0 : Int32)), (.ref A1), (.ref A0)])) rfl rfl (hb hby d6_4) _ ?_
      rw [len_of S101 N_101]
      show Steps p.tables e below (s₁.setTop (mkF m 5 #[.val (.ref A0), .val (.ref A1)] [(.int (1 : Int32)), (.int (0 : Int32)), (.ref A1), (.ref A0)])) _
      refine XS.aconstNull X0.here hx rfl (hb hby d6_5) ?_
      show Steps p.tables e below (s₁.setTop (mkF m 6 #[.val (.ref A0), .val (.ref A1)] [.null, (.int (1 : Int32)), (.int (0 : Int32)), (.ref A1), (.ref A0)])) _
      refine st102.trans ?_
      exact kt)
  obtain ⟨fs, hr, hrun, hended, hW, hsame⟩ := X102.leave (v := none) (fun _ => rfl)
  refine ⟨_, _, pre104 _ ?_, hrun, hended, _, _, rfl, ?_, ⟨_, rfl⟩, hW, hsame.mono (by decide) (by decide)⟩
  · show Steps p.tables e below (T102.setTop (mkF m 9 #[.val (.ref A0), .val (.ref A1)] [])) _
    exact X102.returnOut hx Bd.returns (hb hby d6_9) hr
  · show Q6 Z A0 A1 K0 C0 W0 W2 W1 h0 n0 _ T102.heap _
    exact ⟨rfl, N102, K_103, p102_0⟩
theorem d1_0 : decode prog_10_method_1_code 0 = .ok (.aload_n 0, 1) := by decide +kernel
theorem d1_1 : decode prog_10_method_1_code 1 = .ok (.invokespecial 1, 3) := by decide +kernel
theorem d1_4 : decode prog_10_method_1_code 4 = .ok (.aload_n 0, 1) := by decide +kernel
theorem d1_5 : decode prog_10_method_1_code 5 = .ok (.lload_n 1, 1) := by decide +kernel
theorem d1_6 : decode prog_10_method_1_code 6 = .ok (.putfield 7, 3) := by decide +kernel
theorem d1_9 : decode prog_10_method_1_code 9 = .ok (.aload_n 0, 1) := by decide +kernel
theorem d1_10 : decode prog_10_method_1_code 10 = .ok (.iload_n 3, 1) := by decide +kernel
theorem d1_11 : decode prog_10_method_1_code 11 = .ok (.putfield 13, 3) := by decide +kernel
theorem d1_14 : decode prog_10_method_1_code 14 = .ok (.aload_n 0, 1) := by decide +kernel
theorem d1_15 : decode prog_10_method_1_code 15 = .ok (.aload 4, 2) := by decide +kernel
theorem d1_17 : decode prog_10_method_1_code 17 = .ok (.putfield 17, 3) := by decide +kernel
theorem d1_20 : decode prog_10_method_1_code 20 = .ok (.return_, 1) := by decide +kernel
theorem pn_1 : plainName "com/example/holdfast/holdfast/Offer" = true := by first | (simp [plainName, overriddenIn]; done) | decide +kernel
theorem ef_offN (m : MethodId) (A0 : Addr) (P1 : Int64) (P2 : Int32) : entryFrame m #[(.ref A0), (.long P1), (.int P2), .null] 5 = mkF m 0 #[.val (.ref A0), .val (.long P1), .second, .val (.int P2), .val .null] [] := by first | (simp [entryFrame, mkF, argsToLocals, Value.category]; done) | rfl
def QoffN (Z : State) (A0 : Addr) (P1 : Int64) (P2 : Int32) (W0 : Int64) (W1 : Int32) (W2 : Value) (h0 : Heap) (n0 : Nat) (v : Option Value) (h : Heap) (L : List Loc) : Prop := (v = none) ∧ (Fr n0 L) ∧ (Keep h0 h [A0]) ∧ (Exa Z h A0 "com/example/holdfast/holdfast/Offer") ∧ (Fld Z h A0 "com/example/holdfast/holdfast/Offer" "token" "J" (.long P1))
set_option maxRecDepth 65536 in
set_option maxHeartbeats 40000000 in
theorem rmoffN (l : Launch) (Z : State) (a0 : Array Value) (hw : ∀ d ∈ tables_1, d.before a0 Z = true) (ws : List Jvm.Cond) (A0 : Addr) (P1 : Int64) (P2 : Int32) (W0 : Int64) (W1 : Int32) (W2 : Value) (h0 : Heap) (n0 : Nat) (Z0 : n0 ≤ h0.size) (pm0 : Fld Z h0 A0 "com/example/holdfast/holdfast/Offer" "token" "J" (.long W0)) (pm1 : Fld Z h0 A0 "com/example/holdfast/holdfast/Offer" "recent" "Z" (.int W1)) (pm2 : Fld Z h0 A0 "com/example/holdfast/holdfast/Offer" "run" "Ljava/lang/String;" W2) (pm3 : Exa Z h0 A0 "com/example/holdfast/holdfast/Offer") (g_A0 : n0 ≤ A0) :
    MetFree l (⟨"com/example/holdfast/holdfast/Offer", "<init>", "(JZLjava/lang/String;)V"⟩ : MethodName) (head1 (Jvm.Cond.code (⟨"com/example/holdfast/holdfast/Offer", "<init>", "(JZLjava/lang/String;)V"⟩ : MethodName) prog_10_method_1_code 5 none :: ws) ({ frames := 1, cells := 0, slots := 0, locals := 12 } : Room)) (fun a U => a = #[(.ref A0), (.long P1), (.int P2), .null] ∧ Z.Warmed39 U.vm ∧ U.heap = h0) (fun _ _ _ _ _ => True) (fun _ U o U' => ∃ v L, o = .returned v ∧ QoffN Z A0 P1 P2 W0 W1 W2 h0 n0 v U'.heap L ∧ FrameEnd U o U' L ({ frames := 1, cells := 0, slots := 0, locals := 12 } : Room).cells ({ frames := 1, cells := 0, slots := 0, locals := 12 } : Room).slots) := by
  refine MetFree.of_bodySF (plainFor_of_name pn_1) hisR ?_
  intro p e s m args below meth c s₁ Bd hml0 hP hK
  obtain ⟨rfl, hZ, hh⟩ := hP
  have hx := Bd.exec
  have hby := Bd.bytes
  have hml : c.maxLocals = 5 := hml0
  have hown : s.vm.findClass "com/example/holdfast/holdfast/Offer" = some m.cls := findClass_of_methodNamed Bd.named
  have hnm := (name_of_methodNamed Bd.named Bd.method).1
  have X0 : Stand p l e ({ frames := 1, cells := 0, slots := 0, locals := 12 } : Room) s m #[(.ref A0), (.long P1), (.int P2), .null] below meth c s₁ [] 0 0 := Stand.of_body Bd
  have e0 : s₁.heap = h0 := by rw [← hh, Bd.state]; rfl
  have N0 := Fr.nil n0
  have pre0 : ∀ t, Steps p.tables e below (s₁.setTop (mkF m 0 #[.val (.ref A0), .val (.long P1), .second, .val (.int P2), .val .null] [])) t → Steps p.tables e below (s₁.setTop (entryFrame m #[(.ref A0), (.long P1), (.int P2), .null] 5)) t := fun t k => castTop (ef_offN m A0 P1 P2) k
  have K_0 : Keep h0 h0 [A0] := Keep.refl h0 _
  obtain ⟨T101, X101, e101, st101⟩ := initO X0 hx hZ hown (hw _ (List.mem_of_getElem? (i := 7) rfl)) (hw _ (List.mem_of_getElem? (i := 8) rfl)) (hw _ (List.mem_of_getElem? (i := 9) rfl)) e0 (g := (mkF m 1 #[.val (.ref A0), .val (.long P1), .second, .val (.int P2), .val .null] [(.ref A0)])) rfl (by rw [hml]; rfl) rfl (hb hby d1_1) (by decide) (W := 0) (by show 2 * 0 + _ ≤ _; exact Nat.le_of_eq rfl) (by decide)
  obtain ⟨T102, h102, X102, e102, W102, st102⟩ := putF X101 hx hZ hown (host := "") (Or.inl (hw _ (List.mem_of_getElem? (i := 10) rfl))) Via.refl e101 pm0 pm3 (Or.inr ⟨(hw _ (List.mem_of_getElem? (i := 11) rfl)), rfl, hnm⟩) (hw _ (List.mem_of_getElem? (i := 2) rfl)) (ty := .long) (by decide) rfl rfl (g := (mkF m 6 #[.val (.ref A0), .val (.long P1), .second, .val (.int P2), .val .null] [(.long P1), (.ref A0)])) rfl rfl (hb hby d1_6)
  have Z103 : n0 ≤ h102.size := Nat.le_trans Z0 (Nat.le_of_eq W102.size.symm)
  have K_103 : Keep h0 h102 [A0] := K_0.wr W102 (Or.inl (List.mem_of_getElem? (i := 0) rfl))
  have Fw102 : Fld Z h102 A0 "com/example/holdfast/holdfast/Offer" "token" "J" (.long P1) := pm0.same W102
  have N102 := Fr.snoc X102 N0 g_A0
  have c104 : Exa Z h102 A0 "com/example/holdfast/holdfast/Offer" := (pm3.wr W102)
  have c105 : Fld Z h102 A0 "com/example/holdfast/holdfast/Offer" "recent" "Z" (.int W1) := (pm1.other W102 (Or.inr (slot_ne (Or.inr (hw _ (List.mem_of_getElem? (i := 13) rfl))) (Or.inr (hw _ (List.mem_of_getElem? (i := 11) rfl))) (by decide) (t := .boolean) (t' := .long) (by decide) (by decide))))
  obtain ⟨T106, h106, X106, e106, W106, st106⟩ := putFN X102 hx hZ hown (hw _ (List.mem_of_getElem? (i := 12) rfl)) Via.refl e102 c105 c104 (Or.inr ⟨(hw _ (List.mem_of_getElem? (i := 13) rfl)), rfl, hnm⟩) (hw _ (List.mem_of_getElem? (i := 2) rfl)) (ty := .boolean) (v' := (.int (P2 &&& 1))) (by decide) rfl (fits_nar_bool _) (g := (mkF m 11 #[.val (.ref A0), .val (.long P1), .second, .val (.int P2), .val .null] [(.int P2), (.ref A0)])) rfl rfl (hb hby d1_11)
  have Z107 : n0 ≤ h106.size := Nat.le_trans Z103 (Nat.le_of_eq W106.size.symm)
  have K_107 : Keep h0 h106 [A0] := K_103.wr W106 (Or.inl (List.mem_of_getElem? (i := 0) rfl))
  have Fw106 : Fld Z h106 A0 "com/example/holdfast/holdfast/Offer" "recent" "Z" (.int (P2 &&& 1)) := c105.same W106
  have N106 := Fr.snoc X106 N102 g_A0
  have c108 : Exa Z h106 A0 "com/example/holdfast/holdfast/Offer" := (c104.wr W106)
  have c109 : Fld Z h106 A0 "com/example/holdfast/holdfast/Offer" "run" "Ljava/lang/String;" W2 := ((pm2.other W102 (Or.inr (slot_ne (Or.inr (hw _ (List.mem_of_getElem? (i := 15) rfl))) (Or.inr (hw _ (List.mem_of_getElem? (i := 11) rfl))) (by decide) (t := (.object "java/lang/String")) (t' := .long) (by decide) (by decide)))).other W106 (Or.inr (slot_ne (Or.inr (hw _ (List.mem_of_getElem? (i := 15) rfl))) (Or.inr (hw _ (List.mem_of_getElem? (i := 13) rfl))) (by decide) (t := (.object "java/lang/String")) (t' := .boolean) (by decide) (by decide))))
  obtain ⟨T110, h110, X110, e110, W110, st110⟩ := putF X106 hx hZ hown (host := "") (Or.inl (hw _ (List.mem_of_getElem? (i := 14) rfl))) Via.refl e106 c109 c108 (Or.inr ⟨(hw _ (List.mem_of_getElem? (i := 15) rfl)), rfl, hnm⟩) (hw _ (List.mem_of_getElem? (i := 2) rfl)) (ty := (.object "java/lang/String")) (by decide) rfl rfl (g := (mkF m 17 #[.val (.ref A0), .val (.long P1), .second, .val (.int P2), .val .null] [.null, (.ref A0)])) rfl rfl (hb hby d1_17)
  have Z111 : n0 ≤ h110.size := Nat.le_trans Z107 (Nat.le_of_eq W110.size.symm)
  have K_111 : Keep h0 h110 [A0] := K_107.wr W110 (Or.inl (List.mem_of_getElem? (i := 0) rfl))
  have Fw110 : Fld Z h110 A0 "com/example/holdfast/holdfast/Offer" "run" "Ljava/lang/String;" .null := c109.same W110
  have N110 := Fr.snoc X110 N106 g_A0
  have pre112 : ∀ t, Steps p.tables e below (T110.setTop (mkF m 20 #[.val (.ref A0), .val (.long P1), .second, .val (.int P2), .val .null] [])) t → Steps p.tables e below (s₁.setTop (entryFrame m #[(.ref A0), (.long P1), (.int P2), .null] 5)) t := fun t kt => pre0 t (by
      show Steps p.tables e below (s₁.setTop (mkF m 0 #[.val (.ref A0), .val (.long P1), .second, .val (.int P2), .val .null] [])) _
      refine XS.aloadN X0.here hx rfl (hb hby d1_0) rfl rfl ?_
      show Steps p.tables e below (s₁.setTop (mkF m 1 #[.val (.ref A0), .val (.long P1), .second, .val (.int P2), .val .null] [(.ref A0)])) _
      refine st101 _ ?_
      show Steps p.tables e below (T101.setTop (mkF m 4 #[.val (.ref A0), .val (.long P1), .second, .val (.int P2), .val .null] [])) _
      refine XS.aloadN X101.here hx rfl (hb hby d1_4) rfl rfl ?_
      show Steps p.tables e below (T101.setTop (mkF m 5 #[.val (.ref A0), .val (.long P1), .second, .val (.int P2), .val .null] [(.ref A0)])) _
      refine XS.lloadN X101.here hx rfl (hb hby d1_5) rfl ?_
      show Steps p.tables e below (T101.setTop (mkF m 6 #[.val (.ref A0), .val (.long P1), .second, .val (.int P2), .val .null] [(.long P1), (.ref A0)])) _
      refine st102 _ ?_
      show Steps p.tables e below (T102.setTop (mkF m 9 #[.val (.ref A0), .val (.long P1), .second, .val (.int P2), .val .null] [])) _
      refine XS.aloadN X102.here hx rfl (hb hby d1_9) rfl rfl ?_
      show Steps p.tables e below (T102.setTop (mkF m 10 #[.val (.ref A0), .val (.long P1), .second, .val (.int P2), .val .null] [(.ref A0)])) _
      refine XS.iloadN X102.here hx rfl (hb hby d1_10) rfl ?_
      show Steps p.tables e below (T102.setTop (mkF m 11 #[.val (.ref A0), .val (.long P1), .second, .val (.int P2), .val .null] [(.int P2), (.ref A0)])) _
      refine st106 _ ?_
      show Steps p.tables e below (T106.setTop (mkF m 14 #[.val (.ref A0), .val (.long P1), .second, .val (.int P2), .val .null] [])) _
      refine XS.aloadN X106.here hx rfl (hb hby d1_14) rfl rfl ?_
      show Steps p.tables e below (T106.setTop (mkF m 15 #[.val (.ref A0), .val (.long P1), .second, .val (.int P2), .val .null] [(.ref A0)])) _
      refine XS.aload X106.here hx rfl (hb hby d1_15) rfl rfl ?_
      show Steps p.tables e below (T106.setTop (mkF m 17 #[.val (.ref A0), .val (.long P1), .second, .val (.int P2), .val .null] [.null, (.ref A0)])) _
      refine st110 _ ?_
      exact kt)
  have c113 : Exa Z h110 A0 "com/example/holdfast/holdfast/Offer" := (c108.wr W110)
  have c114 : Fld Z h110 A0 "com/example/holdfast/holdfast/Offer" "token" "J" (.long P1) := ((Fw102.other W106 (Or.inr (slot_ne (Or.inr (hw _ (List.mem_of_getElem? (i := 11) rfl))) (Or.inr (hw _ (List.mem_of_getElem? (i := 13) rfl))) (by decide) (t := .long) (t' := .boolean) (by decide) (by decide)))).other W110 (Or.inr (slot_ne (Or.inr (hw _ (List.mem_of_getElem? (i := 11) rfl))) (Or.inr (hw _ (List.mem_of_getElem? (i := 15) rfl))) (by decide) (t := .long) (t' := (.object "java/lang/String")) (by decide) (by decide))))
  obtain ⟨fs, hr, hrun, hended, hW, hsame⟩ := X110.leave (v := none) (fun _ => rfl)
  refine ⟨_, _, pre112 _ ?_, hrun, hended, _, _, rfl, ?_, ⟨_, rfl⟩, hW, hsame.mono (by decide) (by decide)⟩
  · show Steps p.tables e below (T110.setTop (mkF m 20 #[.val (.ref A0), .val (.long P1), .second, .val (.int P2), .val .null] [])) _
    exact X110.returnOut hx Bd.returns (hb hby d1_20) hr
  · show QoffN Z A0 P1 P2 W0 W1 W2 h0 n0 _ T110.heap _
    rw [e110]
    exact ⟨rfl, N110, K_111, c113, c114⟩
theorem ef_offR (m : MethodId) (A0 : Addr) (P1 : Int64) (P2 : Int32) (A3 : Addr) : entryFrame m #[(.ref A0), (.long P1), (.int P2), (.ref A3)] 5 = mkF m 0 #[.val (.ref A0), .val (.long P1), .second, .val (.int P2), .val (.ref A3)] [] := by first | (simp [entryFrame, mkF, argsToLocals, Value.category]; done) | rfl
def QoffR (Z : State) (A0 : Addr) (P1 : Int64) (P2 : Int32) (A3 : Addr) (W0 : Int64) (W1 : Int32) (W2 : Value) (h0 : Heap) (n0 : Nat) (v : Option Value) (h : Heap) (L : List Loc) : Prop := (v = none) ∧ (Fr n0 L) ∧ (Keep h0 h [A0]) ∧ (Exa Z h A0 "com/example/holdfast/holdfast/Offer") ∧ (Fld Z h A0 "com/example/holdfast/holdfast/Offer" "token" "J" (.long P1))
set_option maxRecDepth 65536 in
set_option maxHeartbeats 40000000 in
theorem rmoffR (l : Launch) (Z : State) (a0 : Array Value) (hw : ∀ d ∈ tables_1, d.before a0 Z = true) (ws : List Jvm.Cond) (A0 : Addr) (P1 : Int64) (P2 : Int32) (A3 : Addr) (W0 : Int64) (W1 : Int32) (W2 : Value) (h0 : Heap) (n0 : Nat) (Z0 : n0 ≤ h0.size) (pm0 : Fld Z h0 A0 "com/example/holdfast/holdfast/Offer" "token" "J" (.long W0)) (pm1 : Fld Z h0 A0 "com/example/holdfast/holdfast/Offer" "recent" "Z" (.int W1)) (pm2 : Fld Z h0 A0 "com/example/holdfast/holdfast/Offer" "run" "Ljava/lang/String;" W2) (pm3 : Exa Z h0 A0 "com/example/holdfast/holdfast/Offer") (g_A0 : n0 ≤ A0) :
    MetFree l (⟨"com/example/holdfast/holdfast/Offer", "<init>", "(JZLjava/lang/String;)V"⟩ : MethodName) (head1 (Jvm.Cond.code (⟨"com/example/holdfast/holdfast/Offer", "<init>", "(JZLjava/lang/String;)V"⟩ : MethodName) prog_10_method_1_code 5 none :: ws) ({ frames := 1, cells := 0, slots := 0, locals := 12 } : Room)) (fun a U => a = #[(.ref A0), (.long P1), (.int P2), (.ref A3)] ∧ Z.Warmed39 U.vm ∧ U.heap = h0) (fun _ _ _ _ _ => True) (fun _ U o U' => ∃ v L, o = .returned v ∧ QoffR Z A0 P1 P2 A3 W0 W1 W2 h0 n0 v U'.heap L ∧ FrameEnd U o U' L ({ frames := 1, cells := 0, slots := 0, locals := 12 } : Room).cells ({ frames := 1, cells := 0, slots := 0, locals := 12 } : Room).slots) := by
  refine MetFree.of_bodySF (plainFor_of_name pn_1) hisR ?_
  intro p e s m args below meth c s₁ Bd hml0 hP hK
  obtain ⟨rfl, hZ, hh⟩ := hP
  have hx := Bd.exec
  have hby := Bd.bytes
  have hml : c.maxLocals = 5 := hml0
  have hown : s.vm.findClass "com/example/holdfast/holdfast/Offer" = some m.cls := findClass_of_methodNamed Bd.named
  have hnm := (name_of_methodNamed Bd.named Bd.method).1
  have X0 : Stand p l e ({ frames := 1, cells := 0, slots := 0, locals := 12 } : Room) s m #[(.ref A0), (.long P1), (.int P2), (.ref A3)] below meth c s₁ [] 0 0 := Stand.of_body Bd
  have e0 : s₁.heap = h0 := by rw [← hh, Bd.state]; rfl
  have N0 := Fr.nil n0
  have pre0 : ∀ t, Steps p.tables e below (s₁.setTop (mkF m 0 #[.val (.ref A0), .val (.long P1), .second, .val (.int P2), .val (.ref A3)] [])) t → Steps p.tables e below (s₁.setTop (entryFrame m #[(.ref A0), (.long P1), (.int P2), (.ref A3)] 5)) t := fun t k => castTop (ef_offR m A0 P1 P2 A3) k
  have K_0 : Keep h0 h0 [A0] := Keep.refl h0 _
  obtain ⟨T101, X101, e101, st101⟩ := initO X0 hx hZ hown (hw _ (List.mem_of_getElem? (i := 7) rfl)) (hw _ (List.mem_of_getElem? (i := 8) rfl)) (hw _ (List.mem_of_getElem? (i := 9) rfl)) e0 (g := (mkF m 1 #[.val (.ref A0), .val (.long P1), .second, .val (.int P2), .val (.ref A3)] [(.ref A0)])) rfl (by rw [hml]; rfl) rfl (hb hby d1_1) (by decide) (W := 0) (by show 2 * 0 + _ ≤ _; exact Nat.le_of_eq rfl) (by decide)
  obtain ⟨T102, h102, X102, e102, W102, st102⟩ := putF X101 hx hZ hown (host := "") (Or.inl (hw _ (List.mem_of_getElem? (i := 10) rfl))) Via.refl e101 pm0 pm3 (Or.inr ⟨(hw _ (List.mem_of_getElem? (i := 11) rfl)), rfl, hnm⟩) (hw _ (List.mem_of_getElem? (i := 2) rfl)) (ty := .long) (by decide) rfl rfl (g := (mkF m 6 #[.val (.ref A0), .val (.long P1), .second, .val (.int P2), .val (.ref A3)] [(.long P1), (.ref A0)])) rfl rfl (hb hby d1_6)
  have Z103 : n0 ≤ h102.size := Nat.le_trans Z0 (Nat.le_of_eq W102.size.symm)
  have K_103 : Keep h0 h102 [A0] := K_0.wr W102 (Or.inl (List.mem_of_getElem? (i := 0) rfl))
  have Fw102 : Fld Z h102 A0 "com/example/holdfast/holdfast/Offer" "token" "J" (.long P1) := pm0.same W102
  have N102 := Fr.snoc X102 N0 g_A0
  have c104 : Exa Z h102 A0 "com/example/holdfast/holdfast/Offer" := (pm3.wr W102)
  have c105 : Fld Z h102 A0 "com/example/holdfast/holdfast/Offer" "recent" "Z" (.int W1) := (pm1.other W102 (Or.inr (slot_ne (Or.inr (hw _ (List.mem_of_getElem? (i := 13) rfl))) (Or.inr (hw _ (List.mem_of_getElem? (i := 11) rfl))) (by decide) (t := .boolean) (t' := .long) (by decide) (by decide))))
  obtain ⟨T106, h106, X106, e106, W106, st106⟩ := putFN X102 hx hZ hown (hw _ (List.mem_of_getElem? (i := 12) rfl)) Via.refl e102 c105 c104 (Or.inr ⟨(hw _ (List.mem_of_getElem? (i := 13) rfl)), rfl, hnm⟩) (hw _ (List.mem_of_getElem? (i := 2) rfl)) (ty := .boolean) (v' := (.int (P2 &&& 1))) (by decide) rfl (fits_nar_bool _) (g := (mkF m 11 #[.val (.ref A0), .val (.long P1), .second, .val (.int P2), .val (.ref A3)] [(.int P2), (.ref A0)])) rfl rfl (hb hby d1_11)
  have Z107 : n0 ≤ h106.size := Nat.le_trans Z103 (Nat.le_of_eq W106.size.symm)
  have K_107 : Keep h0 h106 [A0] := K_103.wr W106 (Or.inl (List.mem_of_getElem? (i := 0) rfl))
  have Fw106 : Fld Z h106 A0 "com/example/holdfast/holdfast/Offer" "recent" "Z" (.int (P2 &&& 1)) := c105.same W106
  have N106 := Fr.snoc X106 N102 g_A0
  have c108 : Exa Z h106 A0 "com/example/holdfast/holdfast/Offer" := (c104.wr W106)
  have c109 : Fld Z h106 A0 "com/example/holdfast/holdfast/Offer" "run" "Ljava/lang/String;" W2 := ((pm2.other W102 (Or.inr (slot_ne (Or.inr (hw _ (List.mem_of_getElem? (i := 15) rfl))) (Or.inr (hw _ (List.mem_of_getElem? (i := 11) rfl))) (by decide) (t := (.object "java/lang/String")) (t' := .long) (by decide) (by decide)))).other W106 (Or.inr (slot_ne (Or.inr (hw _ (List.mem_of_getElem? (i := 15) rfl))) (Or.inr (hw _ (List.mem_of_getElem? (i := 13) rfl))) (by decide) (t := (.object "java/lang/String")) (t' := .boolean) (by decide) (by decide))))
  obtain ⟨T110, h110, X110, e110, W110, st110⟩ := putF X106 hx hZ hown (host := "") (Or.inl (hw _ (List.mem_of_getElem? (i := 14) rfl))) Via.refl e106 c109 c108 (Or.inr ⟨(hw _ (List.mem_of_getElem? (i := 15) rfl)), rfl, hnm⟩) (hw _ (List.mem_of_getElem? (i := 2) rfl)) (ty := (.object "java/lang/String")) (by decide) rfl rfl (g := (mkF m 17 #[.val (.ref A0), .val (.long P1), .second, .val (.int P2), .val (.ref A3)] [(.ref A3), (.ref A0)])) rfl rfl (hb hby d1_17)
  have Z111 : n0 ≤ h110.size := Nat.le_trans Z107 (Nat.le_of_eq W110.size.symm)
  have K_111 : Keep h0 h110 [A0] := K_107.wr W110 (Or.inl (List.mem_of_getElem? (i := 0) rfl))
  have Fw110 : Fld Z h110 A0 "com/example/holdfast/holdfast/Offer" "run" "Ljava/lang/String;" (.ref A3) := c109.same W110
  have N110 := Fr.snoc X110 N106 g_A0
  have pre112 : ∀ t, Steps p.tables e below (T110.setTop (mkF m 20 #[.val (.ref A0), .val (.long P1), .second, .val (.int P2), .val (.ref A3)] [])) t → Steps p.tables e below (s₁.setTop (entryFrame m #[(.ref A0), (.long P1), (.int P2), (.ref A3)] 5)) t := fun t kt => pre0 t (by
      show Steps p.tables e below (s₁.setTop (mkF m 0 #[.val (.ref A0), .val (.long P1), .second, .val (.int P2), .val (.ref A3)] [])) _
      refine XS.aloadN X0.here hx rfl (hb hby d1_0) rfl rfl ?_
      show Steps p.tables e below (s₁.setTop (mkF m 1 #[.val (.ref A0), .val (.long P1), .second, .val (.int P2), .val (.ref A3)] [(.ref A0)])) _
      refine st101 _ ?_
      show Steps p.tables e below (T101.setTop (mkF m 4 #[.val (.ref A0), .val (.long P1), .second, .val (.int P2), .val (.ref A3)] [])) _
      refine XS.aloadN X101.here hx rfl (hb hby d1_4) rfl rfl ?_
      show Steps p.tables e below (T101.setTop (mkF m 5 #[.val (.ref A0), .val (.long P1), .second, .val (.int P2), .val (.ref A3)] [(.ref A0)])) _
      refine XS.lloadN X101.here hx rfl (hb hby d1_5) rfl ?_
      show Steps p.tables e below (T101.setTop (mkF m 6 #[.val (.ref A0), .val (.long P1), .second, .val (.int P2), .val (.ref A3)] [(.long P1), (.ref A0)])) _
      refine st102 _ ?_
      show Steps p.tables e below (T102.setTop (mkF m 9 #[.val (.ref A0), .val (.long P1), .second, .val (.int P2), .val (.ref A3)] [])) _
      refine XS.aloadN X102.here hx rfl (hb hby d1_9) rfl rfl ?_
      show Steps p.tables e below (T102.setTop (mkF m 10 #[.val (.ref A0), .val (.long P1), .second, .val (.int P2), .val (.ref A3)] [(.ref A0)])) _
      refine XS.iloadN X102.here hx rfl (hb hby d1_10) rfl ?_
      show Steps p.tables e below (T102.setTop (mkF m 11 #[.val (.ref A0), .val (.long P1), .second, .val (.int P2), .val (.ref A3)] [(.int P2), (.ref A0)])) _
      refine st106 _ ?_
      show Steps p.tables e below (T106.setTop (mkF m 14 #[.val (.ref A0), .val (.long P1), .second, .val (.int P2), .val (.ref A3)] [])) _
      refine XS.aloadN X106.here hx rfl (hb hby d1_14) rfl rfl ?_
      show Steps p.tables e below (T106.setTop (mkF m 15 #[.val (.ref A0), .val (.long P1), .second, .val (.int P2), .val (.ref A3)] [(.ref A0)])) _
      refine XS.aload X106.here hx rfl (hb hby d1_15) rfl rfl ?_
      show Steps p.tables e below (T106.setTop (mkF m 17 #[.val (.ref A0), .val (.long P1), .second, .val (.int P2), .val (.ref A3)] [(.ref A3), (.ref A0)])) _
      refine st110 _ ?_
      exact kt)
  have c113 : Exa Z h110 A0 "com/example/holdfast/holdfast/Offer" := (c108.wr W110)
  have c114 : Fld Z h110 A0 "com/example/holdfast/holdfast/Offer" "token" "J" (.long P1) := ((Fw102.other W106 (Or.inr (slot_ne (Or.inr (hw _ (List.mem_of_getElem? (i := 11) rfl))) (Or.inr (hw _ (List.mem_of_getElem? (i := 13) rfl))) (by decide) (t := .long) (t' := .boolean) (by decide) (by decide)))).other W110 (Or.inr (slot_ne (Or.inr (hw _ (List.mem_of_getElem? (i := 11) rfl))) (Or.inr (hw _ (List.mem_of_getElem? (i := 15) rfl))) (by decide) (t := .long) (t' := (.object "java/lang/String")) (by decide) (by decide))))
  obtain ⟨fs, hr, hrun, hended, hW, hsame⟩ := X110.leave (v := none) (fun _ => rfl)
  refine ⟨_, _, pre112 _ ?_, hrun, hended, _, _, rfl, ?_, ⟨_, rfl⟩, hW, hsame.mono (by decide) (by decide)⟩
  · show Steps p.tables e below (T110.setTop (mkF m 20 #[.val (.ref A0), .val (.long P1), .second, .val (.int P2), .val (.ref A3)] [])) _
    exact X110.returnOut hx Bd.returns (hb hby d1_20) hr
  · show QoffR Z A0 P1 P2 A3 W0 W1 W2 h0 n0 _ T110.heap _
    rw [e110]
    exact ⟨rfl, N110, K_111, c113, c114⟩
theorem d3_0 : decode prog_10_method_3_code 0 = .ok (.aload_n 0, 1) := by decide +kernel
theorem d3_1 : decode prog_10_method_3_code 1 = .ok (.getfield 7, 3) := by decide +kernel
theorem d3_4 : decode prog_10_method_3_code 4 = .ok (.lreturn, 1) := by decide +kernel
theorem pn_3 : plainName "com/example/holdfast/holdfast/Offer" = true := by first | (simp [plainName, overriddenIn]; done) | decide +kernel
theorem ef_3 (m : MethodId) (A0 : Addr) : entryFrame m #[(.ref A0)] 1 = mkF m 0 #[.val (.ref A0)] [] := by first | (simp [entryFrame, mkF, argsToLocals, Value.category]; done) | rfl
def Q3 (Z : State) (A0 : Addr) (W0 : Int64) (h0 : Heap) (n0 : Nat) (v : Option Value) (h : Heap) (L : List Loc) : Prop := (v = some (.long W0)) ∧ (Fr n0 L) ∧ (h = h0)
set_option maxRecDepth 65536 in
set_option maxHeartbeats 40000000 in
theorem rm3 (l : Launch) (Z : State) (a0 : Array Value) (hw : ∀ d ∈ tables_1, d.before a0 Z = true) (ws : List Jvm.Cond) (A0 : Addr) (W0 : Int64) (h0 : Heap) (n0 : Nat) (Z0 : n0 ≤ h0.size) (pm0 : Fld Z h0 A0 "com/example/holdfast/holdfast/Offer" "token" "J" (.long W0)) :
    MetFree l (⟨"com/example/holdfast/holdfast/Offer", "token", "()J"⟩ : MethodName) (head1 (Jvm.Cond.code (⟨"com/example/holdfast/holdfast/Offer", "token", "()J"⟩ : MethodName) prog_10_method_3_code 1 (some .long) :: ws) ({ frames := 0, cells := 0, slots := 0, locals := 0 } : Room)) (fun a U => a = #[(.ref A0)] ∧ Z.Warmed39 U.vm ∧ U.heap = h0) (fun _ _ _ _ _ => True) (fun _ U o U' => ∃ v L, o = .returned v ∧ Q3 Z A0 W0 h0 n0 v U'.heap L ∧ FrameEnd U o U' L ({ frames := 0, cells := 0, slots := 0, locals := 0 } : Room).cells ({ frames := 0, cells := 0, slots := 0, locals := 0 } : Room).slots) := by
  refine MetFree.of_bodySF (plainFor_of_name pn_3) hisR ?_
  intro p e s m args below meth c s₁ Bd hml0 hP hK
  obtain ⟨rfl, hZ, hh⟩ := hP
  have hx := Bd.exec
  have hby := Bd.bytes
  have hml : c.maxLocals = 1 := hml0
  have hown : s.vm.findClass "com/example/holdfast/holdfast/Offer" = some m.cls := findClass_of_methodNamed Bd.named
  have hnm := (name_of_methodNamed Bd.named Bd.method).1
  have X0 : Stand p l e ({ frames := 0, cells := 0, slots := 0, locals := 0 } : Room) s m #[(.ref A0)] below meth c s₁ [] 0 0 := Stand.of_body Bd
  have e0 : s₁.heap = h0 := by rw [← hh, Bd.state]; rfl
  have N0 := Fr.nil n0
  have pre0 : ∀ t, Steps p.tables e below (s₁.setTop (mkF m 0 #[.val (.ref A0)] [])) t → Steps p.tables e below (s₁.setTop (entryFrame m #[(.ref A0)] 1)) t := fun t k => castTop (ef_3 m A0) k
  obtain ⟨T101, X101, e101, st101⟩ := getF X0 hx hZ hown (host := "") (Or.inl (hw _ (List.mem_of_getElem? (i := 10) rfl))) Via.refl e0 pm0 (g := (mkF m 1 #[.val (.ref A0)] [(.ref A0)])) rfl rfl (hb hby d3_1)
  have pre102 : ∀ t, Steps p.tables e below (T101.setTop (mkF m 4 #[.val (.ref A0)] [(.long W0)])) t → Steps p.tables e below (s₁.setTop (entryFrame m #[(.ref A0)] 1)) t := fun t kt => pre0 t (by
      show Steps p.tables e below (s₁.setTop (mkF m 0 #[.val (.ref A0)] [])) _
      refine XS.aloadN X0.here hx rfl (hb hby d3_0) rfl rfl ?_
      show Steps p.tables e below (s₁.setTop (mkF m 1 #[.val (.ref A0)] [(.ref A0)])) _
      refine st101 _ ?_
      exact kt)
  obtain ⟨fs, hr, hrun, hended, hW, hsame⟩ := X101.leave (v := some (.long W0)) (fun h => by rw [Bd.returns] at h; cases h)
  refine ⟨_, _, pre102 _ ?_, hrun, hended, _, _, rfl, ?_, ⟨_, rfl⟩, hW, hsame.mono (by decide) (by decide)⟩
  · show Steps p.tables e below (T101.setTop (mkF m 4 #[.val (.ref A0)] [(.long W0)])) _
    exact retOut X101 hx Bd.returns rfl (Or.inr (Or.inl ⟨rfl, rfl, _, rfl⟩)) (hb hby d3_4) hr
  · show Q3 Z A0 W0 h0 n0 _ T101.heap _
    rw [e101]
    exact ⟨rfl, N0, rfl⟩
theorem d4_0 : decode prog_10_method_4_code 0 = .ok (.aload_n 0, 1) := by decide +kernel
theorem d4_1 : decode prog_10_method_4_code 1 = .ok (.getfield 7, 3) := by decide +kernel
theorem d4_4 : decode prog_10_method_4_code 4 = .ok (.lconst 0, 1) := by decide +kernel
theorem d4_5 : decode prog_10_method_4_code 5 = .ok (.lcmp, 1) := by decide +kernel
theorem d4_6 : decode prog_10_method_4_code 6 = .ok (.ifCond .le 7, 3) := by decide +kernel
theorem d4_9 : decode prog_10_method_4_code 9 = .ok (.iconst 1, 1) := by decide +kernel
theorem d4_10 : decode prog_10_method_4_code 10 = .ok (.goto 4, 3) := by decide +kernel
theorem d4_13 : decode prog_10_method_4_code 13 = .ok (.iconst 0, 1) := by decide +kernel
theorem d4_14 : decode prog_10_method_4_code 14 = .ok (.ireturn, 1) := by decide +kernel
theorem pn_4 : plainName "com/example/holdfast/holdfast/Offer" = true := by first | (simp [plainName, overriddenIn]; done) | decide +kernel
theorem ef_4 (m : MethodId) (A0 : Addr) : entryFrame m #[(.ref A0)] 1 = mkF m 0 #[.val (.ref A0)] [] := by first | (simp [entryFrame, mkF, argsToLocals, Value.category]; done) | rfl
def Q4 (Z : State) (A0 : Addr) (W0 : Int64) (h0 : Heap) (n0 : Nat) (v : Option Value) (h : Heap) (L : List Loc) : Prop := (v = some (.int (if (0 : Int64) < W0 then (1 : Int32) else (0 : Int32)))) ∧ (Fr n0 L) ∧ (h = h0)
set_option maxRecDepth 65536 in
set_option maxHeartbeats 40000000 in
theorem rm4 (l : Launch) (Z : State) (a0 : Array Value) (hw : ∀ d ∈ tables_1, d.before a0 Z = true) (ws : List Jvm.Cond) (A0 : Addr) (W0 : Int64) (h0 : Heap) (n0 : Nat) (Z0 : n0 ≤ h0.size) (pm0 : Fld Z h0 A0 "com/example/holdfast/holdfast/Offer" "token" "J" (.long W0)) :
    MetFree l (⟨"com/example/holdfast/holdfast/Offer", "granted", "()Z"⟩ : MethodName) (head1 (Jvm.Cond.code (⟨"com/example/holdfast/holdfast/Offer", "granted", "()Z"⟩ : MethodName) prog_10_method_4_code 1 (some .boolean) :: ws) ({ frames := 0, cells := 0, slots := 0, locals := 0 } : Room)) (fun a U => a = #[(.ref A0)] ∧ Z.Warmed39 U.vm ∧ U.heap = h0) (fun _ _ _ _ _ => True) (fun _ U o U' => ∃ v L, o = .returned v ∧ Q4 Z A0 W0 h0 n0 v U'.heap L ∧ FrameEnd U o U' L ({ frames := 0, cells := 0, slots := 0, locals := 0 } : Room).cells ({ frames := 0, cells := 0, slots := 0, locals := 0 } : Room).slots) := by
  refine MetFree.of_bodySF (plainFor_of_name pn_4) hisR ?_
  intro p e s m args below meth c s₁ Bd hml0 hP hK
  obtain ⟨rfl, hZ, hh⟩ := hP
  have hx := Bd.exec
  have hby := Bd.bytes
  have hml : c.maxLocals = 1 := hml0
  have hown : s.vm.findClass "com/example/holdfast/holdfast/Offer" = some m.cls := findClass_of_methodNamed Bd.named
  have hnm := (name_of_methodNamed Bd.named Bd.method).1
  have X0 : Stand p l e ({ frames := 0, cells := 0, slots := 0, locals := 0 } : Room) s m #[(.ref A0)] below meth c s₁ [] 0 0 := Stand.of_body Bd
  have e0 : s₁.heap = h0 := by rw [← hh, Bd.state]; rfl
  have N0 := Fr.nil n0
  have pre0 : ∀ t, Steps p.tables e below (s₁.setTop (mkF m 0 #[.val (.ref A0)] [])) t → Steps p.tables e below (s₁.setTop (entryFrame m #[(.ref A0)] 1)) t := fun t k => castTop (ef_4 m A0) k
  obtain ⟨T101, X101, e101, st101⟩ := getF X0 hx hZ hown (host := "") (Or.inl (hw _ (List.mem_of_getElem? (i := 10) rfl))) Via.refl e0 pm0 (g := (mkF m 1 #[.val (.ref A0)] [(.ref A0)])) rfl rfl (hb hby d4_1)
  have pre102 : ∀ t, Steps p.tables e below (T101.setTop (mkF m 6 #[.val (.ref A0)] [(.int (lcmpW W0 (0 : Int64)))])) t → Steps p.tables e below (s₁.setTop (entryFrame m #[(.ref A0)] 1)) t := fun t kt => pre0 t (by
      show Steps p.tables e below (s₁.setTop (mkF m 0 #[.val (.ref A0)] [])) _
      refine XS.aloadN X0.here hx rfl (hb hby d4_0) rfl rfl ?_
      show Steps p.tables e below (s₁.setTop (mkF m 1 #[.val (.ref A0)] [(.ref A0)])) _
      refine st101 _ ?_
      show Steps p.tables e below (T101.setTop (mkF m 4 #[.val (.ref A0)] [(.long W0)])) _
      refine XS.lconst X101.here hx rfl (hb hby d4_4) ?_
      show Steps p.tables e below (T101.setTop (mkF m 5 #[.val (.ref A0)] [(.long (0 : Int64)), (.long W0)])) _
      refine XS.lcmp X101.here hx rfl (hb hby d4_5) rfl ?_
      exact kt)
  by_cases hc6 : (0 : Int64) < W0
  · have pre103 : ∀ t, Steps p.tables e below (T101.setTop (mkF m 14 #[.val (.ref A0)] [(.int (1 : Int32))])) t → Steps p.tables e below (s₁.setTop (entryFrame m #[(.ref A0)] 1)) t := fun t kt => pre102 t (by
        show Steps p.tables e below (T101.setTop (mkF m 6 #[.val (.ref A0)] [(.int (lcmpW W0 (0 : Int64)))])) _
        refine XS.ifNo X101.here hx rfl (hb hby d4_6) rfl ((if0 _ _).trans (tlt ((lw_gt W0 (0 : Int64)).mpr hc6)).2.2.2) ?_
        show Steps p.tables e below (T101.setTop (mkF m 9 #[.val (.ref A0)] [])) _
        refine XS.iconst X101.here hx rfl (hb hby d4_9) ?_
        show Steps p.tables e below (T101.setTop (mkF m 10 #[.val (.ref A0)] [(.int (1 : Int32))])) _
        refine XS.goto X101.here hx rfl (pc0 := 10) (pc' := 14) rfl (hb hby d4_10) (by decide) (by decide) ?_
        exact kt)
    obtain ⟨fs, hr, hrun, hended, hW, hsame⟩ := X101.leave (v := some (.int (1 : Int32))) (fun h => by rw [Bd.returns] at h; cases h)
    refine ⟨_, _, pre103 _ ?_, hrun, hended, _, _, rfl, ?_, ⟨_, rfl⟩, hW, hsame.mono (by decide) (by decide)⟩
    · show Steps p.tables e below (T101.setTop (mkF m 14 #[.val (.ref A0)] [(.int (1 : Int32))])) _
      exact retN X101 hx (t := .boolean) Bd.returns (by simp) (hb hby d4_14) hr
    · show Q4 Z A0 W0 h0 n0 _ T101.heap _
      rw [e101]
      exact ⟨(congrArg (fun z => some (Value.int z)) (show (1 : Int32) = (if (0 : Int64) < W0 then (1 : Int32) else (0 : Int32)) from by rw [if_pos hc6])), N0, rfl⟩
  · have pre104 : ∀ t, Steps p.tables e below (T101.setTop (mkF m 14 #[.val (.ref A0)] [(.int (0 : Int32))])) t → Steps p.tables e below (s₁.setTop (entryFrame m #[(.ref A0)] 1)) t := fun t kt => pre102 t (by
        show Steps p.tables e below (T101.setTop (mkF m 6 #[.val (.ref A0)] [(.int (lcmpW W0 (0 : Int64)))])) _
        refine XS.ifYes X101.here hx rfl (pc0 := 6) (pc' := 13) rfl (hb hby d4_6) rfl ((if0 _ _).trans (flt (fun q => hc6 ((lw_gt W0 (0 : Int64)).mp q))).2.2.2) (by decide) (by decide) ?_
        show Steps p.tables e below (T101.setTop (mkF m 13 #[.val (.ref A0)] [])) _
        refine XS.iconst X101.here hx rfl (hb hby d4_13) ?_
        exact kt)
    obtain ⟨fs, hr, hrun, hended, hW, hsame⟩ := X101.leave (v := some (.int (0 : Int32))) (fun h => by rw [Bd.returns] at h; cases h)
    refine ⟨_, _, pre104 _ ?_, hrun, hended, _, _, rfl, ?_, ⟨_, rfl⟩, hW, hsame.mono (by decide) (by decide)⟩
    · show Steps p.tables e below (T101.setTop (mkF m 14 #[.val (.ref A0)] [(.int (0 : Int32))])) _
      exact retN X101 hx (t := .boolean) Bd.returns (by simp) (hb hby d4_14) hr
    · show Q4 Z A0 W0 h0 n0 _ T101.heap _
      rw [e101]
      exact ⟨(congrArg (fun z => some (Value.int z)) (show (0 : Int32) = (if (0 : Int64) < W0 then (1 : Int32) else (0 : Int32)) from by rw [if_neg hc6])), N0, rfl⟩
theorem d5_0 : decode prog_10_method_2_code 0 = .ok (.new 8, 3) := by decide +kernel
theorem d5_3 : decode prog_10_method_2_code 3 = .ok (.dup, 1) := by decide +kernel
theorem d5_4 : decode prog_10_method_2_code 4 = .ok (.lload_n 0, 1) := by decide +kernel
theorem d5_5 : decode prog_10_method_2_code 5 = .ok (.iconst 0, 1) := by decide +kernel
theorem d5_6 : decode prog_10_method_2_code 6 = .ok (.aconst_null, 1) := by decide +kernel
theorem d5_7 : decode prog_10_method_2_code 7 = .ok (.invokespecial 21, 3) := by decide +kernel
theorem d5_10 : decode prog_10_method_2_code 10 = .ok (.areturn, 1) := by decide +kernel
theorem pn_5 : plainName "com/example/holdfast/holdfast/Offer" = true := by first | (simp [plainName, overriddenIn]; done) | decide +kernel
theorem pd_5_0 : parseMethodDescriptor "(JZLjava/lang/String;)V" = some ⟨[.long, .boolean, (.object "java/lang/String")], none⟩ := by decide +kernel
theorem ef_5 (m : MethodId) (P0 : Int64) : entryFrame m #[(.long P0)] 2 = mkF m 0 #[.val (.long P0), .second] [] := by first | (simp [entryFrame, mkF, argsToLocals, Value.category]; done) | rfl
def Q5 (Z : State) (P0 : Int64) (h0 : Heap) (n0 : Nat) (v : Option Value) (h : Heap) (L : List Loc) : Prop := ∃ R0 : Addr, (v = some (.ref R0)) ∧ (Fr n0 L) ∧ (Keep h0 h []) ∧ (h0.size ≤ R0) ∧ (Exa Z h R0 "com/example/holdfast/holdfast/Offer") ∧ (Fld Z h R0 "com/example/holdfast/holdfast/Offer" "token" "J" (.long P0))
set_option maxRecDepth 65536 in
set_option maxHeartbeats 40000000 in
theorem rm5 (l : Launch) (Z : State) (a0 : Array Value) (hw : ∀ d ∈ tables_1, d.before a0 Z = true) (ws : List Jvm.Cond) (P0 : Int64) (h0 : Heap) (n0 : Nat) (Z0 : n0 ≤ h0.size) :
    MetFree l (⟨"com/example/holdfast/holdfast/Offer", "alone", "(J)Lcom/example/holdfast/holdfast/Offer;"⟩ : MethodName) (head1 (Jvm.Cond.code (⟨"com/example/holdfast/holdfast/Offer", "alone", "(J)Lcom/example/holdfast/holdfast/Offer;"⟩ : MethodName) prog_10_method_2_code 2 (some (.object "com/example/holdfast/holdfast/Offer")) :: ws) ({ frames := 2, cells := 1, slots := 3, locals := 29 } : Room)) (fun a U => a = #[(.long P0)] ∧ Z.Warmed39 U.vm ∧ U.heap = h0) (fun _ _ _ _ _ => True) (fun _ U o U' => ∃ v L, o = .returned v ∧ Q5 Z P0 h0 n0 v U'.heap L ∧ FrameEnd U o U' L ({ frames := 2, cells := 1, slots := 3, locals := 29 } : Room).cells ({ frames := 2, cells := 1, slots := 3, locals := 29 } : Room).slots) := by
  refine MetFree.of_bodySF (plainFor_of_name pn_5) hisR ?_
  intro p e s m args below meth c s₁ Bd hml0 hP hK
  obtain ⟨rfl, hZ, hh⟩ := hP
  have hx := Bd.exec
  have hby := Bd.bytes
  have hml : c.maxLocals = 2 := hml0
  have hown : s.vm.findClass "com/example/holdfast/holdfast/Offer" = some m.cls := findClass_of_methodNamed Bd.named
  have hnm := (name_of_methodNamed Bd.named Bd.method).1
  have X0 : Stand p l e ({ frames := 2, cells := 1, slots := 3, locals := 29 } : Room) s m #[(.long P0)] below meth c s₁ [] 0 0 := Stand.of_body Bd
  have e0 : s₁.heap = h0 := by rw [← hh, Bd.state]; rfl
  have N0 := Fr.nil n0
  have pre0 : ∀ t, Steps p.tables e below (s₁.setTop (mkF m 0 #[.val (.long P0), .second] [])) t → Steps p.tables e below (s₁.setTop (entryFrame m #[(.long P0)] 2)) t := fun t k => castTop (ef_5 m P0) k
  have K_0 : Keep h0 h0 [] := Keep.refl h0 _
  obtain ⟨T101, h101, X101, e101, E101, A101, D101, -, st101⟩ := newO X0 hx hZ hown (hw _ (List.mem_of_getElem? (i := 29) rfl)) (hw _ (List.mem_of_getElem? (i := 2) rfl)) (hw _ (List.mem_of_getElem? (i := 3) rfl)) e0 (g := (mkF m 0 #[.val (.long P0), .second] [])) rfl (hb hby d5_0) (by decide) (by decide)
  obtain ⟨b101, q101⟩ : ∃ z, z = h0.size := ⟨_, rfl⟩
  rw [← q101] at A101 D101 st101
  have g_b101 : n0 ≤ b101 := Nat.le_trans Z0 (Nat.le_of_eq q101.symm)
  have sz_b101 : h0.size ≤ b101 := Nat.le_trans K_0.1 (Nat.le_of_eq q101.symm)
  have Z102 : n0 ≤ h101.size := Nat.le_trans Z0 E101.1
  have K_102 : Keep h0 h101 [] := K_0.ext E101
  have F101_11 : Fld Z h101 b101 "com/example/holdfast/holdfast/Offer" "token" "J" (.long (0 : Int64)) := D101 (Or.inr (hw _ (List.mem_of_getElem? (i := 11) rfl))) (ty := .long) (by decide)
  have F101_13 : Fld Z h101 b101 "com/example/holdfast/holdfast/Offer" "recent" "Z" (.int (0 : Int32)) := D101 (Or.inr (hw _ (List.mem_of_getElem? (i := 13) rfl))) (ty := .boolean) (by decide)
  have F101_15 : Fld Z h101 b101 "com/example/holdfast/holdfast/Offer" "run" "Ljava/lang/String;" .null := D101 (Or.inr (hw _ (List.mem_of_getElem? (i := 15) rfl))) (ty := (.object "java/lang/String")) (by decide)
  obtain ⟨_, _, ⟨T103, L103, k103, n103⟩, -, X103, ⟨Lc103, hQ103, l103, y103, z103⟩, st103⟩ := X101.specialBack hx (y := (⟨"com/example/holdfast/holdfast/Offer", "<init>", "(JZLjava/lang/String;)V"⟩ : MethodName)) rfl hown (mvT hZ (hw _ (List.mem_of_getElem? (i := 30) rfl))) (mvT hZ (hw _ (List.mem_of_getElem? (i := 5) rfl))) (mvT hZ (hw _ (List.mem_of_getElem? (i := 6) rfl))) (by decide) (backOf (W := 1) (rmoffN l Z a0 hw [] b101 P0 (0 : Int32) (0 : Int64) (0 : Int32) .null h101 n0 Z102 F101_11 F101_13 F101_15 A101 g_b101) hZ (hw _ (List.mem_of_getElem? (i := 6) rfl)) (hw _ (List.mem_of_getElem? (i := 3) rfl)) (by decide) (by decide)) (g := (mkF m 7 #[.val (.long P0), .second] [.null, (.int (0 : Int32)), (.long P0), (.ref b101), (.ref b101)])) rfl (by rw [hml]; rfl) (Steps.refl _) (a := b101) (argsL := [(.long P0), (.int (0 : Int32)), .null]) (rest := [(.ref b101)]) (lenOf pd_5_0 rfl) rfl (by show 2 * 0 + _ ≤ _; exact Nat.le_of_eq rfl) (hb hby d5_7) (fun _ _ => ⟨rfl, e101, (by decide : 1 + 0 ≤ _), (by decide : 3 + 0 ≤ _)⟩)
  dsimp only [Pt.U, Pt.locs, Pt.cells, Pt.slots] at X103 l103 y103 z103 st103 hQ103
  subst l103 y103 z103
  obtain ⟨rfl, N103q, K103, p103_0, p103_1⟩ := hQ103
  have N103 := Fr.app N0 N103q
  have Z104 : n0 ≤ T103.heap.size := Nat.le_trans Z102 K103.1
  have K_104 : Keep h0 T103.heap [] := K_102.trans K103 (allS (Or.inr sz_b101) all0)
  have pre105 : ∀ t, Steps p.tables e below (T103.setTop (mkF m 10 #[.val (.long P0), .second] [(.ref b101)])) t → Steps p.tables e below (s₁.setTop (entryFrame m #[(.long P0)] 2)) t := fun t kt => pre0 t (by
      show Steps p.tables e below (s₁.setTop (mkF m 0 #[.val (.long P0), .second] [])) _
      refine st101 _ ?_
      show Steps p.tables e below (T101.setTop (mkF m 3 #[.val (.long P0), .second] [(.ref b101)])) _
      refine XS.dup X101.here hx rfl (hb hby d5_3) rfl rfl ?_
      show Steps p.tables e below (T101.setTop (mkF m 4 #[.val (.long P0), .second] [(.ref b101), (.ref b101)])) _
      refine XS.lloadN X101.here hx rfl (hb hby d5_4) rfl ?_
      show Steps p.tables e below (T101.setTop (mkF m 5 #[.val (.long P0), .second] [(.long P0), (.ref b101), (.ref b101)])) _
      refine XS.iconst X101.here hx rfl (hb hby d5_5) ?_
      show Steps p.tables e below (T101.setTop (mkF m 6 #[.val (.long P0), .second] [(.int (0 : Int32)), (.long P0), (.ref b101), (.ref b101)])) _
      refine XS.aconstNull X101.here hx rfl (hb hby d5_6) ?_
      show Steps p.tables e below (T101.setTop (mkF m 7 #[.val (.long P0), .second] [.null, (.int (0 : Int32)), (.long P0), (.ref b101), (.ref b101)])) _
      refine st103.trans ?_
      exact kt)
  obtain ⟨fs, hr, hrun, hended, hW, hsame⟩ := X103.leave (v := some (.ref b101)) (fun h => by rw [Bd.returns] at h; cases h)
  refine ⟨_, _, pre105 _ ?_, hrun, hended, _, _, rfl, ?_, ⟨_, rfl⟩, hW, hsame.mono (by decide) (by decide)⟩
  · show Steps p.tables e below (T103.setTop (mkF m 10 #[.val (.long P0), .second] [(.ref b101)])) _
    exact retOut X103 hx Bd.returns rfl (Or.inr (Or.inr (Or.inr (Or.inr ⟨rfl, rfl, rfl⟩)))) (hb hby d5_10) hr
  · show Q5 Z P0 h0 n0 _ T103.heap _
    exact ⟨b101, rfl, N103, K_104, sz_b101, p103_0, p103_1⟩
theorem own_le (x : Int32) : ¬ ((255 : Int32) < (nar .char ((x &&& (255 : Int32)).toUInt32.toUInt16.toUInt32.toInt32))) := by
  have e1 : nar .char ((x &&& (255 : Int32)).toUInt32.toUInt16.toUInt32.toInt32) = x &&& (255 : Int32) := by
    show ((x &&& (255 : Int32)).toUInt32.toUInt16.toUInt32.toInt32).toUInt32.toUInt16.toUInt32.toInt32 = _
    rw [i2c_mask, i2c_mask]
  rw [e1, Int32.lt_iff_toInt_lt]
  have h := c_and x 255 (by decide)
  have e : (255 : Int32).toInt = 255 := rfl
  omega
theorem own_s0 (t : Int64) : ((0 : Int64) < t) ↔ 0 < t.toInt := by rw [Int64.lt_iff_toInt_lt]; exact Iff.rfl
theorem own_g1 (t : Int64) : (if (0 : Int64) < t then (1 : Int32) else (0 : Int32)) = (if ¬ (t = (0 : Int64)) ∧ (¬ (t < (0 : Int64))) then (1 : Int32) else (0 : Int32)) := by
  have h0 : (0 : Int64).toInt = 0 := rfl
  by_cases a : t = (0 : Int64)
  · rw [if_neg (show ¬ (¬ (t = (0 : Int64)) ∧ (¬ (t < (0 : Int64)))) from fun q => q.1 a), if_neg]; rw [a]; decide
  · have a' : t.toInt ≠ 0 := fun q => a (Int64.toInt_inj.mp q)
    by_cases b : t < (0 : Int64)
    · rw [if_neg (show ¬ (¬ (t = (0 : Int64)) ∧ (¬ (t < (0 : Int64)))) from fun q => q.2 b), if_neg]; rw [Int64.lt_iff_toInt_lt] at *; omega
    · rw [if_pos (show (¬ (t = (0 : Int64)) ∧ (¬ (t < (0 : Int64)))) from ⟨a, b⟩), if_pos]; rw [Int64.lt_iff_toInt_lt] at *; omega
theorem own_g2 (t : Int64) : (if (0 : Int64) < t then (1 : Int32) else (0 : Int32)) = (if ¬ (t < (1 : Int64)) then (1 : Int32) else (0 : Int32)) := by
  have h0 : (0 : Int64).toInt = 0 := rfl
  have h1 : (1 : Int64).toInt = 1 := rfl
  by_cases b : t < (1 : Int64)
  · rw [if_neg, if_neg (fun q => q b)]; rw [Int64.lt_iff_toInt_lt] at *; omega
  · rw [if_pos, if_pos b]; rw [Int64.lt_iff_toInt_lt] at *; omega
theorem pn_0 : plainName "com/example/holdfast/holdfast/OfferGrantedPinLaw" = true := by first | (simp [plainName, overriddenIn]; done) | decide +kernel
theorem pd_0_0 : parseMethodDescriptor "([C)V" = some ⟨[(.array .char)], none⟩ := by decide +kernel
theorem pd_0_1 : parseMethodDescriptor "(JZLjava/lang/String;)V" = some ⟨[.long, .boolean, (.object "java/lang/String")], none⟩ := by decide +kernel
theorem pd_0_2 : parseMethodDescriptor "()J" = some ⟨[], some .long⟩ := by decide +kernel
theorem pd_0_3 : parseMethodDescriptor "()Z" = some ⟨[], some .boolean⟩ := by decide +kernel
theorem pd_0_4 : parseMethodDescriptor "(J)Lcom/example/holdfast/holdfast/Offer;" = some ⟨[.long], some (.object "com/example/holdfast/holdfast/Offer")⟩ := by decide +kernel
theorem ef_0 (m : MethodId) (P0 : Int64) (P1 : Int32) (P2 : Int32) : entryFrame m #[(.long P0), (.int P1), (.int P2)] maxLocals = mkF m 0 #[.val (.long P0), .second, .val (.int P1), .val (.int P2), .unset, .unset, .unset, .unset, .unset, .unset] [] := by first | (simp [entryFrame, mkF, argsToLocals, Value.category, maxLocals]; done) | rfl
def Q0 (Z : State) (P0 : Int64) (P1 : Int32) (P2 : Int32) (U0 : Int32) (h0 : Heap) (n0 : Nat) (v : Option Value) (h : Heap) (L : List Loc) : Prop := v = some (.int (1 : Int32)) ∧ Fr n0 L
set_option maxRecDepth 65536 in
set_option maxHeartbeats 40000000 in
theorem rm0 (l : Launch) (Z : State) (a0 : Array Value) (hw : ∀ d ∈ tables_1, d.before a0 Z = true) (ws : List Jvm.Cond) (P0 : Int64) (P1 : Int32) (P2 : Int32) (U0 : Int32) (h0 : Heap) (n0 : Nat) (Z0 : n0 ≤ h0.size) (pm0 : Sta Z h0 "java/lang/String" "COMPACT_STRINGS" "Z" (.int U0)) (hcs : ¬ (U0 = (0 : Int32))) :
    MetFree l x (head1 (Jvm.Cond.code x code maxLocals ret :: ws) room_1) (fun a U => a = #[(.long P0), (.int P1), (.int P2)] ∧ Z.Warmed39 U.vm ∧ U.heap = h0) (fun _ _ _ _ _ => True) (fun _ U o U' => ∃ v L, o = .returned v ∧ Q0 Z P0 P1 P2 U0 h0 n0 v U'.heap L ∧ FrameEnd U o U' L 24 128) := by
  refine MetFree.of_bodySF (plainFor_of_name pn_0) hisR ?_
  intro p e s m args below meth c s₁ Bd hml0 hP hK
  obtain ⟨rfl, hZ, hh⟩ := hP
  have hx := Bd.exec
  have hby := Bd.bytes
  have hml : c.maxLocals = 10 := hml0
  have hown : s.vm.findClass "com/example/holdfast/holdfast/OfferGrantedPinLaw" = some m.cls := findClass_of_methodNamed Bd.named
  have hnm := (name_of_methodNamed Bd.named Bd.method).1
  have X0 : Stand p l e room_1 s m #[(.long P0), (.int P1), (.int P2)] below meth c s₁ [] 0 0 := Stand.of_body Bd
  have e0 : s₁.heap = h0 := by rw [← hh, Bd.state]; rfl
  have N0 := Fr.nil n0
  have pre0 : ∀ t, Steps p.tables e below (s₁.setTop (mkF m 0 #[.val (.long P0), .second, .val (.int P1), .val (.int P2), .unset, .unset, .unset, .unset, .unset, .unset] [])) t → Steps p.tables e below (s₁.setTop (entryFrame m #[(.long P0), (.int P1), (.int P2)] maxLocals)) t := fun t k => castTop (ef_0 m P0 P1 P2) k
  have pre101 : ∀ t, Steps p.tables e below (s₁.setTop (mkF m 11 #[.val (.long P0), .second, .val (.int P1), .val (.int P2), .unset, .unset, .unset, .unset, .unset, .unset] [(.int (if ¬ ((P1 &&& (1 : Int32)) = (0 : Int32)) then (1 : Int32) else (0 : Int32)))])) t → Steps p.tables e below (s₁.setTop (entryFrame m #[(.long P0), (.int P1), (.int P2)] maxLocals)) t := fun t kt => pre0 t (by
      show Steps p.tables e below (s₁.setTop (mkF m 0 #[.val (.long P0), .second, .val (.int P1), .val (.int P2), .unset, .unset, .unset, .unset, .unset, .unset] [])) _
      refine XS.iloadN X0.here hx rfl (hb hby at_0) rfl ?_
      show Steps p.tables e below (s₁.setTop (mkF m 1 #[.val (.long P0), .second, .val (.int P1), .val (.int P2), .unset, .unset, .unset, .unset, .unset, .unset] [(.int P1)])) _
      refine XS.iconst X0.here hx rfl (hb hby at_1) ?_
      show Steps p.tables e below (s₁.setTop (mkF m 2 #[.val (.long P0), .second, .val (.int P1), .val (.int P2), .unset, .unset, .unset, .unset, .unset, .unset] [(.int (1 : Int32)), (.int P1)])) _
      refine XS.iand X0.here hx rfl (hb hby at_2) rfl ?_
      show Steps p.tables e below (s₁.setTop (mkF m 3 #[.val (.long P0), .second, .val (.int P1), .val (.int P2), .unset, .unset, .unset, .unset, .unset, .unset] [(.int (P1 &&& (1 : Int32)))])) _
      by_cases hm3 : (P1 &&& (1 : Int32)) = (0 : Int32)
      · refine XS.ifYes X0.here hx rfl (pc0 := 3) (pc' := 10) rfl (hb hby at_3) rfl ((if0 _ _).trans (teq hm3).1) (by decide) (by decide) ?_
        show Steps p.tables e below (s₁.setTop (mkF m 10 #[.val (.long P0), .second, .val (.int P1), .val (.int P2), .unset, .unset, .unset, .unset, .unset, .unset] [])) _
        refine XS.iconst X0.here hx rfl (hb hby at_10) ?_
        rw [show (if ¬ ((P1 &&& (1 : Int32)) = (0 : Int32)) then (1 : Int32) else (0 : Int32)) = (0 : Int32) from by simp [hm3]] at kt
        exact kt
      · refine XS.ifNo X0.here hx rfl (hb hby at_3) rfl ((if0 _ _).trans (feq hm3).1) ?_
        show Steps p.tables e below (s₁.setTop (mkF m 6 #[.val (.long P0), .second, .val (.int P1), .val (.int P2), .unset, .unset, .unset, .unset, .unset, .unset] [])) _
        refine XS.iconst X0.here hx rfl (hb hby at_6) ?_
        show Steps p.tables e below (s₁.setTop (mkF m 7 #[.val (.long P0), .second, .val (.int P1), .val (.int P2), .unset, .unset, .unset, .unset, .unset, .unset] [(.int (1 : Int32))])) _
        refine XS.goto X0.here hx rfl (pc0 := 7) (pc' := 11) rfl (hb hby at_7) (by decide) (by decide) ?_
        rw [show (if ¬ ((P1 &&& (1 : Int32)) = (0 : Int32)) then (1 : Int32) else (0 : Int32)) = (1 : Int32) from by simp [hm3]] at kt
        exact kt)
  obtain ⟨T102, h102, k102, X102, e102, E102, A102, EX102, st102⟩ := newPE X0 hx hZ (hw _ (List.mem_of_getElem? (i := 0) rfl)) e0 (g := (mkF m 14 #[.val (.long P0), .second, .val (.int P1), .val (.int P2), .val (.int (if ¬ ((P1 &&& (1 : Int32)) = (0 : Int32)) then (1 : Int32) else (0 : Int32))), .unset, .unset, .unset, .unset, .unset] [(.int (1 : Int32))])) rfl (hb hby at_14) rfl (by decide) (cap := 1) (by decide) (by decide) (by decide) (by decide) (ad := "[C") (by decide)
  obtain ⟨b102, q102⟩ : ∃ z, z = h0.size := ⟨_, rfl⟩
  rw [← q102] at A102 EX102 st102
  have g_b102 : n0 ≤ b102 := Nat.le_trans Z0 (Nat.le_of_eq q102.symm)
  have Z103 : n0 ≤ h102.size := Nat.le_trans Z0 E102.1
  have V102 : Arv Z h102 b102 k102 .char (1 : Int32) [(.int (0 : Int32))] (.int (0 : Int32)) := (Arv.new A102 (by decide)).pad (pad_rep [] (.int (0 : Int32)) 1)
  obtain ⟨cl104, Ar104, q104, S104, N_104, H104, G104⟩ := id V102
  have hin104 : ¬ ((0 : Int32) < 0 ∨ cl104.slots.size ≤ ((0 : Int32)).toNatClampNeg) := inb_of S104 ⟨by decide, by decide⟩
  obtain ⟨T105, h105, X105, e105, W105, st105⟩ := stC X102 hx hZ e102 Ar104 (j := (0 : Int32)) hin104 (g := (mkF m 27 #[.val (.long P0), .second, .val (.int P1), .val (.int P2), .val (.int (if ¬ ((P1 &&& (1 : Int32)) = (0 : Int32)) then (1 : Int32) else (0 : Int32))), .val (.ref b102), .unset, .unset, .unset, .unset] [(.int ((P2 &&& (255 : Int32)).toUInt32.toUInt16.toUInt32.toInt32)), (.int (0 : Int32)), (.ref b102)])) rfl rfl (hb hby at_27)
  have Z106 : n0 ≤ h105.size := Nat.le_trans Z103 (Nat.le_of_eq W105.size.symm)
  have V105 : Arv Z h105 b102 k102 .char (1 : Int32) [(.int (nar .char ((P2 &&& (255 : Int32)).toUInt32.toUInt16.toUInt32.toInt32)))] (.int (0 : Int32)) := Arv.set Ar104 q104 S104 N_104 H104 G104 (fits_nar_char _) W105 0 rfl (Nat.le_of_ble_eq_true rfl)
  have N105 := Fr.snoc X105 N0 g_b102
  have pre107 : ∀ t, Steps p.tables e below (T105.setTop (mkF m 31 #[.val (.long P0), .second, .val (.int P1), .val (.int P2), .val (.int (if ¬ ((P1 &&& (1 : Int32)) = (0 : Int32)) then (1 : Int32) else (0 : Int32))), .val (.ref b102), .unset, .unset, .unset, .unset] [(.int (P1 &&& (2 : Int32)))])) t → Steps p.tables e below (s₁.setTop (entryFrame m #[(.long P0), (.int P1), (.int P2)] maxLocals)) t := fun t kt => pre101 t (by
      show Steps p.tables e below (s₁.setTop (mkF m 11 #[.val (.long P0), .second, .val (.int P1), .val (.int P2), .unset, .unset, .unset, .unset, .unset, .unset] [(.int (if ¬ ((P1 &&& (1 : Int32)) = (0 : Int32)) then (1 : Int32) else (0 : Int32)))])) _
      refine XS.istore X0.here hx rfl (hb hby at_11) rfl (l' := #[.val (.long P0), .second, .val (.int P1), .val (.int P2), .val (.int (if ¬ ((P1 &&& (1 : Int32)) = (0 : Int32)) then (1 : Int32) else (0 : Int32))), .unset, .unset, .unset, .unset, .unset]) rfl ?_
      show Steps p.tables e below (s₁.setTop (mkF m 13 #[.val (.long P0), .second, .val (.int P1), .val (.int P2), .val (.int (if ¬ ((P1 &&& (1 : Int32)) = (0 : Int32)) then (1 : Int32) else (0 : Int32))), .unset, .unset, .unset, .unset, .unset] [])) _
      refine XS.iconst X0.here hx rfl (hb hby at_13) ?_
      show Steps p.tables e below (s₁.setTop (mkF m 14 #[.val (.long P0), .second, .val (.int P1), .val (.int P2), .val (.int (if ¬ ((P1 &&& (1 : Int32)) = (0 : Int32)) then (1 : Int32) else (0 : Int32))), .unset, .unset, .unset, .unset, .unset] [(.int (1 : Int32))])) _
      refine st102 _ ?_
      show Steps p.tables e below (T102.setTop (mkF m 16 #[.val (.long P0), .second, .val (.int P1), .val (.int P2), .val (.int (if ¬ ((P1 &&& (1 : Int32)) = (0 : Int32)) then (1 : Int32) else (0 : Int32))), .unset, .unset, .unset, .unset, .unset] [(.ref b102)])) _
      refine XS.astore X102.here hx rfl (hb hby at_16) rfl rfl (l' := #[.val (.long P0), .second, .val (.int P1), .val (.int P2), .val (.int (if ¬ ((P1 &&& (1 : Int32)) = (0 : Int32)) then (1 : Int32) else (0 : Int32))), .val (.ref b102), .unset, .unset, .unset, .unset]) rfl ?_
      show Steps p.tables e below (T102.setTop (mkF m 18 #[.val (.long P0), .second, .val (.int P1), .val (.int P2), .val (.int (if ¬ ((P1 &&& (1 : Int32)) = (0 : Int32)) then (1 : Int32) else (0 : Int32))), .val (.ref b102), .unset, .unset, .unset, .unset] [])) _
      refine XS.aload X102.here hx rfl (hb hby at_18) rfl rfl ?_
      show Steps p.tables e below (T102.setTop (mkF m 20 #[.val (.long P0), .second, .val (.int P1), .val (.int P2), .val (.int (if ¬ ((P1 &&& (1 : Int32)) = (0 : Int32)) then (1 : Int32) else (0 : Int32))), .val (.ref b102), .unset, .unset, .unset, .unset] [(.ref b102)])) _
      refine XS.iconst X102.here hx rfl (hb hby at_20) ?_
      show Steps p.tables e below (T102.setTop (mkF m 21 #[.val (.long P0), .second, .val (.int P1), .val (.int P2), .val (.int (if ¬ ((P1 &&& (1 : Int32)) = (0 : Int32)) then (1 : Int32) else (0 : Int32))), .val (.ref b102), .unset, .unset, .unset, .unset] [(.int (0 : Int32)), (.ref b102)])) _
      refine XS.iloadN X102.here hx rfl (hb hby at_21) rfl ?_
      show Steps p.tables e below (T102.setTop (mkF m 22 #[.val (.long P0), .second, .val (.int P1), .val (.int P2), .val (.int (if ¬ ((P1 &&& (1 : Int32)) = (0 : Int32)) then (1 : Int32) else (0 : Int32))), .val (.ref b102), .unset, .unset, .unset, .unset] [(.int P2), (.int (0 : Int32)), (.ref b102)])) _
      refine XS.sipush X102.here hx rfl (hb hby at_22) ?_
      show Steps p.tables e below (T102.setTop (mkF m 25 #[.val (.long P0), .second, .val (.int P1), .val (.int P2), .val (.int (if ¬ ((P1 &&& (1 : Int32)) = (0 : Int32)) then (1 : Int32) else (0 : Int32))), .val (.ref b102), .unset, .unset, .unset, .unset] [(.int (255 : Int32)), (.int P2), (.int (0 : Int32)), (.ref b102)])) _
      refine XS.iand X102.here hx rfl (hb hby at_25) rfl ?_
      show Steps p.tables e below (T102.setTop (mkF m 26 #[.val (.long P0), .second, .val (.int P1), .val (.int P2), .val (.int (if ¬ ((P1 &&& (1 : Int32)) = (0 : Int32)) then (1 : Int32) else (0 : Int32))), .val (.ref b102), .unset, .unset, .unset, .unset] [(.int (P2 &&& (255 : Int32))), (.int (0 : Int32)), (.ref b102)])) _
      refine XS.i2c X102.here hx rfl (hb hby at_26) rfl ?_
      show Steps p.tables e below (T102.setTop (mkF m 27 #[.val (.long P0), .second, .val (.int P1), .val (.int P2), .val (.int (if ¬ ((P1 &&& (1 : Int32)) = (0 : Int32)) then (1 : Int32) else (0 : Int32))), .val (.ref b102), .unset, .unset, .unset, .unset] [(.int ((P2 &&& (255 : Int32)).toUInt32.toUInt16.toUInt32.toInt32)), (.int (0 : Int32)), (.ref b102)])) _
      refine st105 _ ?_
      show Steps p.tables e below (T105.setTop (mkF m 28 #[.val (.long P0), .second, .val (.int P1), .val (.int P2), .val (.int (if ¬ ((P1 &&& (1 : Int32)) = (0 : Int32)) then (1 : Int32) else (0 : Int32))), .val (.ref b102), .unset, .unset, .unset, .unset] [])) _
      refine XS.iloadN X105.here hx rfl (hb hby at_28) rfl ?_
      show Steps p.tables e below (T105.setTop (mkF m 29 #[.val (.long P0), .second, .val (.int P1), .val (.int P2), .val (.int (if ¬ ((P1 &&& (1 : Int32)) = (0 : Int32)) then (1 : Int32) else (0 : Int32))), .val (.ref b102), .unset, .unset, .unset, .unset] [(.int P1)])) _
      refine XS.iconst X105.here hx rfl (hb hby at_29) ?_
      show Steps p.tables e below (T105.setTop (mkF m 30 #[.val (.long P0), .second, .val (.int P1), .val (.int P2), .val (.int (if ¬ ((P1 &&& (1 : Int32)) = (0 : Int32)) then (1 : Int32) else (0 : Int32))), .val (.ref b102), .unset, .unset, .unset, .unset] [(.int (2 : Int32)), (.int P1)])) _
      refine XS.iand X105.here hx rfl (hb hby at_30) rfl ?_
      exact kt)
  by_cases hc31 : (P1 &&& (2 : Int32)) = (0 : Int32)
  · obtain ⟨T108, h108, X108, e108, E108, A108, D108, -, st108⟩ := newO X105 hx hZ hown (hw _ (List.mem_of_getElem? (i := 31) rfl)) (hw _ (List.mem_of_getElem? (i := 32) rfl)) (hw _ (List.mem_of_getElem? (i := 33) rfl)) e105 (g := (mkF m 38 #[.val (.long P0), .second, .val (.int P1), .val (.int P2), .val (.int (if ¬ ((P1 &&& (1 : Int32)) = (0 : Int32)) then (1 : Int32) else (0 : Int32))), .val (.ref b102), .unset, .unset, .unset, .unset] [])) rfl (hb hby at_38) (by decide) (by decide)
    obtain ⟨b108, q108⟩ : ∃ z, z = h105.size := ⟨_, rfl⟩
    rw [← q108] at A108 D108 st108
    have c110 : Exa Z h105 b102 "[C" := (EX102.wr W105)
    have ne109 : b102 ≠ b108 := Nat.ne_of_lt (Nat.lt_of_lt_of_le c110.lt (Nat.le_of_eq q108.symm))
    have g_b108 : n0 ≤ b108 := Nat.le_trans Z106 (Nat.le_of_eq q108.symm)
    have Z111 : n0 ≤ h108.size := Nat.le_trans Z106 E108.1
    have F108_55 : Fld Z h108 b108 "java/lang/String" "coder" "B" (.int (0 : Int32)) := D108 (Or.inr (hw _ (List.mem_of_getElem? (i := 55) rfl))) (ty := .byte) (by decide)
    have F108_57 : Fld Z h108 b108 "java/lang/String" "value" "[B" .null := D108 (Or.inr (hw _ (List.mem_of_getElem? (i := 57) rfl))) (ty := (.array .byte)) (by decide)
    have c112 : Arv Z h108 b102 k102 .char (1 : Int32) [(.int (nar .char ((P2 &&& (255 : Int32)).toUInt32.toUInt16.toUInt32.toInt32)))] (.int (0 : Int32)) := (V105.ext E108)
    have c113 : Sta Z h108 "java/lang/String" "COMPACT_STRINGS" "Z" (.int U0) := (((pm0.ext E102).wr W105).ext E108)
    obtain ⟨_, _, ⟨T114, L114, k114, n114⟩, -, X114, ⟨Lc114, hQ114, l114, y114, z114⟩, st114⟩ := X108.specialBack hx (y := (⟨"java/lang/String", "<init>", "([C)V"⟩ : MethodName)) rfl hown (mvT hZ (hw _ (List.mem_of_getElem? (i := 34) rfl))) (mvT hZ (hw _ (List.mem_of_getElem? (i := 35) rfl))) (mvT hZ (hw _ (List.mem_of_getElem? (i := 36) rfl))) (by decide) (backOf (W := 1) (rm6 l Z a0 hw [] b108 b102 k102 (nar .char ((P2 &&& (255 : Int32)).toUInt32.toUInt16.toUInt32.toInt32)) .null (0 : Int32) U0 h108 n0 Z111 F108_57 F108_55 A108 c112 (show ¬ ((255 : Int32) < (nar .char ((P2 &&& (255 : Int32)).toUInt32.toUInt16.toUInt32.toInt32))) from (own_le _)) c113 (show ¬ (U0 = (0 : Int32)) from hcs) g_b108) hZ (hw _ (List.mem_of_getElem? (i := 36) rfl)) (hw _ (List.mem_of_getElem? (i := 33) rfl)) (by decide) (by decide)) (g := (mkF m 44 #[.val (.long P0), .second, .val (.int P1), .val (.int P2), .val (.int (if ¬ ((P1 &&& (1 : Int32)) = (0 : Int32)) then (1 : Int32) else (0 : Int32))), .val (.ref b102), .unset, .unset, .unset, .unset] [(.ref b102), (.ref b108), (.ref b108)])) rfl (by rw [hml]; rfl) (Steps.refl _) (a := b108) (argsL := [(.ref b102)]) (rest := [(.ref b108)]) (lenOf pd_0_0 rfl) rfl (by show 2 * 0 + _ ≤ _; exact Nat.le_of_eq rfl) (hb hby at_44) (fun _ _ => ⟨rfl, e108, (by decide : 2 + 1 ≤ _), (by decide : 5 + 1 ≤ _)⟩)
    dsimp only [Pt.U, Pt.locs, Pt.cells, Pt.slots] at X114 l114 y114 z114 st114 hQ114
    subst l114 y114 z114
    obtain ⟨rfl, N114q, K114, p114_0⟩ := hQ114
    have N114 := Fr.app N105 N114q
    have Z115 : n0 ≤ T114.heap.size := Nat.le_trans Z111 K114.1
    have ss114_0 : Sta Z T114.heap "java/lang/String" "COMPACT_STRINGS" "Z" (.int U0) := own_sta_keep c113 K114 (allS (own_ns A108) all0)
    obtain ⟨T116, h116, X116, e116, E116, A116, D116, -, st116⟩ := newO X114 hx hZ hown (hw _ (List.mem_of_getElem? (i := 1) rfl)) (hw _ (List.mem_of_getElem? (i := 2) rfl)) (hw _ (List.mem_of_getElem? (i := 3) rfl)) rfl (g := (mkF m 49 #[.val (.long P0), .second, .val (.int P1), .val (.int P2), .val (.int (if ¬ ((P1 &&& (1 : Int32)) = (0 : Int32)) then (1 : Int32) else (0 : Int32))), .val (.ref b102), .val (.ref b108), .unset, .unset, .unset] [])) rfl (hb hby at_49) (by decide) (by decide)
    obtain ⟨b116, q116⟩ : ∃ z, z = T114.heap.size := ⟨_, rfl⟩
    rw [← q116] at A116 D116 st116
    have c118 : Exa Z T114.heap b102 "[C" := ((c110.ext E108).keep K114)
    have ne117 : b102 ≠ b116 := Nat.ne_of_lt (Nat.lt_of_lt_of_le c118.lt (Nat.le_of_eq q116.symm))
    have ne119 : b108 ≠ b116 := Nat.ne_of_lt (Nat.lt_of_lt_of_le p114_0.lt (Nat.le_of_eq q116.symm))
    have g_b116 : n0 ≤ b116 := Nat.le_trans Z115 (Nat.le_of_eq q116.symm)
    have Z120 : n0 ≤ h116.size := Nat.le_trans Z115 E116.1
    have F116_11 : Fld Z h116 b116 "com/example/holdfast/holdfast/Offer" "token" "J" (.long (0 : Int64)) := D116 (Or.inr (hw _ (List.mem_of_getElem? (i := 11) rfl))) (ty := .long) (by decide)
    have F116_13 : Fld Z h116 b116 "com/example/holdfast/holdfast/Offer" "recent" "Z" (.int (0 : Int32)) := D116 (Or.inr (hw _ (List.mem_of_getElem? (i := 13) rfl))) (ty := .boolean) (by decide)
    have F116_15 : Fld Z h116 b116 "com/example/holdfast/holdfast/Offer" "run" "Ljava/lang/String;" .null := D116 (Or.inr (hw _ (List.mem_of_getElem? (i := 15) rfl))) (ty := (.object "java/lang/String")) (by decide)
    have c121 : Sta Z h116 "java/lang/String" "COMPACT_STRINGS" "Z" (.int U0) := (ss114_0.ext E116)
    obtain ⟨_, _, ⟨T122, L122, k122, n122⟩, -, X122, ⟨Lc122, hQ122, l122, y122, z122⟩, st122⟩ := X116.specialBack hx (y := (⟨"com/example/holdfast/holdfast/Offer", "<init>", "(JZLjava/lang/String;)V"⟩ : MethodName)) rfl hown (mvT hZ (hw _ (List.mem_of_getElem? (i := 4) rfl))) (mvT hZ (hw _ (List.mem_of_getElem? (i := 5) rfl))) (mvT hZ (hw _ (List.mem_of_getElem? (i := 6) rfl))) (by decide) (backOf (W := 1) (rmoffR l Z a0 hw [] b116 P0 (if ¬ ((P1 &&& (1 : Int32)) = (0 : Int32)) then (1 : Int32) else (0 : Int32)) b108 (0 : Int64) (0 : Int32) .null h116 n0 Z120 F116_11 F116_13 F116_15 A116 g_b116) hZ (hw _ (List.mem_of_getElem? (i := 6) rfl)) (hw _ (List.mem_of_getElem? (i := 3) rfl)) (by decide) (by decide)) (g := (mkF m 58 #[.val (.long P0), .second, .val (.int P1), .val (.int P2), .val (.int (if ¬ ((P1 &&& (1 : Int32)) = (0 : Int32)) then (1 : Int32) else (0 : Int32))), .val (.ref b102), .val (.ref b108), .unset, .unset, .unset] [(.ref b108), (.int (if ¬ ((P1 &&& (1 : Int32)) = (0 : Int32)) then (1 : Int32) else (0 : Int32))), (.long P0), (.ref b116), (.ref b116)])) rfl (by rw [hml]; rfl) (Steps.refl _) (a := b116) (argsL := [(.long P0), (.int (if ¬ ((P1 &&& (1 : Int32)) = (0 : Int32)) then (1 : Int32) else (0 : Int32))), (.ref b108)]) (rest := [(.ref b116)]) (lenOf pd_0_1 rfl) rfl (by show 2 * 0 + _ ≤ _; exact Nat.le_of_eq rfl) (hb hby at_58) (fun _ _ => ⟨rfl, e116, (by decide : 4 + 0 ≤ _), (by decide : 9 + 0 ≤ _)⟩)
    dsimp only [Pt.U, Pt.locs, Pt.cells, Pt.slots] at X122 l122 y122 z122 st122 hQ122
    subst l122 y122 z122
    obtain ⟨rfl, N122q, K122, p122_0, p122_1⟩ := hQ122
    have N122 := Fr.app N114 N122q
    have Z123 : n0 ≤ T122.heap.size := Nat.le_trans Z120 K122.1
    have ss122_0 : Sta Z T122.heap "java/lang/String" "COMPACT_STRINGS" "Z" (.int U0) := own_sta_keep c121 K122 (allS (own_ns A116) all0)
    have pre124 : ∀ t, Steps p.tables e below (T122.setTop (mkF m 90 #[.val (.long P0), .second, .val (.int P1), .val (.int P2), .val (.int (if ¬ ((P1 &&& (1 : Int32)) = (0 : Int32)) then (1 : Int32) else (0 : Int32))), .val (.ref b102), .val (.ref b108), .val (.ref b116), .val (.int (if ¬ (P0 = (0 : Int64)) ∧ (¬ (P0 < (0 : Int64))) then (1 : Int32) else (0 : Int32))), .unset] [])) t → Steps p.tables e below (s₁.setTop (entryFrame m #[(.long P0), (.int P1), (.int P2)] maxLocals)) t := fun t kt => pre107 t (by
        show Steps p.tables e below (T105.setTop (mkF m 31 #[.val (.long P0), .second, .val (.int P1), .val (.int P2), .val (.int (if ¬ ((P1 &&& (1 : Int32)) = (0 : Int32)) then (1 : Int32) else (0 : Int32))), .val (.ref b102), .unset, .unset, .unset, .unset] [(.int (P1 &&& (2 : Int32)))])) _
        refine XS.ifYes X105.here hx rfl (pc0 := 31) (pc' := 38) rfl (hb hby at_31) rfl ((if0 _ _).trans (teq hc31).1) (by decide) (by decide) ?_
        show Steps p.tables e below (T105.setTop (mkF m 38 #[.val (.long P0), .second, .val (.int P1), .val (.int P2), .val (.int (if ¬ ((P1 &&& (1 : Int32)) = (0 : Int32)) then (1 : Int32) else (0 : Int32))), .val (.ref b102), .unset, .unset, .unset, .unset] [])) _
        refine st108 _ ?_
        show Steps p.tables e below (T108.setTop (mkF m 41 #[.val (.long P0), .second, .val (.int P1), .val (.int P2), .val (.int (if ¬ ((P1 &&& (1 : Int32)) = (0 : Int32)) then (1 : Int32) else (0 : Int32))), .val (.ref b102), .unset, .unset, .unset, .unset] [(.ref b108)])) _
        refine XS.dup X108.here hx rfl (hb hby at_41) rfl rfl ?_
        show Steps p.tables e below (T108.setTop (mkF m 42 #[.val (.long P0), .second, .val (.int P1), .val (.int P2), .val (.int (if ¬ ((P1 &&& (1 : Int32)) = (0 : Int32)) then (1 : Int32) else (0 : Int32))), .val (.ref b102), .unset, .unset, .unset, .unset] [(.ref b108), (.ref b108)])) _
        refine XS.aload X108.here hx rfl (hb hby at_42) rfl rfl ?_
        show Steps p.tables e below (T108.setTop (mkF m 44 #[.val (.long P0), .second, .val (.int P1), .val (.int P2), .val (.int (if ¬ ((P1 &&& (1 : Int32)) = (0 : Int32)) then (1 : Int32) else (0 : Int32))), .val (.ref b102), .unset, .unset, .unset, .unset] [(.ref b102), (.ref b108), (.ref b108)])) _
        refine st114.trans ?_
        show Steps p.tables e below (T114.setTop (mkF m 47 #[.val (.long P0), .second, .val (.int P1), .val (.int P2), .val (.int (if ¬ ((P1 &&& (1 : Int32)) = (0 : Int32)) then (1 : Int32) else (0 : Int32))), .val (.ref b102), .unset, .unset, .unset, .unset] [(.ref b108)])) _
        refine XS.astore X114.here hx rfl (hb hby at_47) rfl rfl (l' := #[.val (.long P0), .second, .val (.int P1), .val (.int P2), .val (.int (if ¬ ((P1 &&& (1 : Int32)) = (0 : Int32)) then (1 : Int32) else (0 : Int32))), .val (.ref b102), .val (.ref b108), .unset, .unset, .unset]) rfl ?_
        show Steps p.tables e below (T114.setTop (mkF m 49 #[.val (.long P0), .second, .val (.int P1), .val (.int P2), .val (.int (if ¬ ((P1 &&& (1 : Int32)) = (0 : Int32)) then (1 : Int32) else (0 : Int32))), .val (.ref b102), .val (.ref b108), .unset, .unset, .unset] [])) _
        refine st116 _ ?_
        show Steps p.tables e below (T116.setTop (mkF m 52 #[.val (.long P0), .second, .val (.int P1), .val (.int P2), .val (.int (if ¬ ((P1 &&& (1 : Int32)) = (0 : Int32)) then (1 : Int32) else (0 : Int32))), .val (.ref b102), .val (.ref b108), .unset, .unset, .unset] [(.ref b116)])) _
        refine XS.dup X116.here hx rfl (hb hby at_52) rfl rfl ?_
        show Steps p.tables e below (T116.setTop (mkF m 53 #[.val (.long P0), .second, .val (.int P1), .val (.int P2), .val (.int (if ¬ ((P1 &&& (1 : Int32)) = (0 : Int32)) then (1 : Int32) else (0 : Int32))), .val (.ref b102), .val (.ref b108), .unset, .unset, .unset] [(.ref b116), (.ref b116)])) _
        refine XS.lloadN X116.here hx rfl (hb hby at_53) rfl ?_
        show Steps p.tables e below (T116.setTop (mkF m 54 #[.val (.long P0), .second, .val (.int P1), .val (.int P2), .val (.int (if ¬ ((P1 &&& (1 : Int32)) = (0 : Int32)) then (1 : Int32) else (0 : Int32))), .val (.ref b102), .val (.ref b108), .unset, .unset, .unset] [(.long P0), (.ref b116), (.ref b116)])) _
        refine XS.iload X116.here hx rfl (hb hby at_54) rfl ?_
        show Steps p.tables e below (T116.setTop (mkF m 56 #[.val (.long P0), .second, .val (.int P1), .val (.int P2), .val (.int (if ¬ ((P1 &&& (1 : Int32)) = (0 : Int32)) then (1 : Int32) else (0 : Int32))), .val (.ref b102), .val (.ref b108), .unset, .unset, .unset] [(.int (if ¬ ((P1 &&& (1 : Int32)) = (0 : Int32)) then (1 : Int32) else (0 : Int32))), (.long P0), (.ref b116), (.ref b116)])) _
        refine XS.aload X116.here hx rfl (hb hby at_56) rfl rfl ?_
        show Steps p.tables e below (T116.setTop (mkF m 58 #[.val (.long P0), .second, .val (.int P1), .val (.int P2), .val (.int (if ¬ ((P1 &&& (1 : Int32)) = (0 : Int32)) then (1 : Int32) else (0 : Int32))), .val (.ref b102), .val (.ref b108), .unset, .unset, .unset] [(.ref b108), (.int (if ¬ ((P1 &&& (1 : Int32)) = (0 : Int32)) then (1 : Int32) else (0 : Int32))), (.long P0), (.ref b116), (.ref b116)])) _
        refine st122.trans ?_
        show Steps p.tables e below (T122.setTop (mkF m 61 #[.val (.long P0), .second, .val (.int P1), .val (.int P2), .val (.int (if ¬ ((P1 &&& (1 : Int32)) = (0 : Int32)) then (1 : Int32) else (0 : Int32))), .val (.ref b102), .val (.ref b108), .unset, .unset, .unset] [(.ref b116)])) _
        refine XS.astore X122.here hx rfl (hb hby at_61) rfl rfl (l' := #[.val (.long P0), .second, .val (.int P1), .val (.int P2), .val (.int (if ¬ ((P1 &&& (1 : Int32)) = (0 : Int32)) then (1 : Int32) else (0 : Int32))), .val (.ref b102), .val (.ref b108), .val (.ref b116), .unset, .unset]) rfl ?_
        show Steps p.tables e below (T122.setTop (mkF m 63 #[.val (.long P0), .second, .val (.int P1), .val (.int P2), .val (.int (if ¬ ((P1 &&& (1 : Int32)) = (0 : Int32)) then (1 : Int32) else (0 : Int32))), .val (.ref b102), .val (.ref b108), .val (.ref b116), .unset, .unset] [])) _
        refine XS.lloadN X122.here hx rfl (hb hby at_63) rfl ?_
        show Steps p.tables e below (T122.setTop (mkF m 64 #[.val (.long P0), .second, .val (.int P1), .val (.int P2), .val (.int (if ¬ ((P1 &&& (1 : Int32)) = (0 : Int32)) then (1 : Int32) else (0 : Int32))), .val (.ref b102), .val (.ref b108), .val (.ref b116), .unset, .unset] [(.long P0)])) _
        refine XS.lconst X122.here hx rfl (hb hby at_64) ?_
        show Steps p.tables e below (T122.setTop (mkF m 65 #[.val (.long P0), .second, .val (.int P1), .val (.int P2), .val (.int (if ¬ ((P1 &&& (1 : Int32)) = (0 : Int32)) then (1 : Int32) else (0 : Int32))), .val (.ref b102), .val (.ref b108), .val (.ref b116), .unset, .unset] [(.long (0 : Int64)), (.long P0)])) _
        refine XS.lcmp X122.here hx rfl (hb hby at_65) rfl ?_
        show Steps p.tables e below (T122.setTop (mkF m 66 #[.val (.long P0), .second, .val (.int P1), .val (.int P2), .val (.int (if ¬ ((P1 &&& (1 : Int32)) = (0 : Int32)) then (1 : Int32) else (0 : Int32))), .val (.ref b102), .val (.ref b108), .val (.ref b116), .unset, .unset] [(.int (lcmpW P0 (0 : Int64)))])) _
        by_cases hm66 : P0 = (0 : Int64)
        · refine XS.ifNo X122.here hx rfl (hb hby at_66) rfl ((if0 _ _).trans (teq ((lw_eq P0 (0 : Int64)).mpr hm66)).2) ?_
          show Steps p.tables e below (T122.setTop (mkF m 69 #[.val (.long P0), .second, .val (.int P1), .val (.int P2), .val (.int (if ¬ ((P1 &&& (1 : Int32)) = (0 : Int32)) then (1 : Int32) else (0 : Int32))), .val (.ref b102), .val (.ref b108), .val (.ref b116), .unset, .unset] [])) _
          refine XS.iconst X122.here hx rfl (hb hby at_69) ?_
          show Steps p.tables e below (T122.setTop (mkF m 70 #[.val (.long P0), .second, .val (.int P1), .val (.int P2), .val (.int (if ¬ ((P1 &&& (1 : Int32)) = (0 : Int32)) then (1 : Int32) else (0 : Int32))), .val (.ref b102), .val (.ref b108), .val (.ref b116), .unset, .unset] [(.int (0 : Int32))])) _
          refine XS.istore X122.here hx rfl (hb hby at_70) rfl (l' := #[.val (.long P0), .second, .val (.int P1), .val (.int P2), .val (.int (if ¬ ((P1 &&& (1 : Int32)) = (0 : Int32)) then (1 : Int32) else (0 : Int32))), .val (.ref b102), .val (.ref b108), .val (.ref b116), .val (.int (0 : Int32)), .unset]) rfl ?_
          show Steps p.tables e below (T122.setTop (mkF m 72 #[.val (.long P0), .second, .val (.int P1), .val (.int P2), .val (.int (if ¬ ((P1 &&& (1 : Int32)) = (0 : Int32)) then (1 : Int32) else (0 : Int32))), .val (.ref b102), .val (.ref b108), .val (.ref b116), .val (.int (0 : Int32)), .unset] [])) _
          refine XS.goto X122.here hx rfl (pc0 := 72) (pc' := 90) rfl (hb hby at_72) (by decide) (by decide) ?_
          rw [show (if ¬ (P0 = (0 : Int64)) ∧ (¬ (P0 < (0 : Int64))) then (1 : Int32) else (0 : Int32)) = (0 : Int32) from by simp [hm66]] at kt
          exact kt
        · refine XS.ifYes X122.here hx rfl (pc0 := 66) (pc' := 75) rfl (hb hby at_66) rfl ((if0 _ _).trans (feq (fun q => hm66 ((lw_eq P0 (0 : Int64)).mp q))).2) (by decide) (by decide) ?_
          show Steps p.tables e below (T122.setTop (mkF m 75 #[.val (.long P0), .second, .val (.int P1), .val (.int P2), .val (.int (if ¬ ((P1 &&& (1 : Int32)) = (0 : Int32)) then (1 : Int32) else (0 : Int32))), .val (.ref b102), .val (.ref b108), .val (.ref b116), .unset, .unset] [])) _
          refine XS.lloadN X122.here hx rfl (hb hby at_75) rfl ?_
          show Steps p.tables e below (T122.setTop (mkF m 76 #[.val (.long P0), .second, .val (.int P1), .val (.int P2), .val (.int (if ¬ ((P1 &&& (1 : Int32)) = (0 : Int32)) then (1 : Int32) else (0 : Int32))), .val (.ref b102), .val (.ref b108), .val (.ref b116), .unset, .unset] [(.long P0)])) _
          refine XS.lconst X122.here hx rfl (hb hby at_76) ?_
          show Steps p.tables e below (T122.setTop (mkF m 77 #[.val (.long P0), .second, .val (.int P1), .val (.int P2), .val (.int (if ¬ ((P1 &&& (1 : Int32)) = (0 : Int32)) then (1 : Int32) else (0 : Int32))), .val (.ref b102), .val (.ref b108), .val (.ref b116), .unset, .unset] [(.long (0 : Int64)), (.long P0)])) _
          refine XS.lcmp X122.here hx rfl (hb hby at_77) rfl ?_
          show Steps p.tables e below (T122.setTop (mkF m 78 #[.val (.long P0), .second, .val (.int P1), .val (.int P2), .val (.int (if ¬ ((P1 &&& (1 : Int32)) = (0 : Int32)) then (1 : Int32) else (0 : Int32))), .val (.ref b102), .val (.ref b108), .val (.ref b116), .unset, .unset] [(.int (lcmpW P0 (0 : Int64)))])) _
          by_cases hm78 : P0 < (0 : Int64)
          · refine XS.ifNo X122.here hx rfl (hb hby at_78) rfl ((if0 _ _).trans (tlt ((lw_lt P0 (0 : Int64)).mpr hm78)).2.1) ?_
            show Steps p.tables e below (T122.setTop (mkF m 81 #[.val (.long P0), .second, .val (.int P1), .val (.int P2), .val (.int (if ¬ ((P1 &&& (1 : Int32)) = (0 : Int32)) then (1 : Int32) else (0 : Int32))), .val (.ref b102), .val (.ref b108), .val (.ref b116), .unset, .unset] [])) _
            refine XS.iconst X122.here hx rfl (hb hby at_81) ?_
            show Steps p.tables e below (T122.setTop (mkF m 82 #[.val (.long P0), .second, .val (.int P1), .val (.int P2), .val (.int (if ¬ ((P1 &&& (1 : Int32)) = (0 : Int32)) then (1 : Int32) else (0 : Int32))), .val (.ref b102), .val (.ref b108), .val (.ref b116), .unset, .unset] [(.int (0 : Int32))])) _
            refine XS.istore X122.here hx rfl (hb hby at_82) rfl (l' := #[.val (.long P0), .second, .val (.int P1), .val (.int P2), .val (.int (if ¬ ((P1 &&& (1 : Int32)) = (0 : Int32)) then (1 : Int32) else (0 : Int32))), .val (.ref b102), .val (.ref b108), .val (.ref b116), .val (.int (0 : Int32)), .unset]) rfl ?_
            show Steps p.tables e below (T122.setTop (mkF m 84 #[.val (.long P0), .second, .val (.int P1), .val (.int P2), .val (.int (if ¬ ((P1 &&& (1 : Int32)) = (0 : Int32)) then (1 : Int32) else (0 : Int32))), .val (.ref b102), .val (.ref b108), .val (.ref b116), .val (.int (0 : Int32)), .unset] [])) _
            refine XS.goto X122.here hx rfl (pc0 := 84) (pc' := 90) rfl (hb hby at_84) (by decide) (by decide) ?_
            rw [show (if ¬ (P0 = (0 : Int64)) ∧ (¬ (P0 < (0 : Int64))) then (1 : Int32) else (0 : Int32)) = (0 : Int32) from by simp [hm66, hm78]] at kt
            exact kt
          · refine XS.ifYes X122.here hx rfl (pc0 := 78) (pc' := 87) rfl (hb hby at_78) rfl ((if0 _ _).trans (flt (fun q => hm78 ((lw_lt P0 (0 : Int64)).mp q))).2.1) (by decide) (by decide) ?_
            show Steps p.tables e below (T122.setTop (mkF m 87 #[.val (.long P0), .second, .val (.int P1), .val (.int P2), .val (.int (if ¬ ((P1 &&& (1 : Int32)) = (0 : Int32)) then (1 : Int32) else (0 : Int32))), .val (.ref b102), .val (.ref b108), .val (.ref b116), .unset, .unset] [])) _
            refine XS.iconst X122.here hx rfl (hb hby at_87) ?_
            show Steps p.tables e below (T122.setTop (mkF m 88 #[.val (.long P0), .second, .val (.int P1), .val (.int P2), .val (.int (if ¬ ((P1 &&& (1 : Int32)) = (0 : Int32)) then (1 : Int32) else (0 : Int32))), .val (.ref b102), .val (.ref b108), .val (.ref b116), .unset, .unset] [(.int (1 : Int32))])) _
            refine XS.istore X122.here hx rfl (hb hby at_88) rfl (l' := #[.val (.long P0), .second, .val (.int P1), .val (.int P2), .val (.int (if ¬ ((P1 &&& (1 : Int32)) = (0 : Int32)) then (1 : Int32) else (0 : Int32))), .val (.ref b102), .val (.ref b108), .val (.ref b116), .val (.int (1 : Int32)), .unset]) rfl ?_
            rw [show (if ¬ (P0 = (0 : Int64)) ∧ (¬ (P0 < (0 : Int64))) then (1 : Int32) else (0 : Int32)) = (1 : Int32) from by simp [hm66, hm78]] at kt
            exact kt)
    obtain ⟨cq125, kq125, q125a, q125b, q125c⟩ := isOf hZ rfl p122_0
    obtain ⟨_, _, ⟨T125, L125, k125, n125⟩, -, X125, ⟨Lc125, hQ125, l125, y125, z125⟩, st125⟩ := X122.virtualBack hx (y := (⟨"com/example/holdfast/holdfast/Offer", "token", "()J"⟩ : MethodName)) (z := (⟨"com/example/holdfast/holdfast/Offer", "token", "()J"⟩ : MethodName)) hown (mvT hZ (hw _ (List.mem_of_getElem? (i := 16) rfl))) (mvT hZ (hw _ (List.mem_of_getElem? (i := 17) rfl))) (notFace_of_selects (args := #[]) (mvT hZ (hw _ (List.mem_of_getElem? (i := 19) rfl)))) (mvT hZ (hw _ (List.mem_of_getElem? (i := 19) rfl))) (mvT hZ (hw _ (List.mem_of_getElem? (i := 18) rfl))) (by decide) (backOf (W := 0) (rm3 l Z a0 hw [] b116 P0 T122.heap n0 Z123 p122_1) hZ (hw _ (List.mem_of_getElem? (i := 20) rfl)) (hw _ (List.mem_of_getElem? (i := 3) rfl)) (by decide) (by decide)) q125a q125c (g := (mkF m 92 #[.val (.long P0), .second, .val (.int P1), .val (.int P2), .val (.int (if ¬ ((P1 &&& (1 : Int32)) = (0 : Int32)) then (1 : Int32) else (0 : Int32))), .val (.ref b102), .val (.ref b108), .val (.ref b116), .val (.int (if ¬ (P0 = (0 : Int64)) ∧ (¬ (P0 < (0 : Int64))) then (1 : Int32) else (0 : Int32))), .unset] [(.ref b116)])) rfl (by rw [hml]; rfl) (Steps.refl _) (argsL := []) (rest := []) (lenOf pd_0_2 rfl) rfl (by show 2 * 0 + _ ≤ _; exact Nat.le_of_eq rfl) (hb hby at_92) (fun _ _ => ⟨rfl, rfl, (by decide : 4 + 0 ≤ _), (by decide : 9 + 0 ≤ _)⟩)
    dsimp only [Pt.U, Pt.locs, Pt.cells, Pt.slots] at X125 l125 y125 z125 st125 hQ125
    subst l125 y125 z125
    obtain ⟨rfl, N125q, K125⟩ := hQ125
    have N125 := Fr.app N122 N125q
    obtain ⟨cq126, kq126, q126a, q126b, q126c⟩ := isOf hZ K125 p122_0
    obtain ⟨_, _, ⟨T126, L126, k126, n126⟩, -, X126, ⟨Lc126, hQ126, l126, y126, z126⟩, st126⟩ := X125.virtualBack hx (y := (⟨"com/example/holdfast/holdfast/Offer", "granted", "()Z"⟩ : MethodName)) (z := (⟨"com/example/holdfast/holdfast/Offer", "granted", "()Z"⟩ : MethodName)) hown (mvT hZ (hw _ (List.mem_of_getElem? (i := 21) rfl))) (mvT hZ (hw _ (List.mem_of_getElem? (i := 22) rfl))) (notFace_of_selects (args := #[]) (mvT hZ (hw _ (List.mem_of_getElem? (i := 24) rfl)))) (mvT hZ (hw _ (List.mem_of_getElem? (i := 24) rfl))) (mvT hZ (hw _ (List.mem_of_getElem? (i := 23) rfl))) (by decide) (backOf (W := 0) (rm4 l Z a0 hw [] b116 P0 T122.heap n0 Z123 p122_1) hZ (hw _ (List.mem_of_getElem? (i := 25) rfl)) (hw _ (List.mem_of_getElem? (i := 3) rfl)) (by decide) (by decide)) q126a q126c (g := (mkF m 104 #[.val (.long P0), .second, .val (.int P1), .val (.int P2), .val (.int (if ¬ ((P1 &&& (1 : Int32)) = (0 : Int32)) then (1 : Int32) else (0 : Int32))), .val (.ref b102), .val (.ref b108), .val (.ref b116), .val (.int (if ¬ (P0 = (0 : Int64)) ∧ (¬ (P0 < (0 : Int64))) then (1 : Int32) else (0 : Int32))), .unset] [(.ref b116)])) rfl (by rw [hml]; rfl) (Steps.refl _) (argsL := []) (rest := []) (lenOf pd_0_3 rfl) rfl (by show 2 * 0 + _ ≤ _; exact Nat.le_of_eq rfl) (hb hby at_104) (fun _ _ => ⟨rfl, K125, (by decide : 4 + 0 ≤ _), (by decide : 9 + 0 ≤ _)⟩)
    dsimp only [Pt.U, Pt.locs, Pt.cells, Pt.slots] at X126 l126 y126 z126 st126 hQ126
    subst l126 y126 z126
    obtain ⟨rfl, N126q, K126⟩ := hQ126
    have N126 := Fr.app N125 N126q
    obtain ⟨cq127, kq127, q127a, q127b, q127c⟩ := isOf hZ K126 p122_0
    obtain ⟨_, _, ⟨T127, L127, k127, n127⟩, -, X127, ⟨Lc127, hQ127, l127, y127, z127⟩, st127⟩ := X126.virtualBack hx (y := (⟨"com/example/holdfast/holdfast/Offer", "granted", "()Z"⟩ : MethodName)) (z := (⟨"com/example/holdfast/holdfast/Offer", "granted", "()Z"⟩ : MethodName)) hown (mvT hZ (hw _ (List.mem_of_getElem? (i := 21) rfl))) (mvT hZ (hw _ (List.mem_of_getElem? (i := 22) rfl))) (notFace_of_selects (args := #[]) (mvT hZ (hw _ (List.mem_of_getElem? (i := 24) rfl)))) (mvT hZ (hw _ (List.mem_of_getElem? (i := 24) rfl))) (mvT hZ (hw _ (List.mem_of_getElem? (i := 23) rfl))) (by decide) (backOf (W := 0) (rm4 l Z a0 hw [] b116 P0 T122.heap n0 Z123 p122_1) hZ (hw _ (List.mem_of_getElem? (i := 25) rfl)) (hw _ (List.mem_of_getElem? (i := 3) rfl)) (by decide) (by decide)) q127a q127c (g := (mkF m 116 #[.val (.long P0), .second, .val (.int P1), .val (.int P2), .val (.int (if ¬ ((P1 &&& (1 : Int32)) = (0 : Int32)) then (1 : Int32) else (0 : Int32))), .val (.ref b102), .val (.ref b108), .val (.ref b116), .val (.int (if ¬ (P0 = (0 : Int64)) ∧ (¬ (P0 < (0 : Int64))) then (1 : Int32) else (0 : Int32))), .unset] [(.ref b116)])) rfl (by rw [hml]; rfl) (Steps.refl _) (argsL := []) (rest := []) (lenOf pd_0_3 rfl) rfl (by show 2 * 0 + _ ≤ _; exact Nat.le_of_eq rfl) (hb hby at_116) (fun _ _ => ⟨rfl, K126, (by decide : 4 + 0 ≤ _), (by decide : 9 + 0 ≤ _)⟩)
    dsimp only [Pt.U, Pt.locs, Pt.cells, Pt.slots] at X127 l127 y127 z127 st127 hQ127
    subst l127 y127 z127
    obtain ⟨rfl, N127q, K127⟩ := hQ127
    have N127 := Fr.app N126 N127q
    obtain ⟨cq128, kq128, q128a, q128b, q128c⟩ := isOf hZ K127 p122_0
    obtain ⟨_, _, ⟨T128, L128, k128, n128⟩, -, X128, ⟨Lc128, hQ128, l128, y128, z128⟩, st128⟩ := X127.virtualBack hx (y := (⟨"com/example/holdfast/holdfast/Offer", "token", "()J"⟩ : MethodName)) (z := (⟨"com/example/holdfast/holdfast/Offer", "token", "()J"⟩ : MethodName)) hown (mvT hZ (hw _ (List.mem_of_getElem? (i := 16) rfl))) (mvT hZ (hw _ (List.mem_of_getElem? (i := 17) rfl))) (notFace_of_selects (args := #[]) (mvT hZ (hw _ (List.mem_of_getElem? (i := 19) rfl)))) (mvT hZ (hw _ (List.mem_of_getElem? (i := 19) rfl))) (mvT hZ (hw _ (List.mem_of_getElem? (i := 18) rfl))) (by decide) (backOf (W := 1) (rm3 l Z a0 hw [] b116 P0 T122.heap n0 Z123 p122_1) hZ (hw _ (List.mem_of_getElem? (i := 20) rfl)) (hw _ (List.mem_of_getElem? (i := 3) rfl)) (by decide) (by decide)) q128a q128c (g := (mkF m 121 #[.val (.long P0), .second, .val (.int P1), .val (.int P2), .val (.int (if ¬ ((P1 &&& (1 : Int32)) = (0 : Int32)) then (1 : Int32) else (0 : Int32))), .val (.ref b102), .val (.ref b108), .val (.ref b116), .val (.int (if ¬ (P0 = (0 : Int64)) ∧ (¬ (P0 < (0 : Int64))) then (1 : Int32) else (0 : Int32))), .unset] [(.ref b116), (.int (if (0 : Int64) < P0 then (1 : Int32) else (0 : Int32)))])) rfl (by rw [hml]; rfl) (Steps.refl _) (argsL := []) (rest := [(.int (if (0 : Int64) < P0 then (1 : Int32) else (0 : Int32)))]) (lenOf pd_0_2 rfl) rfl (by show 2 * 0 + _ ≤ _; exact Nat.le_of_eq rfl) (hb hby at_121) (fun _ _ => ⟨rfl, K127, (by decide : 4 + 0 ≤ _), (by decide : 9 + 0 ≤ _)⟩)
    dsimp only [Pt.U, Pt.locs, Pt.cells, Pt.slots] at X128 l128 y128 z128 st128 hQ128
    subst l128 y128 z128
    obtain ⟨rfl, N128q, K128⟩ := hQ128
    have N128 := Fr.app N127 N128q
    have pre129 : ∀ t, Steps p.tables e below (T128.setTop (mkF m 134 #[.val (.long P0), .second, .val (.int P1), .val (.int P2), .val (.int (if ¬ ((P1 &&& (1 : Int32)) = (0 : Int32)) then (1 : Int32) else (0 : Int32))), .val (.ref b102), .val (.ref b108), .val (.ref b116), .val (.int (if ¬ (P0 = (0 : Int64)) ∧ (¬ (P0 < (0 : Int64))) then (1 : Int32) else (0 : Int32))), .unset] [(.int (if ¬ (P0 < (1 : Int64)) then (1 : Int32) else (0 : Int32))), (.int (if (0 : Int64) < P0 then (1 : Int32) else (0 : Int32)))])) t → Steps p.tables e below (s₁.setTop (entryFrame m #[(.long P0), (.int P1), (.int P2)] maxLocals)) t := fun t kt => pre124 t (by
        show Steps p.tables e below (T122.setTop (mkF m 90 #[.val (.long P0), .second, .val (.int P1), .val (.int P2), .val (.int (if ¬ ((P1 &&& (1 : Int32)) = (0 : Int32)) then (1 : Int32) else (0 : Int32))), .val (.ref b102), .val (.ref b108), .val (.ref b116), .val (.int (if ¬ (P0 = (0 : Int64)) ∧ (¬ (P0 < (0 : Int64))) then (1 : Int32) else (0 : Int32))), .unset] [])) _
        refine XS.aload X122.here hx rfl (hb hby at_90) rfl rfl ?_
        show Steps p.tables e below (T122.setTop (mkF m 92 #[.val (.long P0), .second, .val (.int P1), .val (.int P2), .val (.int (if ¬ ((P1 &&& (1 : Int32)) = (0 : Int32)) then (1 : Int32) else (0 : Int32))), .val (.ref b102), .val (.ref b108), .val (.ref b116), .val (.int (if ¬ (P0 = (0 : Int64)) ∧ (¬ (P0 < (0 : Int64))) then (1 : Int32) else (0 : Int32))), .unset] [(.ref b116)])) _
        refine st125.trans ?_
        show Steps p.tables e below (T125.setTop (mkF m 95 #[.val (.long P0), .second, .val (.int P1), .val (.int P2), .val (.int (if ¬ ((P1 &&& (1 : Int32)) = (0 : Int32)) then (1 : Int32) else (0 : Int32))), .val (.ref b102), .val (.ref b108), .val (.ref b116), .val (.int (if ¬ (P0 = (0 : Int64)) ∧ (¬ (P0 < (0 : Int64))) then (1 : Int32) else (0 : Int32))), .unset] [(.long P0)])) _
        refine XS.lloadN X125.here hx rfl (hb hby at_95) rfl ?_
        show Steps p.tables e below (T125.setTop (mkF m 96 #[.val (.long P0), .second, .val (.int P1), .val (.int P2), .val (.int (if ¬ ((P1 &&& (1 : Int32)) = (0 : Int32)) then (1 : Int32) else (0 : Int32))), .val (.ref b102), .val (.ref b108), .val (.ref b116), .val (.int (if ¬ (P0 = (0 : Int64)) ∧ (¬ (P0 < (0 : Int64))) then (1 : Int32) else (0 : Int32))), .unset] [(.long P0), (.long P0)])) _
        refine XS.lcmp X125.here hx rfl (hb hby at_96) rfl ?_
        show Steps p.tables e below (T125.setTop (mkF m 97 #[.val (.long P0), .second, .val (.int P1), .val (.int P2), .val (.int (if ¬ ((P1 &&& (1 : Int32)) = (0 : Int32)) then (1 : Int32) else (0 : Int32))), .val (.ref b102), .val (.ref b108), .val (.ref b116), .val (.int (if ¬ (P0 = (0 : Int64)) ∧ (¬ (P0 < (0 : Int64))) then (1 : Int32) else (0 : Int32))), .unset] [(.int (lcmpW P0 P0))])) _
        refine XS.ifYes X125.here hx rfl (pc0 := 97) (pc' := 102) rfl (hb hby at_97) rfl ((if0 _ _).trans (teq ((lw_eq P0 P0).mpr (show P0 = P0 from rfl))).1) (by decide) (by decide) ?_
        show Steps p.tables e below (T125.setTop (mkF m 102 #[.val (.long P0), .second, .val (.int P1), .val (.int P2), .val (.int (if ¬ ((P1 &&& (1 : Int32)) = (0 : Int32)) then (1 : Int32) else (0 : Int32))), .val (.ref b102), .val (.ref b108), .val (.ref b116), .val (.int (if ¬ (P0 = (0 : Int64)) ∧ (¬ (P0 < (0 : Int64))) then (1 : Int32) else (0 : Int32))), .unset] [])) _
        refine XS.aload X125.here hx rfl (hb hby at_102) rfl rfl ?_
        show Steps p.tables e below (T125.setTop (mkF m 104 #[.val (.long P0), .second, .val (.int P1), .val (.int P2), .val (.int (if ¬ ((P1 &&& (1 : Int32)) = (0 : Int32)) then (1 : Int32) else (0 : Int32))), .val (.ref b102), .val (.ref b108), .val (.ref b116), .val (.int (if ¬ (P0 = (0 : Int64)) ∧ (¬ (P0 < (0 : Int64))) then (1 : Int32) else (0 : Int32))), .unset] [(.ref b116)])) _
        refine st126.trans ?_
        show Steps p.tables e below (T126.setTop (mkF m 107 #[.val (.long P0), .second, .val (.int P1), .val (.int P2), .val (.int (if ¬ ((P1 &&& (1 : Int32)) = (0 : Int32)) then (1 : Int32) else (0 : Int32))), .val (.ref b102), .val (.ref b108), .val (.ref b116), .val (.int (if ¬ (P0 = (0 : Int64)) ∧ (¬ (P0 < (0 : Int64))) then (1 : Int32) else (0 : Int32))), .unset] [(.int (if (0 : Int64) < P0 then (1 : Int32) else (0 : Int32)))])) _
        refine XS.iload X126.here hx rfl (hb hby at_107) rfl ?_
        show Steps p.tables e below (T126.setTop (mkF m 109 #[.val (.long P0), .second, .val (.int P1), .val (.int P2), .val (.int (if ¬ ((P1 &&& (1 : Int32)) = (0 : Int32)) then (1 : Int32) else (0 : Int32))), .val (.ref b102), .val (.ref b108), .val (.ref b116), .val (.int (if ¬ (P0 = (0 : Int64)) ∧ (¬ (P0 < (0 : Int64))) then (1 : Int32) else (0 : Int32))), .unset] [(.int (if ¬ (P0 = (0 : Int64)) ∧ (¬ (P0 < (0 : Int64))) then (1 : Int32) else (0 : Int32))), (.int (if (0 : Int64) < P0 then (1 : Int32) else (0 : Int32)))])) _
        refine XS.icmpYes X126.here hx rfl (pc0 := 109) (pc' := 114) rfl (hb hby at_109) rfl (teq (show (if (0 : Int64) < P0 then (1 : Int32) else (0 : Int32)) = (if ¬ (P0 = (0 : Int64)) ∧ (¬ (P0 < (0 : Int64))) then (1 : Int32) else (0 : Int32)) from (own_g1 _))).1 (by decide) (by decide) ?_
        show Steps p.tables e below (T126.setTop (mkF m 114 #[.val (.long P0), .second, .val (.int P1), .val (.int P2), .val (.int (if ¬ ((P1 &&& (1 : Int32)) = (0 : Int32)) then (1 : Int32) else (0 : Int32))), .val (.ref b102), .val (.ref b108), .val (.ref b116), .val (.int (if ¬ (P0 = (0 : Int64)) ∧ (¬ (P0 < (0 : Int64))) then (1 : Int32) else (0 : Int32))), .unset] [])) _
        refine XS.aload X126.here hx rfl (hb hby at_114) rfl rfl ?_
        show Steps p.tables e below (T126.setTop (mkF m 116 #[.val (.long P0), .second, .val (.int P1), .val (.int P2), .val (.int (if ¬ ((P1 &&& (1 : Int32)) = (0 : Int32)) then (1 : Int32) else (0 : Int32))), .val (.ref b102), .val (.ref b108), .val (.ref b116), .val (.int (if ¬ (P0 = (0 : Int64)) ∧ (¬ (P0 < (0 : Int64))) then (1 : Int32) else (0 : Int32))), .unset] [(.ref b116)])) _
        refine st127.trans ?_
        show Steps p.tables e below (T127.setTop (mkF m 119 #[.val (.long P0), .second, .val (.int P1), .val (.int P2), .val (.int (if ¬ ((P1 &&& (1 : Int32)) = (0 : Int32)) then (1 : Int32) else (0 : Int32))), .val (.ref b102), .val (.ref b108), .val (.ref b116), .val (.int (if ¬ (P0 = (0 : Int64)) ∧ (¬ (P0 < (0 : Int64))) then (1 : Int32) else (0 : Int32))), .unset] [(.int (if (0 : Int64) < P0 then (1 : Int32) else (0 : Int32)))])) _
        refine XS.aload X127.here hx rfl (hb hby at_119) rfl rfl ?_
        show Steps p.tables e below (T127.setTop (mkF m 121 #[.val (.long P0), .second, .val (.int P1), .val (.int P2), .val (.int (if ¬ ((P1 &&& (1 : Int32)) = (0 : Int32)) then (1 : Int32) else (0 : Int32))), .val (.ref b102), .val (.ref b108), .val (.ref b116), .val (.int (if ¬ (P0 = (0 : Int64)) ∧ (¬ (P0 < (0 : Int64))) then (1 : Int32) else (0 : Int32))), .unset] [(.ref b116), (.int (if (0 : Int64) < P0 then (1 : Int32) else (0 : Int32)))])) _
        refine st128.trans ?_
        show Steps p.tables e below (T128.setTop (mkF m 124 #[.val (.long P0), .second, .val (.int P1), .val (.int P2), .val (.int (if ¬ ((P1 &&& (1 : Int32)) = (0 : Int32)) then (1 : Int32) else (0 : Int32))), .val (.ref b102), .val (.ref b108), .val (.ref b116), .val (.int (if ¬ (P0 = (0 : Int64)) ∧ (¬ (P0 < (0 : Int64))) then (1 : Int32) else (0 : Int32))), .unset] [(.long P0), (.int (if (0 : Int64) < P0 then (1 : Int32) else (0 : Int32)))])) _
        refine XS.lconst X128.here hx rfl (hb hby at_124) ?_
        show Steps p.tables e below (T128.setTop (mkF m 125 #[.val (.long P0), .second, .val (.int P1), .val (.int P2), .val (.int (if ¬ ((P1 &&& (1 : Int32)) = (0 : Int32)) then (1 : Int32) else (0 : Int32))), .val (.ref b102), .val (.ref b108), .val (.ref b116), .val (.int (if ¬ (P0 = (0 : Int64)) ∧ (¬ (P0 < (0 : Int64))) then (1 : Int32) else (0 : Int32))), .unset] [(.long (1 : Int64)), (.long P0), (.int (if (0 : Int64) < P0 then (1 : Int32) else (0 : Int32)))])) _
        refine XS.lcmp X128.here hx rfl (hb hby at_125) rfl ?_
        show Steps p.tables e below (T128.setTop (mkF m 126 #[.val (.long P0), .second, .val (.int P1), .val (.int P2), .val (.int (if ¬ ((P1 &&& (1 : Int32)) = (0 : Int32)) then (1 : Int32) else (0 : Int32))), .val (.ref b102), .val (.ref b108), .val (.ref b116), .val (.int (if ¬ (P0 = (0 : Int64)) ∧ (¬ (P0 < (0 : Int64))) then (1 : Int32) else (0 : Int32))), .unset] [(.int (lcmpW P0 (1 : Int64))), (.int (if (0 : Int64) < P0 then (1 : Int32) else (0 : Int32)))])) _
        by_cases hm126 : P0 < (1 : Int64)
        · refine XS.ifYes X128.here hx rfl (pc0 := 126) (pc' := 133) rfl (hb hby at_126) rfl ((if0 _ _).trans (tlt ((lw_lt P0 (1 : Int64)).mpr hm126)).1) (by decide) (by decide) ?_
          show Steps p.tables e below (T128.setTop (mkF m 133 #[.val (.long P0), .second, .val (.int P1), .val (.int P2), .val (.int (if ¬ ((P1 &&& (1 : Int32)) = (0 : Int32)) then (1 : Int32) else (0 : Int32))), .val (.ref b102), .val (.ref b108), .val (.ref b116), .val (.int (if ¬ (P0 = (0 : Int64)) ∧ (¬ (P0 < (0 : Int64))) then (1 : Int32) else (0 : Int32))), .unset] [(.int (if (0 : Int64) < P0 then (1 : Int32) else (0 : Int32)))])) _
          refine XS.iconst X128.here hx rfl (hb hby at_133) ?_
          rw [show (if ¬ (P0 < (1 : Int64)) then (1 : Int32) else (0 : Int32)) = (0 : Int32) from by simp [hm126]] at kt
          exact kt
        · refine XS.ifNo X128.here hx rfl (hb hby at_126) rfl ((if0 _ _).trans (flt (fun q => hm126 ((lw_lt P0 (1 : Int64)).mp q))).1) ?_
          show Steps p.tables e below (T128.setTop (mkF m 129 #[.val (.long P0), .second, .val (.int P1), .val (.int P2), .val (.int (if ¬ ((P1 &&& (1 : Int32)) = (0 : Int32)) then (1 : Int32) else (0 : Int32))), .val (.ref b102), .val (.ref b108), .val (.ref b116), .val (.int (if ¬ (P0 = (0 : Int64)) ∧ (¬ (P0 < (0 : Int64))) then (1 : Int32) else (0 : Int32))), .unset] [(.int (if (0 : Int64) < P0 then (1 : Int32) else (0 : Int32)))])) _
          refine XS.iconst X128.here hx rfl (hb hby at_129) ?_
          show Steps p.tables e below (T128.setTop (mkF m 130 #[.val (.long P0), .second, .val (.int P1), .val (.int P2), .val (.int (if ¬ ((P1 &&& (1 : Int32)) = (0 : Int32)) then (1 : Int32) else (0 : Int32))), .val (.ref b102), .val (.ref b108), .val (.ref b116), .val (.int (if ¬ (P0 = (0 : Int64)) ∧ (¬ (P0 < (0 : Int64))) then (1 : Int32) else (0 : Int32))), .unset] [(.int (1 : Int32)), (.int (if (0 : Int64) < P0 then (1 : Int32) else (0 : Int32)))])) _
          refine XS.goto X128.here hx rfl (pc0 := 130) (pc' := 134) rfl (hb hby at_130) (by decide) (by decide) ?_
          rw [show (if ¬ (P0 < (1 : Int64)) then (1 : Int32) else (0 : Int32)) = (1 : Int32) from by simp [hm126]] at kt
          exact kt)
    obtain ⟨_, _, ⟨T130, L130, k130, n130⟩, -, X130, ⟨Lc130, hQ130, l130, y130, z130⟩, st130⟩ := Jvm.LawKit.callS X128 hx (y := (⟨"com/example/holdfast/holdfast/Offer", "alone", "(J)Lcom/example/holdfast/holdfast/Offer;"⟩ : MethodName)) hown (mvT hZ (hw _ (List.mem_of_getElem? (i := 26) rfl))) (mvT hZ (hw _ (List.mem_of_getElem? (i := 27) rfl))) (mvT hZ (hw _ (List.mem_of_getElem? (i := 3) rfl))) (mvT hZ (hw _ (List.mem_of_getElem? (i := 28) rfl))) (by decide) (backOf (W := 0) (rm5 l Z a0 hw [] P0 T122.heap n0 Z123 ) hZ (hw _ (List.mem_of_getElem? (i := 28) rfl)) (hw _ (List.mem_of_getElem? (i := 3) rfl)) (by decide) (by decide)) (g := (mkF m 140 #[.val (.long P0), .second, .val (.int P1), .val (.int P2), .val (.int (if ¬ ((P1 &&& (1 : Int32)) = (0 : Int32)) then (1 : Int32) else (0 : Int32))), .val (.ref b102), .val (.ref b108), .val (.ref b116), .val (.int (if ¬ (P0 = (0 : Int64)) ∧ (¬ (P0 < (0 : Int64))) then (1 : Int32) else (0 : Int32))), .unset] [(.long P0)])) rfl (by rw [hml]; rfl) (argsL := [(.long P0)]) (rest := []) (lenOf pd_0_4 rfl) rfl (by show 2 * 0 + _ ≤ _; exact Nat.le_of_eq rfl) (hb hby at_140) (fun _ _ => ⟨rfl, K128, (by decide : 4 + 1 ≤ _), (by decide : 9 + 3 ≤ _)⟩)
    dsimp only [Pt.U, Pt.locs, Pt.cells, Pt.slots] at X130 l130 y130 z130 st130 hQ130
    subst l130 y130 z130
    obtain ⟨x130_R0, rfl, N130q, K130, lb130_0, p130_0, p130_1⟩ := hQ130
    have N130 := Fr.app N128 N130q
    have c132 : Exa Z T122.heap b102 "[C" := ((c118.ext E116).keep K122)
    have ne131 : b102 ≠ x130_R0 := Nat.ne_of_lt (Nat.lt_of_lt_of_le c132.lt lb130_0)
    have c134 : Exa Z T122.heap b108 "java/lang/String" := ((p114_0.ext E116).keep K122)
    have ne133 : b108 ≠ x130_R0 := Nat.ne_of_lt (Nat.lt_of_lt_of_le c134.lt lb130_0)
    have ne135 : b116 ≠ x130_R0 := Nat.ne_of_lt (Nat.lt_of_lt_of_le p122_0.lt lb130_0)
    have g_x130_R0 : n0 ≤ x130_R0 := Nat.le_trans Z123 lb130_0
    have Z136 : n0 ≤ T130.heap.size := Nat.le_trans Z123 K130.1
    have ss130_0 : Sta Z T130.heap "java/lang/String" "COMPACT_STRINGS" "Z" (.int U0) := own_sta_keep ss122_0 K130 all0
    obtain ⟨cq137, kq137, q137a, q137b, q137c⟩ := isOf hZ rfl p130_0
    obtain ⟨_, _, ⟨T137, L137, k137, n137⟩, -, X137, ⟨Lc137, hQ137, l137, y137, z137⟩, st137⟩ := X130.virtualBack hx (y := (⟨"com/example/holdfast/holdfast/Offer", "granted", "()Z"⟩ : MethodName)) (z := (⟨"com/example/holdfast/holdfast/Offer", "granted", "()Z"⟩ : MethodName)) hown (mvT hZ (hw _ (List.mem_of_getElem? (i := 21) rfl))) (mvT hZ (hw _ (List.mem_of_getElem? (i := 22) rfl))) (notFace_of_selects (args := #[]) (mvT hZ (hw _ (List.mem_of_getElem? (i := 24) rfl)))) (mvT hZ (hw _ (List.mem_of_getElem? (i := 24) rfl))) (mvT hZ (hw _ (List.mem_of_getElem? (i := 23) rfl))) (by decide) (backOf (W := 0) (rm4 l Z a0 hw [] x130_R0 P0 T130.heap n0 Z136 p130_1) hZ (hw _ (List.mem_of_getElem? (i := 25) rfl)) (hw _ (List.mem_of_getElem? (i := 3) rfl)) (by decide) (by decide)) q137a q137c (g := (mkF m 147 #[.val (.long P0), .second, .val (.int P1), .val (.int P2), .val (.int (if ¬ ((P1 &&& (1 : Int32)) = (0 : Int32)) then (1 : Int32) else (0 : Int32))), .val (.ref b102), .val (.ref b108), .val (.ref b116), .val (.int (if ¬ (P0 = (0 : Int64)) ∧ (¬ (P0 < (0 : Int64))) then (1 : Int32) else (0 : Int32))), .val (.ref x130_R0)] [(.ref x130_R0)])) rfl (by rw [hml]; rfl) (Steps.refl _) (argsL := []) (rest := []) (lenOf pd_0_3 rfl) rfl (by show 2 * 0 + _ ≤ _; exact Nat.le_of_eq rfl) (hb hby at_147) (fun _ _ => ⟨rfl, rfl, (by decide : 5 + 0 ≤ _), (by decide : 12 + 0 ≤ _)⟩)
    dsimp only [Pt.U, Pt.locs, Pt.cells, Pt.slots] at X137 l137 y137 z137 st137 hQ137
    subst l137 y137 z137
    obtain ⟨rfl, N137q, K137⟩ := hQ137
    have N137 := Fr.app N130 N137q
    have pre138 : ∀ t, Steps p.tables e below (T137.setTop (mkF m 160 #[.val (.long P0), .second, .val (.int P1), .val (.int P2), .val (.int (if ¬ ((P1 &&& (1 : Int32)) = (0 : Int32)) then (1 : Int32) else (0 : Int32))), .val (.ref b102), .val (.ref b108), .val (.ref b116), .val (.int (if ¬ (P0 = (0 : Int64)) ∧ (¬ (P0 < (0 : Int64))) then (1 : Int32) else (0 : Int32))), .val (.ref x130_R0)] [(.int (1 : Int32))])) t → Steps p.tables e below (s₁.setTop (entryFrame m #[(.long P0), (.int P1), (.int P2)] maxLocals)) t := fun t kt => pre129 t (by
        show Steps p.tables e below (T128.setTop (mkF m 134 #[.val (.long P0), .second, .val (.int P1), .val (.int P2), .val (.int (if ¬ ((P1 &&& (1 : Int32)) = (0 : Int32)) then (1 : Int32) else (0 : Int32))), .val (.ref b102), .val (.ref b108), .val (.ref b116), .val (.int (if ¬ (P0 = (0 : Int64)) ∧ (¬ (P0 < (0 : Int64))) then (1 : Int32) else (0 : Int32))), .unset] [(.int (if ¬ (P0 < (1 : Int64)) then (1 : Int32) else (0 : Int32))), (.int (if (0 : Int64) < P0 then (1 : Int32) else (0 : Int32)))])) _
        refine XS.icmpYes X128.here hx rfl (pc0 := 134) (pc' := 139) rfl (hb hby at_134) rfl (teq (show (if (0 : Int64) < P0 then (1 : Int32) else (0 : Int32)) = (if ¬ (P0 < (1 : Int64)) then (1 : Int32) else (0 : Int32)) from (own_g2 _))).1 (by decide) (by decide) ?_
        show Steps p.tables e below (T128.setTop (mkF m 139 #[.val (.long P0), .second, .val (.int P1), .val (.int P2), .val (.int (if ¬ ((P1 &&& (1 : Int32)) = (0 : Int32)) then (1 : Int32) else (0 : Int32))), .val (.ref b102), .val (.ref b108), .val (.ref b116), .val (.int (if ¬ (P0 = (0 : Int64)) ∧ (¬ (P0 < (0 : Int64))) then (1 : Int32) else (0 : Int32))), .unset] [])) _
        refine XS.lloadN X128.here hx rfl (hb hby at_139) rfl ?_
        show Steps p.tables e below (T128.setTop (mkF m 140 #[.val (.long P0), .second, .val (.int P1), .val (.int P2), .val (.int (if ¬ ((P1 &&& (1 : Int32)) = (0 : Int32)) then (1 : Int32) else (0 : Int32))), .val (.ref b102), .val (.ref b108), .val (.ref b116), .val (.int (if ¬ (P0 = (0 : Int64)) ∧ (¬ (P0 < (0 : Int64))) then (1 : Int32) else (0 : Int32))), .unset] [(.long P0)])) _
        refine st130 _ ?_
        show Steps p.tables e below (T130.setTop (mkF m 143 #[.val (.long P0), .second, .val (.int P1), .val (.int P2), .val (.int (if ¬ ((P1 &&& (1 : Int32)) = (0 : Int32)) then (1 : Int32) else (0 : Int32))), .val (.ref b102), .val (.ref b108), .val (.ref b116), .val (.int (if ¬ (P0 = (0 : Int64)) ∧ (¬ (P0 < (0 : Int64))) then (1 : Int32) else (0 : Int32))), .unset] [(.ref x130_R0)])) _
        refine XS.astore X130.here hx rfl (hb hby at_143) rfl rfl (l' := #[.val (.long P0), .second, .val (.int P1), .val (.int P2), .val (.int (if ¬ ((P1 &&& (1 : Int32)) = (0 : Int32)) then (1 : Int32) else (0 : Int32))), .val (.ref b102), .val (.ref b108), .val (.ref b116), .val (.int (if ¬ (P0 = (0 : Int64)) ∧ (¬ (P0 < (0 : Int64))) then (1 : Int32) else (0 : Int32))), .val (.ref x130_R0)]) rfl ?_
        show Steps p.tables e below (T130.setTop (mkF m 145 #[.val (.long P0), .second, .val (.int P1), .val (.int P2), .val (.int (if ¬ ((P1 &&& (1 : Int32)) = (0 : Int32)) then (1 : Int32) else (0 : Int32))), .val (.ref b102), .val (.ref b108), .val (.ref b116), .val (.int (if ¬ (P0 = (0 : Int64)) ∧ (¬ (P0 < (0 : Int64))) then (1 : Int32) else (0 : Int32))), .val (.ref x130_R0)] [])) _
        refine XS.aload X130.here hx rfl (hb hby at_145) rfl rfl ?_
        show Steps p.tables e below (T130.setTop (mkF m 147 #[.val (.long P0), .second, .val (.int P1), .val (.int P2), .val (.int (if ¬ ((P1 &&& (1 : Int32)) = (0 : Int32)) then (1 : Int32) else (0 : Int32))), .val (.ref b102), .val (.ref b108), .val (.ref b116), .val (.int (if ¬ (P0 = (0 : Int64)) ∧ (¬ (P0 < (0 : Int64))) then (1 : Int32) else (0 : Int32))), .val (.ref x130_R0)] [(.ref x130_R0)])) _
        refine st137.trans ?_
        show Steps p.tables e below (T137.setTop (mkF m 150 #[.val (.long P0), .second, .val (.int P1), .val (.int P2), .val (.int (if ¬ ((P1 &&& (1 : Int32)) = (0 : Int32)) then (1 : Int32) else (0 : Int32))), .val (.ref b102), .val (.ref b108), .val (.ref b116), .val (.int (if ¬ (P0 = (0 : Int64)) ∧ (¬ (P0 < (0 : Int64))) then (1 : Int32) else (0 : Int32))), .val (.ref x130_R0)] [(.int (if (0 : Int64) < P0 then (1 : Int32) else (0 : Int32)))])) _
        refine XS.iload X137.here hx rfl (hb hby at_150) rfl ?_
        show Steps p.tables e below (T137.setTop (mkF m 152 #[.val (.long P0), .second, .val (.int P1), .val (.int P2), .val (.int (if ¬ ((P1 &&& (1 : Int32)) = (0 : Int32)) then (1 : Int32) else (0 : Int32))), .val (.ref b102), .val (.ref b108), .val (.ref b116), .val (.int (if ¬ (P0 = (0 : Int64)) ∧ (¬ (P0 < (0 : Int64))) then (1 : Int32) else (0 : Int32))), .val (.ref x130_R0)] [(.int (if ¬ (P0 = (0 : Int64)) ∧ (¬ (P0 < (0 : Int64))) then (1 : Int32) else (0 : Int32))), (.int (if (0 : Int64) < P0 then (1 : Int32) else (0 : Int32)))])) _
        refine XS.icmpNo X137.here hx rfl (hb hby at_152) rfl (teq (show (if (0 : Int64) < P0 then (1 : Int32) else (0 : Int32)) = (if ¬ (P0 = (0 : Int64)) ∧ (¬ (P0 < (0 : Int64))) then (1 : Int32) else (0 : Int32)) from (own_g1 _))).2 ?_
        show Steps p.tables e below (T137.setTop (mkF m 155 #[.val (.long P0), .second, .val (.int P1), .val (.int P2), .val (.int (if ¬ ((P1 &&& (1 : Int32)) = (0 : Int32)) then (1 : Int32) else (0 : Int32))), .val (.ref b102), .val (.ref b108), .val (.ref b116), .val (.int (if ¬ (P0 = (0 : Int64)) ∧ (¬ (P0 < (0 : Int64))) then (1 : Int32) else (0 : Int32))), .val (.ref x130_R0)] [])) _
        refine XS.iconst X137.here hx rfl (hb hby at_155) ?_
        show Steps p.tables e below (T137.setTop (mkF m 156 #[.val (.long P0), .second, .val (.int P1), .val (.int P2), .val (.int (if ¬ ((P1 &&& (1 : Int32)) = (0 : Int32)) then (1 : Int32) else (0 : Int32))), .val (.ref b102), .val (.ref b108), .val (.ref b116), .val (.int (if ¬ (P0 = (0 : Int64)) ∧ (¬ (P0 < (0 : Int64))) then (1 : Int32) else (0 : Int32))), .val (.ref x130_R0)] [(.int (1 : Int32))])) _
        refine XS.goto X137.here hx rfl (pc0 := 156) (pc' := 160) rfl (hb hby at_156) (by decide) (by decide) ?_
        exact kt)
    obtain ⟨fs, hr, hrun, hended, hW, hsame⟩ := X137.leave (v := some (.int (1 : Int32))) (fun h => by rw [Bd.returns] at h; cases h)
    refine ⟨_, _, pre138 _ ?_, hrun, hended, _, _, rfl, ?_, ⟨_, rfl⟩, hW, hsame.mono (by decide) (by decide)⟩
    · show Steps p.tables e below (T137.setTop (mkF m 160 #[.val (.long P0), .second, .val (.int P1), .val (.int P2), .val (.int (if ¬ ((P1 &&& (1 : Int32)) = (0 : Int32)) then (1 : Int32) else (0 : Int32))), .val (.ref b102), .val (.ref b108), .val (.ref b116), .val (.int (if ¬ (P0 = (0 : Int64)) ∧ (¬ (P0 < (0 : Int64))) then (1 : Int32) else (0 : Int32))), .val (.ref x130_R0)] [(.int (1 : Int32))])) _
      exact retN X137 hx (t := .boolean) Bd.returns (by simp) (hb hby at_160) hr
    · show Q0 Z P0 P1 P2 U0 h0 n0 _ T137.heap _
      rw [K137]
      exact ⟨rfl, N137⟩
  · obtain ⟨T139, h139, X139, e139, E139, A139, D139, -, st139⟩ := newO X105 hx hZ hown (hw _ (List.mem_of_getElem? (i := 1) rfl)) (hw _ (List.mem_of_getElem? (i := 2) rfl)) (hw _ (List.mem_of_getElem? (i := 3) rfl)) e105 (g := (mkF m 49 #[.val (.long P0), .second, .val (.int P1), .val (.int P2), .val (.int (if ¬ ((P1 &&& (1 : Int32)) = (0 : Int32)) then (1 : Int32) else (0 : Int32))), .val (.ref b102), .val .null, .unset, .unset, .unset] [])) rfl (hb hby at_49) (by decide) (by decide)
    obtain ⟨b139, q139⟩ : ∃ z, z = h105.size := ⟨_, rfl⟩
    rw [← q139] at A139 D139 st139
    have c141 : Exa Z h105 b102 "[C" := (EX102.wr W105)
    have ne140 : b102 ≠ b139 := Nat.ne_of_lt (Nat.lt_of_lt_of_le c141.lt (Nat.le_of_eq q139.symm))
    have g_b139 : n0 ≤ b139 := Nat.le_trans Z106 (Nat.le_of_eq q139.symm)
    have Z142 : n0 ≤ h139.size := Nat.le_trans Z106 E139.1
    have F139_11 : Fld Z h139 b139 "com/example/holdfast/holdfast/Offer" "token" "J" (.long (0 : Int64)) := D139 (Or.inr (hw _ (List.mem_of_getElem? (i := 11) rfl))) (ty := .long) (by decide)
    have F139_13 : Fld Z h139 b139 "com/example/holdfast/holdfast/Offer" "recent" "Z" (.int (0 : Int32)) := D139 (Or.inr (hw _ (List.mem_of_getElem? (i := 13) rfl))) (ty := .boolean) (by decide)
    have F139_15 : Fld Z h139 b139 "com/example/holdfast/holdfast/Offer" "run" "Ljava/lang/String;" .null := D139 (Or.inr (hw _ (List.mem_of_getElem? (i := 15) rfl))) (ty := (.object "java/lang/String")) (by decide)
    have c143 : Sta Z h139 "java/lang/String" "COMPACT_STRINGS" "Z" (.int U0) := (((pm0.ext E102).wr W105).ext E139)
    obtain ⟨_, _, ⟨T144, L144, k144, n144⟩, -, X144, ⟨Lc144, hQ144, l144, y144, z144⟩, st144⟩ := X139.specialBack hx (y := (⟨"com/example/holdfast/holdfast/Offer", "<init>", "(JZLjava/lang/String;)V"⟩ : MethodName)) rfl hown (mvT hZ (hw _ (List.mem_of_getElem? (i := 4) rfl))) (mvT hZ (hw _ (List.mem_of_getElem? (i := 5) rfl))) (mvT hZ (hw _ (List.mem_of_getElem? (i := 6) rfl))) (by decide) (backOf (W := 1) (rmoffN l Z a0 hw [] b139 P0 (if ¬ ((P1 &&& (1 : Int32)) = (0 : Int32)) then (1 : Int32) else (0 : Int32)) (0 : Int64) (0 : Int32) .null h139 n0 Z142 F139_11 F139_13 F139_15 A139 g_b139) hZ (hw _ (List.mem_of_getElem? (i := 6) rfl)) (hw _ (List.mem_of_getElem? (i := 3) rfl)) (by decide) (by decide)) (g := (mkF m 58 #[.val (.long P0), .second, .val (.int P1), .val (.int P2), .val (.int (if ¬ ((P1 &&& (1 : Int32)) = (0 : Int32)) then (1 : Int32) else (0 : Int32))), .val (.ref b102), .val .null, .unset, .unset, .unset] [.null, (.int (if ¬ ((P1 &&& (1 : Int32)) = (0 : Int32)) then (1 : Int32) else (0 : Int32))), (.long P0), (.ref b139), (.ref b139)])) rfl (by rw [hml]; rfl) (Steps.refl _) (a := b139) (argsL := [(.long P0), (.int (if ¬ ((P1 &&& (1 : Int32)) = (0 : Int32)) then (1 : Int32) else (0 : Int32))), .null]) (rest := [(.ref b139)]) (lenOf pd_0_1 rfl) rfl (by show 2 * 0 + _ ≤ _; exact Nat.le_of_eq rfl) (hb hby at_58) (fun _ _ => ⟨rfl, e139, (by decide : 2 + 0 ≤ _), (by decide : 4 + 0 ≤ _)⟩)
    dsimp only [Pt.U, Pt.locs, Pt.cells, Pt.slots] at X144 l144 y144 z144 st144 hQ144
    subst l144 y144 z144
    obtain ⟨rfl, N144q, K144, p144_0, p144_1⟩ := hQ144
    have N144 := Fr.app N105 N144q
    have Z145 : n0 ≤ T144.heap.size := Nat.le_trans Z142 K144.1
    have ss144_0 : Sta Z T144.heap "java/lang/String" "COMPACT_STRINGS" "Z" (.int U0) := own_sta_keep c143 K144 (allS (own_ns A139) all0)
    have pre146 : ∀ t, Steps p.tables e below (T144.setTop (mkF m 90 #[.val (.long P0), .second, .val (.int P1), .val (.int P2), .val (.int (if ¬ ((P1 &&& (1 : Int32)) = (0 : Int32)) then (1 : Int32) else (0 : Int32))), .val (.ref b102), .val .null, .val (.ref b139), .val (.int (if ¬ (P0 = (0 : Int64)) ∧ (¬ (P0 < (0 : Int64))) then (1 : Int32) else (0 : Int32))), .unset] [])) t → Steps p.tables e below (s₁.setTop (entryFrame m #[(.long P0), (.int P1), (.int P2)] maxLocals)) t := fun t kt => pre107 t (by
        show Steps p.tables e below (T105.setTop (mkF m 31 #[.val (.long P0), .second, .val (.int P1), .val (.int P2), .val (.int (if ¬ ((P1 &&& (1 : Int32)) = (0 : Int32)) then (1 : Int32) else (0 : Int32))), .val (.ref b102), .unset, .unset, .unset, .unset] [(.int (P1 &&& (2 : Int32)))])) _
        refine XS.ifNo X105.here hx rfl (hb hby at_31) rfl ((if0 _ _).trans (feq hc31).1) ?_
        show Steps p.tables e below (T105.setTop (mkF m 34 #[.val (.long P0), .second, .val (.int P1), .val (.int P2), .val (.int (if ¬ ((P1 &&& (1 : Int32)) = (0 : Int32)) then (1 : Int32) else (0 : Int32))), .val (.ref b102), .unset, .unset, .unset, .unset] [])) _
        refine XS.aconstNull X105.here hx rfl (hb hby at_34) ?_
        show Steps p.tables e below (T105.setTop (mkF m 35 #[.val (.long P0), .second, .val (.int P1), .val (.int P2), .val (.int (if ¬ ((P1 &&& (1 : Int32)) = (0 : Int32)) then (1 : Int32) else (0 : Int32))), .val (.ref b102), .unset, .unset, .unset, .unset] [.null])) _
        refine XS.goto X105.here hx rfl (pc0 := 35) (pc' := 47) rfl (hb hby at_35) (by decide) (by decide) ?_
        show Steps p.tables e below (T105.setTop (mkF m 47 #[.val (.long P0), .second, .val (.int P1), .val (.int P2), .val (.int (if ¬ ((P1 &&& (1 : Int32)) = (0 : Int32)) then (1 : Int32) else (0 : Int32))), .val (.ref b102), .unset, .unset, .unset, .unset] [.null])) _
        refine XS.astore X105.here hx rfl (hb hby at_47) rfl rfl (l' := #[.val (.long P0), .second, .val (.int P1), .val (.int P2), .val (.int (if ¬ ((P1 &&& (1 : Int32)) = (0 : Int32)) then (1 : Int32) else (0 : Int32))), .val (.ref b102), .val .null, .unset, .unset, .unset]) rfl ?_
        show Steps p.tables e below (T105.setTop (mkF m 49 #[.val (.long P0), .second, .val (.int P1), .val (.int P2), .val (.int (if ¬ ((P1 &&& (1 : Int32)) = (0 : Int32)) then (1 : Int32) else (0 : Int32))), .val (.ref b102), .val .null, .unset, .unset, .unset] [])) _
        refine st139 _ ?_
        show Steps p.tables e below (T139.setTop (mkF m 52 #[.val (.long P0), .second, .val (.int P1), .val (.int P2), .val (.int (if ¬ ((P1 &&& (1 : Int32)) = (0 : Int32)) then (1 : Int32) else (0 : Int32))), .val (.ref b102), .val .null, .unset, .unset, .unset] [(.ref b139)])) _
        refine XS.dup X139.here hx rfl (hb hby at_52) rfl rfl ?_
        show Steps p.tables e below (T139.setTop (mkF m 53 #[.val (.long P0), .second, .val (.int P1), .val (.int P2), .val (.int (if ¬ ((P1 &&& (1 : Int32)) = (0 : Int32)) then (1 : Int32) else (0 : Int32))), .val (.ref b102), .val .null, .unset, .unset, .unset] [(.ref b139), (.ref b139)])) _
        refine XS.lloadN X139.here hx rfl (hb hby at_53) rfl ?_
        show Steps p.tables e below (T139.setTop (mkF m 54 #[.val (.long P0), .second, .val (.int P1), .val (.int P2), .val (.int (if ¬ ((P1 &&& (1 : Int32)) = (0 : Int32)) then (1 : Int32) else (0 : Int32))), .val (.ref b102), .val .null, .unset, .unset, .unset] [(.long P0), (.ref b139), (.ref b139)])) _
        refine XS.iload X139.here hx rfl (hb hby at_54) rfl ?_
        show Steps p.tables e below (T139.setTop (mkF m 56 #[.val (.long P0), .second, .val (.int P1), .val (.int P2), .val (.int (if ¬ ((P1 &&& (1 : Int32)) = (0 : Int32)) then (1 : Int32) else (0 : Int32))), .val (.ref b102), .val .null, .unset, .unset, .unset] [(.int (if ¬ ((P1 &&& (1 : Int32)) = (0 : Int32)) then (1 : Int32) else (0 : Int32))), (.long P0), (.ref b139), (.ref b139)])) _
        refine XS.aload X139.here hx rfl (hb hby at_56) rfl rfl ?_
        show Steps p.tables e below (T139.setTop (mkF m 58 #[.val (.long P0), .second, .val (.int P1), .val (.int P2), .val (.int (if ¬ ((P1 &&& (1 : Int32)) = (0 : Int32)) then (1 : Int32) else (0 : Int32))), .val (.ref b102), .val .null, .unset, .unset, .unset] [.null, (.int (if ¬ ((P1 &&& (1 : Int32)) = (0 : Int32)) then (1 : Int32) else (0 : Int32))), (.long P0), (.ref b139), (.ref b139)])) _
        refine st144.trans ?_
        show Steps p.tables e below (T144.setTop (mkF m 61 #[.val (.long P0), .second, .val (.int P1), .val (.int P2), .val (.int (if ¬ ((P1 &&& (1 : Int32)) = (0 : Int32)) then (1 : Int32) else (0 : Int32))), .val (.ref b102), .val .null, .unset, .unset, .unset] [(.ref b139)])) _
        refine XS.astore X144.here hx rfl (hb hby at_61) rfl rfl (l' := #[.val (.long P0), .second, .val (.int P1), .val (.int P2), .val (.int (if ¬ ((P1 &&& (1 : Int32)) = (0 : Int32)) then (1 : Int32) else (0 : Int32))), .val (.ref b102), .val .null, .val (.ref b139), .unset, .unset]) rfl ?_
        show Steps p.tables e below (T144.setTop (mkF m 63 #[.val (.long P0), .second, .val (.int P1), .val (.int P2), .val (.int (if ¬ ((P1 &&& (1 : Int32)) = (0 : Int32)) then (1 : Int32) else (0 : Int32))), .val (.ref b102), .val .null, .val (.ref b139), .unset, .unset] [])) _
        refine XS.lloadN X144.here hx rfl (hb hby at_63) rfl ?_
        show Steps p.tables e below (T144.setTop (mkF m 64 #[.val (.long P0), .second, .val (.int P1), .val (.int P2), .val (.int (if ¬ ((P1 &&& (1 : Int32)) = (0 : Int32)) then (1 : Int32) else (0 : Int32))), .val (.ref b102), .val .null, .val (.ref b139), .unset, .unset] [(.long P0)])) _
        refine XS.lconst X144.here hx rfl (hb hby at_64) ?_
        show Steps p.tables e below (T144.setTop (mkF m 65 #[.val (.long P0), .second, .val (.int P1), .val (.int P2), .val (.int (if ¬ ((P1 &&& (1 : Int32)) = (0 : Int32)) then (1 : Int32) else (0 : Int32))), .val (.ref b102), .val .null, .val (.ref b139), .unset, .unset] [(.long (0 : Int64)), (.long P0)])) _
        refine XS.lcmp X144.here hx rfl (hb hby at_65) rfl ?_
        show Steps p.tables e below (T144.setTop (mkF m 66 #[.val (.long P0), .second, .val (.int P1), .val (.int P2), .val (.int (if ¬ ((P1 &&& (1 : Int32)) = (0 : Int32)) then (1 : Int32) else (0 : Int32))), .val (.ref b102), .val .null, .val (.ref b139), .unset, .unset] [(.int (lcmpW P0 (0 : Int64)))])) _
        by_cases hm66 : P0 = (0 : Int64)
        · refine XS.ifNo X144.here hx rfl (hb hby at_66) rfl ((if0 _ _).trans (teq ((lw_eq P0 (0 : Int64)).mpr hm66)).2) ?_
          show Steps p.tables e below (T144.setTop (mkF m 69 #[.val (.long P0), .second, .val (.int P1), .val (.int P2), .val (.int (if ¬ ((P1 &&& (1 : Int32)) = (0 : Int32)) then (1 : Int32) else (0 : Int32))), .val (.ref b102), .val .null, .val (.ref b139), .unset, .unset] [])) _
          refine XS.iconst X144.here hx rfl (hb hby at_69) ?_
          show Steps p.tables e below (T144.setTop (mkF m 70 #[.val (.long P0), .second, .val (.int P1), .val (.int P2), .val (.int (if ¬ ((P1 &&& (1 : Int32)) = (0 : Int32)) then (1 : Int32) else (0 : Int32))), .val (.ref b102), .val .null, .val (.ref b139), .unset, .unset] [(.int (0 : Int32))])) _
          refine XS.istore X144.here hx rfl (hb hby at_70) rfl (l' := #[.val (.long P0), .second, .val (.int P1), .val (.int P2), .val (.int (if ¬ ((P1 &&& (1 : Int32)) = (0 : Int32)) then (1 : Int32) else (0 : Int32))), .val (.ref b102), .val .null, .val (.ref b139), .val (.int (0 : Int32)), .unset]) rfl ?_
          show Steps p.tables e below (T144.setTop (mkF m 72 #[.val (.long P0), .second, .val (.int P1), .val (.int P2), .val (.int (if ¬ ((P1 &&& (1 : Int32)) = (0 : Int32)) then (1 : Int32) else (0 : Int32))), .val (.ref b102), .val .null, .val (.ref b139), .val (.int (0 : Int32)), .unset] [])) _
          refine XS.goto X144.here hx rfl (pc0 := 72) (pc' := 90) rfl (hb hby at_72) (by decide) (by decide) ?_
          rw [show (if ¬ (P0 = (0 : Int64)) ∧ (¬ (P0 < (0 : Int64))) then (1 : Int32) else (0 : Int32)) = (0 : Int32) from by simp [hm66]] at kt
          exact kt
        · refine XS.ifYes X144.here hx rfl (pc0 := 66) (pc' := 75) rfl (hb hby at_66) rfl ((if0 _ _).trans (feq (fun q => hm66 ((lw_eq P0 (0 : Int64)).mp q))).2) (by decide) (by decide) ?_
          show Steps p.tables e below (T144.setTop (mkF m 75 #[.val (.long P0), .second, .val (.int P1), .val (.int P2), .val (.int (if ¬ ((P1 &&& (1 : Int32)) = (0 : Int32)) then (1 : Int32) else (0 : Int32))), .val (.ref b102), .val .null, .val (.ref b139), .unset, .unset] [])) _
          refine XS.lloadN X144.here hx rfl (hb hby at_75) rfl ?_
          show Steps p.tables e below (T144.setTop (mkF m 76 #[.val (.long P0), .second, .val (.int P1), .val (.int P2), .val (.int (if ¬ ((P1 &&& (1 : Int32)) = (0 : Int32)) then (1 : Int32) else (0 : Int32))), .val (.ref b102), .val .null, .val (.ref b139), .unset, .unset] [(.long P0)])) _
          refine XS.lconst X144.here hx rfl (hb hby at_76) ?_
          show Steps p.tables e below (T144.setTop (mkF m 77 #[.val (.long P0), .second, .val (.int P1), .val (.int P2), .val (.int (if ¬ ((P1 &&& (1 : Int32)) = (0 : Int32)) then (1 : Int32) else (0 : Int32))), .val (.ref b102), .val .null, .val (.ref b139), .unset, .unset] [(.long (0 : Int64)), (.long P0)])) _
          refine XS.lcmp X144.here hx rfl (hb hby at_77) rfl ?_
          show Steps p.tables e below (T144.setTop (mkF m 78 #[.val (.long P0), .second, .val (.int P1), .val (.int P2), .val (.int (if ¬ ((P1 &&& (1 : Int32)) = (0 : Int32)) then (1 : Int32) else (0 : Int32))), .val (.ref b102), .val .null, .val (.ref b139), .unset, .unset] [(.int (lcmpW P0 (0 : Int64)))])) _
          by_cases hm78 : P0 < (0 : Int64)
          · refine XS.ifNo X144.here hx rfl (hb hby at_78) rfl ((if0 _ _).trans (tlt ((lw_lt P0 (0 : Int64)).mpr hm78)).2.1) ?_
            show Steps p.tables e below (T144.setTop (mkF m 81 #[.val (.long P0), .second, .val (.int P1), .val (.int P2), .val (.int (if ¬ ((P1 &&& (1 : Int32)) = (0 : Int32)) then (1 : Int32) else (0 : Int32))), .val (.ref b102), .val .null, .val (.ref b139), .unset, .unset] [])) _
            refine XS.iconst X144.here hx rfl (hb hby at_81) ?_
            show Steps p.tables e below (T144.setTop (mkF m 82 #[.val (.long P0), .second, .val (.int P1), .val (.int P2), .val (.int (if ¬ ((P1 &&& (1 : Int32)) = (0 : Int32)) then (1 : Int32) else (0 : Int32))), .val (.ref b102), .val .null, .val (.ref b139), .unset, .unset] [(.int (0 : Int32))])) _
            refine XS.istore X144.here hx rfl (hb hby at_82) rfl (l' := #[.val (.long P0), .second, .val (.int P1), .val (.int P2), .val (.int (if ¬ ((P1 &&& (1 : Int32)) = (0 : Int32)) then (1 : Int32) else (0 : Int32))), .val (.ref b102), .val .null, .val (.ref b139), .val (.int (0 : Int32)), .unset]) rfl ?_
            show Steps p.tables e below (T144.setTop (mkF m 84 #[.val (.long P0), .second, .val (.int P1), .val (.int P2), .val (.int (if ¬ ((P1 &&& (1 : Int32)) = (0 : Int32)) then (1 : Int32) else (0 : Int32))), .val (.ref b102), .val .null, .val (.ref b139), .val (.int (0 : Int32)), .unset] [])) _
            refine XS.goto X144.here hx rfl (pc0 := 84) (pc' := 90) rfl (hb hby at_84) (by decide) (by decide) ?_
            rw [show (if ¬ (P0 = (0 : Int64)) ∧ (¬ (P0 < (0 : Int64))) then (1 : Int32) else (0 : Int32)) = (0 : Int32) from by simp [hm66, hm78]] at kt
            exact kt
          · refine XS.ifYes X144.here hx rfl (pc0 := 78) (pc' := 87) rfl (hb hby at_78) rfl ((if0 _ _).trans (flt (fun q => hm78 ((lw_lt P0 (0 : Int64)).mp q))).2.1) (by decide) (by decide) ?_
            show Steps p.tables e below (T144.setTop (mkF m 87 #[.val (.long P0), .second, .val (.int P1), .val (.int P2), .val (.int (if ¬ ((P1 &&& (1 : Int32)) = (0 : Int32)) then (1 : Int32) else (0 : Int32))), .val (.ref b102), .val .null, .val (.ref b139), .unset, .unset] [])) _
            refine XS.iconst X144.here hx rfl (hb hby at_87) ?_
            show Steps p.tables e below (T144.setTop (mkF m 88 #[.val (.long P0), .second, .val (.int P1), .val (.int P2), .val (.int (if ¬ ((P1 &&& (1 : Int32)) = (0 : Int32)) then (1 : Int32) else (0 : Int32))), .val (.ref b102), .val .null, .val (.ref b139), .unset, .unset] [(.int (1 : Int32))])) _
            refine XS.istore X144.here hx rfl (hb hby at_88) rfl (l' := #[.val (.long P0), .second, .val (.int P1), .val (.int P2), .val (.int (if ¬ ((P1 &&& (1 : Int32)) = (0 : Int32)) then (1 : Int32) else (0 : Int32))), .val (.ref b102), .val .null, .val (.ref b139), .val (.int (1 : Int32)), .unset]) rfl ?_
            rw [show (if ¬ (P0 = (0 : Int64)) ∧ (¬ (P0 < (0 : Int64))) then (1 : Int32) else (0 : Int32)) = (1 : Int32) from by simp [hm66, hm78]] at kt
            exact kt)
    obtain ⟨cq147, kq147, q147a, q147b, q147c⟩ := isOf hZ rfl p144_0
    obtain ⟨_, _, ⟨T147, L147, k147, n147⟩, -, X147, ⟨Lc147, hQ147, l147, y147, z147⟩, st147⟩ := X144.virtualBack hx (y := (⟨"com/example/holdfast/holdfast/Offer", "token", "()J"⟩ : MethodName)) (z := (⟨"com/example/holdfast/holdfast/Offer", "token", "()J"⟩ : MethodName)) hown (mvT hZ (hw _ (List.mem_of_getElem? (i := 16) rfl))) (mvT hZ (hw _ (List.mem_of_getElem? (i := 17) rfl))) (notFace_of_selects (args := #[]) (mvT hZ (hw _ (List.mem_of_getElem? (i := 19) rfl)))) (mvT hZ (hw _ (List.mem_of_getElem? (i := 19) rfl))) (mvT hZ (hw _ (List.mem_of_getElem? (i := 18) rfl))) (by decide) (backOf (W := 0) (rm3 l Z a0 hw [] b139 P0 T144.heap n0 Z145 p144_1) hZ (hw _ (List.mem_of_getElem? (i := 20) rfl)) (hw _ (List.mem_of_getElem? (i := 3) rfl)) (by decide) (by decide)) q147a q147c (g := (mkF m 92 #[.val (.long P0), .second, .val (.int P1), .val (.int P2), .val (.int (if ¬ ((P1 &&& (1 : Int32)) = (0 : Int32)) then (1 : Int32) else (0 : Int32))), .val (.ref b102), .val .null, .val (.ref b139), .val (.int (if ¬ (P0 = (0 : Int64)) ∧ (¬ (P0 < (0 : Int64))) then (1 : Int32) else (0 : Int32))), .unset] [(.ref b139)])) rfl (by rw [hml]; rfl) (Steps.refl _) (argsL := []) (rest := []) (lenOf pd_0_2 rfl) rfl (by show 2 * 0 + _ ≤ _; exact Nat.le_of_eq rfl) (hb hby at_92) (fun _ _ => ⟨rfl, rfl, (by decide : 2 + 0 ≤ _), (by decide : 4 + 0 ≤ _)⟩)
    dsimp only [Pt.U, Pt.locs, Pt.cells, Pt.slots] at X147 l147 y147 z147 st147 hQ147
    subst l147 y147 z147
    obtain ⟨rfl, N147q, K147⟩ := hQ147
    have N147 := Fr.app N144 N147q
    obtain ⟨cq148, kq148, q148a, q148b, q148c⟩ := isOf hZ K147 p144_0
    obtain ⟨_, _, ⟨T148, L148, k148, n148⟩, -, X148, ⟨Lc148, hQ148, l148, y148, z148⟩, st148⟩ := X147.virtualBack hx (y := (⟨"com/example/holdfast/holdfast/Offer", "granted", "()Z"⟩ : MethodName)) (z := (⟨"com/example/holdfast/holdfast/Offer", "granted", "()Z"⟩ : MethodName)) hown (mvT hZ (hw _ (List.mem_of_getElem? (i := 21) rfl))) (mvT hZ (hw _ (List.mem_of_getElem? (i := 22) rfl))) (notFace_of_selects (args := #[]) (mvT hZ (hw _ (List.mem_of_getElem? (i := 24) rfl)))) (mvT hZ (hw _ (List.mem_of_getElem? (i := 24) rfl))) (mvT hZ (hw _ (List.mem_of_getElem? (i := 23) rfl))) (by decide) (backOf (W := 0) (rm4 l Z a0 hw [] b139 P0 T144.heap n0 Z145 p144_1) hZ (hw _ (List.mem_of_getElem? (i := 25) rfl)) (hw _ (List.mem_of_getElem? (i := 3) rfl)) (by decide) (by decide)) q148a q148c (g := (mkF m 104 #[.val (.long P0), .second, .val (.int P1), .val (.int P2), .val (.int (if ¬ ((P1 &&& (1 : Int32)) = (0 : Int32)) then (1 : Int32) else (0 : Int32))), .val (.ref b102), .val .null, .val (.ref b139), .val (.int (if ¬ (P0 = (0 : Int64)) ∧ (¬ (P0 < (0 : Int64))) then (1 : Int32) else (0 : Int32))), .unset] [(.ref b139)])) rfl (by rw [hml]; rfl) (Steps.refl _) (argsL := []) (rest := []) (lenOf pd_0_3 rfl) rfl (by show 2 * 0 + _ ≤ _; exact Nat.le_of_eq rfl) (hb hby at_104) (fun _ _ => ⟨rfl, K147, (by decide : 2 + 0 ≤ _), (by decide : 4 + 0 ≤ _)⟩)
    dsimp only [Pt.U, Pt.locs, Pt.cells, Pt.slots] at X148 l148 y148 z148 st148 hQ148
    subst l148 y148 z148
    obtain ⟨rfl, N148q, K148⟩ := hQ148
    have N148 := Fr.app N147 N148q
    obtain ⟨cq149, kq149, q149a, q149b, q149c⟩ := isOf hZ K148 p144_0
    obtain ⟨_, _, ⟨T149, L149, k149, n149⟩, -, X149, ⟨Lc149, hQ149, l149, y149, z149⟩, st149⟩ := X148.virtualBack hx (y := (⟨"com/example/holdfast/holdfast/Offer", "granted", "()Z"⟩ : MethodName)) (z := (⟨"com/example/holdfast/holdfast/Offer", "granted", "()Z"⟩ : MethodName)) hown (mvT hZ (hw _ (List.mem_of_getElem? (i := 21) rfl))) (mvT hZ (hw _ (List.mem_of_getElem? (i := 22) rfl))) (notFace_of_selects (args := #[]) (mvT hZ (hw _ (List.mem_of_getElem? (i := 24) rfl)))) (mvT hZ (hw _ (List.mem_of_getElem? (i := 24) rfl))) (mvT hZ (hw _ (List.mem_of_getElem? (i := 23) rfl))) (by decide) (backOf (W := 0) (rm4 l Z a0 hw [] b139 P0 T144.heap n0 Z145 p144_1) hZ (hw _ (List.mem_of_getElem? (i := 25) rfl)) (hw _ (List.mem_of_getElem? (i := 3) rfl)) (by decide) (by decide)) q149a q149c (g := (mkF m 116 #[.val (.long P0), .second, .val (.int P1), .val (.int P2), .val (.int (if ¬ ((P1 &&& (1 : Int32)) = (0 : Int32)) then (1 : Int32) else (0 : Int32))), .val (.ref b102), .val .null, .val (.ref b139), .val (.int (if ¬ (P0 = (0 : Int64)) ∧ (¬ (P0 < (0 : Int64))) then (1 : Int32) else (0 : Int32))), .unset] [(.ref b139)])) rfl (by rw [hml]; rfl) (Steps.refl _) (argsL := []) (rest := []) (lenOf pd_0_3 rfl) rfl (by show 2 * 0 + _ ≤ _; exact Nat.le_of_eq rfl) (hb hby at_116) (fun _ _ => ⟨rfl, K148, (by decide : 2 + 0 ≤ _), (by decide : 4 + 0 ≤ _)⟩)
    dsimp only [Pt.U, Pt.locs, Pt.cells, Pt.slots] at X149 l149 y149 z149 st149 hQ149
    subst l149 y149 z149
    obtain ⟨rfl, N149q, K149⟩ := hQ149
    have N149 := Fr.app N148 N149q
    obtain ⟨cq150, kq150, q150a, q150b, q150c⟩ := isOf hZ K149 p144_0
    obtain ⟨_, _, ⟨T150, L150, k150, n150⟩, -, X150, ⟨Lc150, hQ150, l150, y150, z150⟩, st150⟩ := X149.virtualBack hx (y := (⟨"com/example/holdfast/holdfast/Offer", "token", "()J"⟩ : MethodName)) (z := (⟨"com/example/holdfast/holdfast/Offer", "token", "()J"⟩ : MethodName)) hown (mvT hZ (hw _ (List.mem_of_getElem? (i := 16) rfl))) (mvT hZ (hw _ (List.mem_of_getElem? (i := 17) rfl))) (notFace_of_selects (args := #[]) (mvT hZ (hw _ (List.mem_of_getElem? (i := 19) rfl)))) (mvT hZ (hw _ (List.mem_of_getElem? (i := 19) rfl))) (mvT hZ (hw _ (List.mem_of_getElem? (i := 18) rfl))) (by decide) (backOf (W := 1) (rm3 l Z a0 hw [] b139 P0 T144.heap n0 Z145 p144_1) hZ (hw _ (List.mem_of_getElem? (i := 20) rfl)) (hw _ (List.mem_of_getElem? (i := 3) rfl)) (by decide) (by decide)) q150a q150c (g := (mkF m 121 #[.val (.long P0), .second, .val (.int P1), .val (.int P2), .val (.int (if ¬ ((P1 &&& (1 : Int32)) = (0 : Int32)) then (1 : Int32) else (0 : Int32))), .val (.ref b102), .val .null, .val (.ref b139), .val (.int (if ¬ (P0 = (0 : Int64)) ∧ (¬ (P0 < (0 : Int64))) then (1 : Int32) else (0 : Int32))), .unset] [(.ref b139), (.int (if (0 : Int64) < P0 then (1 : Int32) else (0 : Int32)))])) rfl (by rw [hml]; rfl) (Steps.refl _) (argsL := []) (rest := [(.int (if (0 : Int64) < P0 then (1 : Int32) else (0 : Int32)))]) (lenOf pd_0_2 rfl) rfl (by show 2 * 0 + _ ≤ _; exact Nat.le_of_eq rfl) (hb hby at_121) (fun _ _ => ⟨rfl, K149, (by decide : 2 + 0 ≤ _), (by decide : 4 + 0 ≤ _)⟩)
    dsimp only [Pt.U, Pt.locs, Pt.cells, Pt.slots] at X150 l150 y150 z150 st150 hQ150
    subst l150 y150 z150
    obtain ⟨rfl, N150q, K150⟩ := hQ150
    have N150 := Fr.app N149 N150q
    have pre151 : ∀ t, Steps p.tables e below (T150.setTop (mkF m 134 #[.val (.long P0), .second, .val (.int P1), .val (.int P2), .val (.int (if ¬ ((P1 &&& (1 : Int32)) = (0 : Int32)) then (1 : Int32) else (0 : Int32))), .val (.ref b102), .val .null, .val (.ref b139), .val (.int (if ¬ (P0 = (0 : Int64)) ∧ (¬ (P0 < (0 : Int64))) then (1 : Int32) else (0 : Int32))), .unset] [(.int (if ¬ (P0 < (1 : Int64)) then (1 : Int32) else (0 : Int32))), (.int (if (0 : Int64) < P0 then (1 : Int32) else (0 : Int32)))])) t → Steps p.tables e below (s₁.setTop (entryFrame m #[(.long P0), (.int P1), (.int P2)] maxLocals)) t := fun t kt => pre146 t (by
        show Steps p.tables e below (T144.setTop (mkF m 90 #[.val (.long P0), .second, .val (.int P1), .val (.int P2), .val (.int (if ¬ ((P1 &&& (1 : Int32)) = (0 : Int32)) then (1 : Int32) else (0 : Int32))), .val (.ref b102), .val .null, .val (.ref b139), .val (.int (if ¬ (P0 = (0 : Int64)) ∧ (¬ (P0 < (0 : Int64))) then (1 : Int32) else (0 : Int32))), .unset] [])) _
        refine XS.aload X144.here hx rfl (hb hby at_90) rfl rfl ?_
        show Steps p.tables e below (T144.setTop (mkF m 92 #[.val (.long P0), .second, .val (.int P1), .val (.int P2), .val (.int (if ¬ ((P1 &&& (1 : Int32)) = (0 : Int32)) then (1 : Int32) else (0 : Int32))), .val (.ref b102), .val .null, .val (.ref b139), .val (.int (if ¬ (P0 = (0 : Int64)) ∧ (¬ (P0 < (0 : Int64))) then (1 : Int32) else (0 : Int32))), .unset] [(.ref b139)])) _
        refine st147.trans ?_
        show Steps p.tables e below (T147.setTop (mkF m 95 #[.val (.long P0), .second, .val (.int P1), .val (.int P2), .val (.int (if ¬ ((P1 &&& (1 : Int32)) = (0 : Int32)) then (1 : Int32) else (0 : Int32))), .val (.ref b102), .val .null, .val (.ref b139), .val (.int (if ¬ (P0 = (0 : Int64)) ∧ (¬ (P0 < (0 : Int64))) then (1 : Int32) else (0 : Int32))), .unset] [(.long P0)])) _
        refine XS.lloadN X147.here hx rfl (hb hby at_95) rfl ?_
        show Steps p.tables e below (T147.setTop (mkF m 96 #[.val (.long P0), .second, .val (.int P1), .val (.int P2), .val (.int (if ¬ ((P1 &&& (1 : Int32)) = (0 : Int32)) then (1 : Int32) else (0 : Int32))), .val (.ref b102), .val .null, .val (.ref b139), .val (.int (if ¬ (P0 = (0 : Int64)) ∧ (¬ (P0 < (0 : Int64))) then (1 : Int32) else (0 : Int32))), .unset] [(.long P0), (.long P0)])) _
        refine XS.lcmp X147.here hx rfl (hb hby at_96) rfl ?_
        show Steps p.tables e below (T147.setTop (mkF m 97 #[.val (.long P0), .second, .val (.int P1), .val (.int P2), .val (.int (if ¬ ((P1 &&& (1 : Int32)) = (0 : Int32)) then (1 : Int32) else (0 : Int32))), .val (.ref b102), .val .null, .val (.ref b139), .val (.int (if ¬ (P0 = (0 : Int64)) ∧ (¬ (P0 < (0 : Int64))) then (1 : Int32) else (0 : Int32))), .unset] [(.int (lcmpW P0 P0))])) _
        refine XS.ifYes X147.here hx rfl (pc0 := 97) (pc' := 102) rfl (hb hby at_97) rfl ((if0 _ _).trans (teq ((lw_eq P0 P0).mpr (show P0 = P0 from rfl))).1) (by decide) (by decide) ?_
        show Steps p.tables e below (T147.setTop (mkF m 102 #[.val (.long P0), .second, .val (.int P1), .val (.int P2), .val (.int (if ¬ ((P1 &&& (1 : Int32)) = (0 : Int32)) then (1 : Int32) else (0 : Int32))), .val (.ref b102), .val .null, .val (.ref b139), .val (.int (if ¬ (P0 = (0 : Int64)) ∧ (¬ (P0 < (0 : Int64))) then (1 : Int32) else (0 : Int32))), .unset] [])) _
        refine XS.aload X147.here hx rfl (hb hby at_102) rfl rfl ?_
        show Steps p.tables e below (T147.setTop (mkF m 104 #[.val (.long P0), .second, .val (.int P1), .val (.int P2), .val (.int (if ¬ ((P1 &&& (1 : Int32)) = (0 : Int32)) then (1 : Int32) else (0 : Int32))), .val (.ref b102), .val .null, .val (.ref b139), .val (.int (if ¬ (P0 = (0 : Int64)) ∧ (¬ (P0 < (0 : Int64))) then (1 : Int32) else (0 : Int32))), .unset] [(.ref b139)])) _
        refine st148.trans ?_
        show Steps p.tables e below (T148.setTop (mkF m 107 #[.val (.long P0), .second, .val (.int P1), .val (.int P2), .val (.int (if ¬ ((P1 &&& (1 : Int32)) = (0 : Int32)) then (1 : Int32) else (0 : Int32))), .val (.ref b102), .val .null, .val (.ref b139), .val (.int (if ¬ (P0 = (0 : Int64)) ∧ (¬ (P0 < (0 : Int64))) then (1 : Int32) else (0 : Int32))), .unset] [(.int (if (0 : Int64) < P0 then (1 : Int32) else (0 : Int32)))])) _
        refine XS.iload X148.here hx rfl (hb hby at_107) rfl ?_
        show Steps p.tables e below (T148.setTop (mkF m 109 #[.val (.long P0), .second, .val (.int P1), .val (.int P2), .val (.int (if ¬ ((P1 &&& (1 : Int32)) = (0 : Int32)) then (1 : Int32) else (0 : Int32))), .val (.ref b102), .val .null, .val (.ref b139), .val (.int (if ¬ (P0 = (0 : Int64)) ∧ (¬ (P0 < (0 : Int64))) then (1 : Int32) else (0 : Int32))), .unset] [(.int (if ¬ (P0 = (0 : Int64)) ∧ (¬ (P0 < (0 : Int64))) then (1 : Int32) else (0 : Int32))), (.int (if (0 : Int64) < P0 then (1 : Int32) else (0 : Int32)))])) _
        refine XS.icmpYes X148.here hx rfl (pc0 := 109) (pc' := 114) rfl (hb hby at_109) rfl (teq (show (if (0 : Int64) < P0 then (1 : Int32) else (0 : Int32)) = (if ¬ (P0 = (0 : Int64)) ∧ (¬ (P0 < (0 : Int64))) then (1 : Int32) else (0 : Int32)) from (own_g1 _))).1 (by decide) (by decide) ?_
        show Steps p.tables e below (T148.setTop (mkF m 114 #[.val (.long P0), .second, .val (.int P1), .val (.int P2), .val (.int (if ¬ ((P1 &&& (1 : Int32)) = (0 : Int32)) then (1 : Int32) else (0 : Int32))), .val (.ref b102), .val .null, .val (.ref b139), .val (.int (if ¬ (P0 = (0 : Int64)) ∧ (¬ (P0 < (0 : Int64))) then (1 : Int32) else (0 : Int32))), .unset] [])) _
        refine XS.aload X148.here hx rfl (hb hby at_114) rfl rfl ?_
        show Steps p.tables e below (T148.setTop (mkF m 116 #[.val (.long P0), .second, .val (.int P1), .val (.int P2), .val (.int (if ¬ ((P1 &&& (1 : Int32)) = (0 : Int32)) then (1 : Int32) else (0 : Int32))), .val (.ref b102), .val .null, .val (.ref b139), .val (.int (if ¬ (P0 = (0 : Int64)) ∧ (¬ (P0 < (0 : Int64))) then (1 : Int32) else (0 : Int32))), .unset] [(.ref b139)])) _
        refine st149.trans ?_
        show Steps p.tables e below (T149.setTop (mkF m 119 #[.val (.long P0), .second, .val (.int P1), .val (.int P2), .val (.int (if ¬ ((P1 &&& (1 : Int32)) = (0 : Int32)) then (1 : Int32) else (0 : Int32))), .val (.ref b102), .val .null, .val (.ref b139), .val (.int (if ¬ (P0 = (0 : Int64)) ∧ (¬ (P0 < (0 : Int64))) then (1 : Int32) else (0 : Int32))), .unset] [(.int (if (0 : Int64) < P0 then (1 : Int32) else (0 : Int32)))])) _
        refine XS.aload X149.here hx rfl (hb hby at_119) rfl rfl ?_
        show Steps p.tables e below (T149.setTop (mkF m 121 #[.val (.long P0), .second, .val (.int P1), .val (.int P2), .val (.int (if ¬ ((P1 &&& (1 : Int32)) = (0 : Int32)) then (1 : Int32) else (0 : Int32))), .val (.ref b102), .val .null, .val (.ref b139), .val (.int (if ¬ (P0 = (0 : Int64)) ∧ (¬ (P0 < (0 : Int64))) then (1 : Int32) else (0 : Int32))), .unset] [(.ref b139), (.int (if (0 : Int64) < P0 then (1 : Int32) else (0 : Int32)))])) _
        refine st150.trans ?_
        show Steps p.tables e below (T150.setTop (mkF m 124 #[.val (.long P0), .second, .val (.int P1), .val (.int P2), .val (.int (if ¬ ((P1 &&& (1 : Int32)) = (0 : Int32)) then (1 : Int32) else (0 : Int32))), .val (.ref b102), .val .null, .val (.ref b139), .val (.int (if ¬ (P0 = (0 : Int64)) ∧ (¬ (P0 < (0 : Int64))) then (1 : Int32) else (0 : Int32))), .unset] [(.long P0), (.int (if (0 : Int64) < P0 then (1 : Int32) else (0 : Int32)))])) _
        refine XS.lconst X150.here hx rfl (hb hby at_124) ?_
        show Steps p.tables e below (T150.setTop (mkF m 125 #[.val (.long P0), .second, .val (.int P1), .val (.int P2), .val (.int (if ¬ ((P1 &&& (1 : Int32)) = (0 : Int32)) then (1 : Int32) else (0 : Int32))), .val (.ref b102), .val .null, .val (.ref b139), .val (.int (if ¬ (P0 = (0 : Int64)) ∧ (¬ (P0 < (0 : Int64))) then (1 : Int32) else (0 : Int32))), .unset] [(.long (1 : Int64)), (.long P0), (.int (if (0 : Int64) < P0 then (1 : Int32) else (0 : Int32)))])) _
        refine XS.lcmp X150.here hx rfl (hb hby at_125) rfl ?_
        show Steps p.tables e below (T150.setTop (mkF m 126 #[.val (.long P0), .second, .val (.int P1), .val (.int P2), .val (.int (if ¬ ((P1 &&& (1 : Int32)) = (0 : Int32)) then (1 : Int32) else (0 : Int32))), .val (.ref b102), .val .null, .val (.ref b139), .val (.int (if ¬ (P0 = (0 : Int64)) ∧ (¬ (P0 < (0 : Int64))) then (1 : Int32) else (0 : Int32))), .unset] [(.int (lcmpW P0 (1 : Int64))), (.int (if (0 : Int64) < P0 then (1 : Int32) else (0 : Int32)))])) _
        by_cases hm126 : P0 < (1 : Int64)
        · refine XS.ifYes X150.here hx rfl (pc0 := 126) (pc' := 133) rfl (hb hby at_126) rfl ((if0 _ _).trans (tlt ((lw_lt P0 (1 : Int64)).mpr hm126)).1) (by decide) (by decide) ?_
          show Steps p.tables e below (T150.setTop (mkF m 133 #[.val (.long P0), .second, .val (.int P1), .val (.int P2), .val (.int (if ¬ ((P1 &&& (1 : Int32)) = (0 : Int32)) then (1 : Int32) else (0 : Int32))), .val (.ref b102), .val .null, .val (.ref b139), .val (.int (if ¬ (P0 = (0 : Int64)) ∧ (¬ (P0 < (0 : Int64))) then (1 : Int32) else (0 : Int32))), .unset] [(.int (if (0 : Int64) < P0 then (1 : Int32) else (0 : Int32)))])) _
          refine XS.iconst X150.here hx rfl (hb hby at_133) ?_
          rw [show (if ¬ (P0 < (1 : Int64)) then (1 : Int32) else (0 : Int32)) = (0 : Int32) from by simp [hm126]] at kt
          exact kt
        · refine XS.ifNo X150.here hx rfl (hb hby at_126) rfl ((if0 _ _).trans (flt (fun q => hm126 ((lw_lt P0 (1 : Int64)).mp q))).1) ?_
          show Steps p.tables e below (T150.setTop (mkF m 129 #[.val (.long P0), .second, .val (.int P1), .val (.int P2), .val (.int (if ¬ ((P1 &&& (1 : Int32)) = (0 : Int32)) then (1 : Int32) else (0 : Int32))), .val (.ref b102), .val .null, .val (.ref b139), .val (.int (if ¬ (P0 = (0 : Int64)) ∧ (¬ (P0 < (0 : Int64))) then (1 : Int32) else (0 : Int32))), .unset] [(.int (if (0 : Int64) < P0 then (1 : Int32) else (0 : Int32)))])) _
          refine XS.iconst X150.here hx rfl (hb hby at_129) ?_
          show Steps p.tables e below (T150.setTop (mkF m 130 #[.val (.long P0), .second, .val (.int P1), .val (.int P2), .val (.int (if ¬ ((P1 &&& (1 : Int32)) = (0 : Int32)) then (1 : Int32) else (0 : Int32))), .val (.ref b102), .val .null, .val (.ref b139), .val (.int (if ¬ (P0 = (0 : Int64)) ∧ (¬ (P0 < (0 : Int64))) then (1 : Int32) else (0 : Int32))), .unset] [(.int (1 : Int32)), (.int (if (0 : Int64) < P0 then (1 : Int32) else (0 : Int32)))])) _
          refine XS.goto X150.here hx rfl (pc0 := 130) (pc' := 134) rfl (hb hby at_130) (by decide) (by decide) ?_
          rw [show (if ¬ (P0 < (1 : Int64)) then (1 : Int32) else (0 : Int32)) = (1 : Int32) from by simp [hm126]] at kt
          exact kt)
    obtain ⟨_, _, ⟨T152, L152, k152, n152⟩, -, X152, ⟨Lc152, hQ152, l152, y152, z152⟩, st152⟩ := Jvm.LawKit.callS X150 hx (y := (⟨"com/example/holdfast/holdfast/Offer", "alone", "(J)Lcom/example/holdfast/holdfast/Offer;"⟩ : MethodName)) hown (mvT hZ (hw _ (List.mem_of_getElem? (i := 26) rfl))) (mvT hZ (hw _ (List.mem_of_getElem? (i := 27) rfl))) (mvT hZ (hw _ (List.mem_of_getElem? (i := 3) rfl))) (mvT hZ (hw _ (List.mem_of_getElem? (i := 28) rfl))) (by decide) (backOf (W := 0) (rm5 l Z a0 hw [] P0 T144.heap n0 Z145 ) hZ (hw _ (List.mem_of_getElem? (i := 28) rfl)) (hw _ (List.mem_of_getElem? (i := 3) rfl)) (by decide) (by decide)) (g := (mkF m 140 #[.val (.long P0), .second, .val (.int P1), .val (.int P2), .val (.int (if ¬ ((P1 &&& (1 : Int32)) = (0 : Int32)) then (1 : Int32) else (0 : Int32))), .val (.ref b102), .val .null, .val (.ref b139), .val (.int (if ¬ (P0 = (0 : Int64)) ∧ (¬ (P0 < (0 : Int64))) then (1 : Int32) else (0 : Int32))), .unset] [(.long P0)])) rfl (by rw [hml]; rfl) (argsL := [(.long P0)]) (rest := []) (lenOf pd_0_4 rfl) rfl (by show 2 * 0 + _ ≤ _; exact Nat.le_of_eq rfl) (hb hby at_140) (fun _ _ => ⟨rfl, K150, (by decide : 2 + 1 ≤ _), (by decide : 4 + 3 ≤ _)⟩)
    dsimp only [Pt.U, Pt.locs, Pt.cells, Pt.slots] at X152 l152 y152 z152 st152 hQ152
    subst l152 y152 z152
    obtain ⟨x152_R0, rfl, N152q, K152, lb152_0, p152_0, p152_1⟩ := hQ152
    have N152 := Fr.app N150 N152q
    have c154 : Exa Z T144.heap b102 "[C" := ((c141.ext E139).keep K144)
    have ne153 : b102 ≠ x152_R0 := Nat.ne_of_lt (Nat.lt_of_lt_of_le c154.lt lb152_0)
    have ne155 : b139 ≠ x152_R0 := Nat.ne_of_lt (Nat.lt_of_lt_of_le p144_0.lt lb152_0)
    have g_x152_R0 : n0 ≤ x152_R0 := Nat.le_trans Z145 lb152_0
    have Z156 : n0 ≤ T152.heap.size := Nat.le_trans Z145 K152.1
    have ss152_0 : Sta Z T152.heap "java/lang/String" "COMPACT_STRINGS" "Z" (.int U0) := own_sta_keep ss144_0 K152 all0
    obtain ⟨cq157, kq157, q157a, q157b, q157c⟩ := isOf hZ rfl p152_0
    obtain ⟨_, _, ⟨T157, L157, k157, n157⟩, -, X157, ⟨Lc157, hQ157, l157, y157, z157⟩, st157⟩ := X152.virtualBack hx (y := (⟨"com/example/holdfast/holdfast/Offer", "granted", "()Z"⟩ : MethodName)) (z := (⟨"com/example/holdfast/holdfast/Offer", "granted", "()Z"⟩ : MethodName)) hown (mvT hZ (hw _ (List.mem_of_getElem? (i := 21) rfl))) (mvT hZ (hw _ (List.mem_of_getElem? (i := 22) rfl))) (notFace_of_selects (args := #[]) (mvT hZ (hw _ (List.mem_of_getElem? (i := 24) rfl)))) (mvT hZ (hw _ (List.mem_of_getElem? (i := 24) rfl))) (mvT hZ (hw _ (List.mem_of_getElem? (i := 23) rfl))) (by decide) (backOf (W := 0) (rm4 l Z a0 hw [] x152_R0 P0 T152.heap n0 Z156 p152_1) hZ (hw _ (List.mem_of_getElem? (i := 25) rfl)) (hw _ (List.mem_of_getElem? (i := 3) rfl)) (by decide) (by decide)) q157a q157c (g := (mkF m 147 #[.val (.long P0), .second, .val (.int P1), .val (.int P2), .val (.int (if ¬ ((P1 &&& (1 : Int32)) = (0 : Int32)) then (1 : Int32) else (0 : Int32))), .val (.ref b102), .val .null, .val (.ref b139), .val (.int (if ¬ (P0 = (0 : Int64)) ∧ (¬ (P0 < (0 : Int64))) then (1 : Int32) else (0 : Int32))), .val (.ref x152_R0)] [(.ref x152_R0)])) rfl (by rw [hml]; rfl) (Steps.refl _) (argsL := []) (rest := []) (lenOf pd_0_3 rfl) rfl (by show 2 * 0 + _ ≤ _; exact Nat.le_of_eq rfl) (hb hby at_147) (fun _ _ => ⟨rfl, rfl, (by decide : 3 + 0 ≤ _), (by decide : 7 + 0 ≤ _)⟩)
    dsimp only [Pt.U, Pt.locs, Pt.cells, Pt.slots] at X157 l157 y157 z157 st157 hQ157
    subst l157 y157 z157
    obtain ⟨rfl, N157q, K157⟩ := hQ157
    have N157 := Fr.app N152 N157q
    have pre158 : ∀ t, Steps p.tables e below (T157.setTop (mkF m 160 #[.val (.long P0), .second, .val (.int P1), .val (.int P2), .val (.int (if ¬ ((P1 &&& (1 : Int32)) = (0 : Int32)) then (1 : Int32) else (0 : Int32))), .val (.ref b102), .val .null, .val (.ref b139), .val (.int (if ¬ (P0 = (0 : Int64)) ∧ (¬ (P0 < (0 : Int64))) then (1 : Int32) else (0 : Int32))), .val (.ref x152_R0)] [(.int (1 : Int32))])) t → Steps p.tables e below (s₁.setTop (entryFrame m #[(.long P0), (.int P1), (.int P2)] maxLocals)) t := fun t kt => pre151 t (by
        show Steps p.tables e below (T150.setTop (mkF m 134 #[.val (.long P0), .second, .val (.int P1), .val (.int P2), .val (.int (if ¬ ((P1 &&& (1 : Int32)) = (0 : Int32)) then (1 : Int32) else (0 : Int32))), .val (.ref b102), .val .null, .val (.ref b139), .val (.int (if ¬ (P0 = (0 : Int64)) ∧ (¬ (P0 < (0 : Int64))) then (1 : Int32) else (0 : Int32))), .unset] [(.int (if ¬ (P0 < (1 : Int64)) then (1 : Int32) else (0 : Int32))), (.int (if (0 : Int64) < P0 then (1 : Int32) else (0 : Int32)))])) _
        refine XS.icmpYes X150.here hx rfl (pc0 := 134) (pc' := 139) rfl (hb hby at_134) rfl (teq (show (if (0 : Int64) < P0 then (1 : Int32) else (0 : Int32)) = (if ¬ (P0 < (1 : Int64)) then (1 : Int32) else (0 : Int32)) from (own_g2 _))).1 (by decide) (by decide) ?_
        show Steps p.tables e below (T150.setTop (mkF m 139 #[.val (.long P0), .second, .val (.int P1), .val (.int P2), .val (.int (if ¬ ((P1 &&& (1 : Int32)) = (0 : Int32)) then (1 : Int32) else (0 : Int32))), .val (.ref b102), .val .null, .val (.ref b139), .val (.int (if ¬ (P0 = (0 : Int64)) ∧ (¬ (P0 < (0 : Int64))) then (1 : Int32) else (0 : Int32))), .unset] [])) _
        refine XS.lloadN X150.here hx rfl (hb hby at_139) rfl ?_
        show Steps p.tables e below (T150.setTop (mkF m 140 #[.val (.long P0), .second, .val (.int P1), .val (.int P2), .val (.int (if ¬ ((P1 &&& (1 : Int32)) = (0 : Int32)) then (1 : Int32) else (0 : Int32))), .val (.ref b102), .val .null, .val (.ref b139), .val (.int (if ¬ (P0 = (0 : Int64)) ∧ (¬ (P0 < (0 : Int64))) then (1 : Int32) else (0 : Int32))), .unset] [(.long P0)])) _
        refine st152 _ ?_
        show Steps p.tables e below (T152.setTop (mkF m 143 #[.val (.long P0), .second, .val (.int P1), .val (.int P2), .val (.int (if ¬ ((P1 &&& (1 : Int32)) = (0 : Int32)) then (1 : Int32) else (0 : Int32))), .val (.ref b102), .val .null, .val (.ref b139), .val (.int (if ¬ (P0 = (0 : Int64)) ∧ (¬ (P0 < (0 : Int64))) then (1 : Int32) else (0 : Int32))), .unset] [(.ref x152_R0)])) _
        refine XS.astore X152.here hx rfl (hb hby at_143) rfl rfl (l' := #[.val (.long P0), .second, .val (.int P1), .val (.int P2), .val (.int (if ¬ ((P1 &&& (1 : Int32)) = (0 : Int32)) then (1 : Int32) else (0 : Int32))), .val (.ref b102), .val .null, .val (.ref b139), .val (.int (if ¬ (P0 = (0 : Int64)) ∧ (¬ (P0 < (0 : Int64))) then (1 : Int32) else (0 : Int32))), .val (.ref x152_R0)]) rfl ?_
        show Steps p.tables e below (T152.setTop (mkF m 145 #[.val (.long P0), .second, .val (.int P1), .val (.int P2), .val (.int (if ¬ ((P1 &&& (1 : Int32)) = (0 : Int32)) then (1 : Int32) else (0 : Int32))), .val (.ref b102), .val .null, .val (.ref b139), .val (.int (if ¬ (P0 = (0 : Int64)) ∧ (¬ (P0 < (0 : Int64))) then (1 : Int32) else (0 : Int32))), .val (.ref x152_R0)] [])) _
        refine XS.aload X152.here hx rfl (hb hby at_145) rfl rfl ?_
        show Steps p.tables e below (T152.setTop (mkF m 147 #[.val (.long P0), .second, .val (.int P1), .val (.int P2), .val (.int (if ¬ ((P1 &&& (1 : Int32)) = (0 : Int32)) then (1 : Int32) else (0 : Int32))), .val (.ref b102), .val .null, .val (.ref b139), .val (.int (if ¬ (P0 = (0 : Int64)) ∧ (¬ (P0 < (0 : Int64))) then (1 : Int32) else (0 : Int32))), .val (.ref x152_R0)] [(.ref x152_R0)])) _
        refine st157.trans ?_
        show Steps p.tables e below (T157.setTop (mkF m 150 #[.val (.long P0), .second, .val (.int P1), .val (.int P2), .val (.int (if ¬ ((P1 &&& (1 : Int32)) = (0 : Int32)) then (1 : Int32) else (0 : Int32))), .val (.ref b102), .val .null, .val (.ref b139), .val (.int (if ¬ (P0 = (0 : Int64)) ∧ (¬ (P0 < (0 : Int64))) then (1 : Int32) else (0 : Int32))), .val (.ref x152_R0)] [(.int (if (0 : Int64) < P0 then (1 : Int32) else (0 : Int32)))])) _
        refine XS.iload X157.here hx rfl (hb hby at_150) rfl ?_
        show Steps p.tables e below (T157.setTop (mkF m 152 #[.val (.long P0), .second, .val (.int P1), .val (.int P2), .val (.int (if ¬ ((P1 &&& (1 : Int32)) = (0 : Int32)) then (1 : Int32) else (0 : Int32))), .val (.ref b102), .val .null, .val (.ref b139), .val (.int (if ¬ (P0 = (0 : Int64)) ∧ (¬ (P0 < (0 : Int64))) then (1 : Int32) else (0 : Int32))), .val (.ref x152_R0)] [(.int (if ¬ (P0 = (0 : Int64)) ∧ (¬ (P0 < (0 : Int64))) then (1 : Int32) else (0 : Int32))), (.int (if (0 : Int64) < P0 then (1 : Int32) else (0 : Int32)))])) _
        refine XS.icmpNo X157.here hx rfl (hb hby at_152) rfl (teq (show (if (0 : Int64) < P0 then (1 : Int32) else (0 : Int32)) = (if ¬ (P0 = (0 : Int64)) ∧ (¬ (P0 < (0 : Int64))) then (1 : Int32) else (0 : Int32)) from (own_g1 _))).2 ?_
        show Steps p.tables e below (T157.setTop (mkF m 155 #[.val (.long P0), .second, .val (.int P1), .val (.int P2), .val (.int (if ¬ ((P1 &&& (1 : Int32)) = (0 : Int32)) then (1 : Int32) else (0 : Int32))), .val (.ref b102), .val .null, .val (.ref b139), .val (.int (if ¬ (P0 = (0 : Int64)) ∧ (¬ (P0 < (0 : Int64))) then (1 : Int32) else (0 : Int32))), .val (.ref x152_R0)] [])) _
        refine XS.iconst X157.here hx rfl (hb hby at_155) ?_
        show Steps p.tables e below (T157.setTop (mkF m 156 #[.val (.long P0), .second, .val (.int P1), .val (.int P2), .val (.int (if ¬ ((P1 &&& (1 : Int32)) = (0 : Int32)) then (1 : Int32) else (0 : Int32))), .val (.ref b102), .val .null, .val (.ref b139), .val (.int (if ¬ (P0 = (0 : Int64)) ∧ (¬ (P0 < (0 : Int64))) then (1 : Int32) else (0 : Int32))), .val (.ref x152_R0)] [(.int (1 : Int32))])) _
        refine XS.goto X157.here hx rfl (pc0 := 156) (pc' := 160) rfl (hb hby at_156) (by decide) (by decide) ?_
        exact kt)
    obtain ⟨fs, hr, hrun, hended, hW, hsame⟩ := X157.leave (v := some (.int (1 : Int32))) (fun h => by rw [Bd.returns] at h; cases h)
    refine ⟨_, _, pre158 _ ?_, hrun, hended, _, _, rfl, ?_, ⟨_, rfl⟩, hW, hsame.mono (by decide) (by decide)⟩
    · show Steps p.tables e below (T157.setTop (mkF m 160 #[.val (.long P0), .second, .val (.int P1), .val (.int P2), .val (.int (if ¬ ((P1 &&& (1 : Int32)) = (0 : Int32)) then (1 : Int32) else (0 : Int32))), .val (.ref b102), .val .null, .val (.ref b139), .val (.int (if ¬ (P0 = (0 : Int64)) ∧ (¬ (P0 < (0 : Int64))) then (1 : Int32) else (0 : Int32))), .val (.ref x152_R0)] [(.int (1 : Int32))])) _
      exact retN X157 hx (t := .boolean) Bd.returns (by simp) (hb hby at_160) hr
    · show Q0 Z P0 P1 P2 U0 h0 n0 _ T157.heap _
      rw [K157]
      exact ⟨rfl, N157⟩
set_option maxRecDepth 65536 in
set_option maxHeartbeats 40000000 in
theorem comes_1 {Post : Tables → Env → Array Value → State → Outcome → State → Prop} (hpost : ∀ tb e args s v u, (limb_1_1.after args s (.returned v) u = true ∧ limb_1_2.after args s (.returned v) u = true ∧ True) → FrameEnd s (.returned v) u (Jvm.fieldLocs frame_1_writes args s ++ Jvm.arrayLocs frame_1_arrays args s ++ Jvm.staticLocs frame_1_statics s) 24 128 → Post tb e args s (.returned v) u) :
    ArmFor flags0 classFile x code maxLocals ret World_1 tables_1 room_1 Calls_1 rest_1 Pre_1 Post := by
  intro l hfl _ _ p e ha hc hk s m args below hf hA hF happ hP
  obtain ⟨hcalls, hrest, hpre⟩ := hP
  obtain ⟨-, -, -, hnamed, -, -, -, hat⟩ := (Spec.applies_iff hf).mp happ
  obtain ⟨hg, hn⟩ := and_e (Cond.before_iff.mp (show (Jvm.Cond.and given_1 narrow_1).before args s = true from hpre))
  obtain ⟨gv1, gv2⟩ := and_e hg
  obtain ⟨gv3, gv4⟩ := and_e gv2
  obtain ⟨gv5, gv6⟩ := and_e gv4
  obtain ⟨w0, w1, w2, rfl⟩ : ∃ w0 w1 w2 : Value, args = #[w0, w1, w2] := by
    have hs : args.size = 3 := by simpa [Cond.value, given_1] using gv1
    obtain ⟨L⟩ := args
    match L, hs with
    | [w0, w1, w2], _ => exact ⟨w0, w1, w2, rfl⟩
  have hw := fun d (hd : d ∈ tables_1) => atoms_spec (ws := Jvm.Cond.code x code maxLocals ret :: tables_1) hat d (List.mem_cons_of_mem _ hd)
  have hfit : Fit s := fun {y c} hc i hi => by
    obtain ⟨ha, rfl⟩ := Array.getElem?_eq_some_iff.mp hc
    have q := List.all_eq_true.mp ((Array.all_eq_true_iff_forall_mem.mp hF) _ (Array.getElem_mem ha)) i (List.mem_range.mpr hi)
    simpa [Array.getElem?_eq_getElem hi] using q
  obtain ⟨hsets, hown0⟩ := atoms_of _ (rest_1_c_eq ▸ (show rest_1_c.before _ s = true from hrest))
  have hr0 := Cond.before_iff.mp hown0
  obtain ⟨i0, ei0⟩ := isL_v gv3
  obtain rfl : w0 = (.long i0) := Option.some.inj ei0
  obtain ⟨i1, ei1⟩ := is_v gv5
  obtain rfl : w1 = (.int i1) := Option.some.inj ei1
  obtain ⟨i2, ei2⟩ := is_v gv6
  obtain rfl : w2 = (.int i2) := Option.some.inj ei2
  obtain ⟨u0, ev0⟩ := is_v (Cond.before_iff.mp (hsets _ (List.mem_of_getElem? (i := 1) rfl)))
  have hu0 : ¬ (u0 = (0 : Int32)) := by
    have q := Cond.before_iff.mp (hsets _ (List.mem_of_getElem? (i := 2) rfl))
    have q2 := not_v q
    intro e0
    rw [e0] at ev0
    simp only [Cond.value, ev0, Term.int_eval] at q2
    simp at q2
  obtain ⟨n, o, h1, h2, h3, _, L, rfl, ⟨rfl, N⟩, hq⟩ := rm0 l s _ hw tables_1 i0 i1 i2 u0 s.heap s.heap.size (Nat.le_refl _) (Sta.start ev0 (Or.inl (hsets _ (List.mem_of_getElem? (i := 0) rfl)))) hu0 p e ha hc hk s m _ below hf ((Spec.applies_iff_loose hf).mp happ).1 ⟨rfl, State.Warmed39.refl s, rfl⟩ trivial
  refine ⟨n, _, h1, h2, h3, hpost _ _ _ _ _ _ ⟨Cond.after_iff.mpr rfl, Cond.after_iff.mpr (eq_i res_at (Term.int_eval (1)) rfl), trivial⟩ ⟨hq.1, hq.2.1, (hq.2.2.sift fun y hy => Or.inr (N y hy)).mono (by decide) (by decide)⟩⟩
theorem main_1_1 : Claimed_1_1 := comes_1 fun _ _ _ _ _ _ h hF => ⟨h.1, hF⟩
theorem main_1_2 : Claimed_1_2 := comes_1 fun _ _ _ _ _ _ h hF => ⟨h.2.1, hF⟩
end Jvm.Pilot.@@N@@
namespace Jvm.Pilot.@@N@@
open Jvm Jvm.ClassFile Sem Op Lib Jvm.Free Jvm.Stand Jvm.Pilot.@@N@@.Jvm.D
/-! MADE BY PROGRAM (witnessworld.py) out of the Statement's table words and the real class files: 20 classes; the members and pool entries that the words name. The judged class is class 1, her method 1. -/
namespace start1
open Jvm.ClassFile
def u (s : String) : CpInfo := .utf8 (stringToUtf16 s)
/-- a pool by its gaps: so many unusable entries, then the entry; so many at the end -/
def gap : Nat → List CpInfo → List CpInfo
  | 0, r => r
  | n + 1, r => .unusable :: gap n r
def poolList (es : List (Nat × CpInfo)) (last : Nat) : List CpInfo := es.foldr (fun e r => gap e.1 (e.2 :: r)) (gap last [])
def pool (es : List (Nat × CpInfo)) (last : Nat) : Array CpInfo := ⟨poolList es last⟩
def fileOf (pool : Array CpInfo) (this : Nat) (attrs : Array Attribute := #[]) (ms : Array MethodInfo := #[]) (fl : Nat := 33) (sup : Nat := 0) (ifs : Array Nat := #[]) (fds : Array FieldInfo := #[]) : ClassFile where
  minorVersion := 0
  majorVersion := 65
  constantPool := pool
  accessFlags := fl
  thisClass := this
  superClass := sup
  interfaces := ifs
  fields := fds
  methods := ms
  attributes := attrs
def plain (name : String) (sup : Option ClassId) : Class where
  name := name
  kind := .ordinary
  loader := none
  accessFlags := 33
  super := sup
  interfaces := #[]
  cf := none
  fields := #[]
  methods := #[]
  instanceTypes := #[]
  staticTypes := #[]
  resolved := #[]
  callSites := []
  init := .initialized
  statics := none
  mirror := none

def pool0 : Array CpInfo := pool [(5, u "<init>"), (0, u "()V"), (1, .class_ 10), (1, u "java/lang/Object")] 113

def k0c0 : Code := { maxStack := 0, maxLocals := 1, code := object_method_1_code, exceptionTable := #[], attributes := #[] }
def k0m0 : Method := { name := "<init>", desc := "()V", sig := { parameters := [], returnType := none }, accessFlags := 1, code := some k0c0 }
/-- java/lang/Object -/
def k0 : Class := { plain "java/lang/Object" none with
  accessFlags := 33
  interfaces := #[]
  cf := some (fileOf pool0 8 #[] #[{ accessFlags := 1, nameIndex := 5, descriptorIndex := 6, attributes := #[] }] 33 0 #[] #[])
  fields := #[]
  methods := #[k0m0]
  instanceTypes := #[]
  staticTypes := #[]
  resolved := Array.replicate 124 none
  statics := none }

def pool1 : Array CpInfo := pool [(2, .class_ 4), (1, u "java/lang/Object"), (0, u "<init>"), (0, u "()V"), (0, .class_ 8), (0, u "java/lang/String"), (0, .methodref 7 10), (0, .nameAndType 5 11), (0, u "([C)V"), (0, .class_ 13), (0, u "com/example/holdfast/holdfast/Offer"), (0, .methodref 12 15), (0, .nameAndType 5 16), (0, u "(JZLjava/lang/String;)V"), (0, .methodref 12 18), (0, .nameAndType 19 20), (0, u "token"), (0, u "()J"), (0, .methodref 12 22), (0, .nameAndType 23 24), (0, u "granted"), (0, u "()Z"), (0, .methodref 12 26), (0, .nameAndType 27 28), (0, u "alone"), (0, u "(J)Lcom/example/holdfast/holdfast/Offer;"), (0, .class_ 30), (0, u "com/example/holdfast/holdfast/OfferGrantedPinLaw"), (2, u "law"), (0, u "(JII)Z")] 5

def k1m0 : Method := { name := "<init>", desc := "()V", sig := { parameters := [], returnType := none }, accessFlags := 1, code := none }
def k1c1 : Code := { maxStack := 6, maxLocals := 10, code := code, exceptionTable := #[], attributes := #[] }
def k1m1 : Method := { name := "law", desc := "(JII)Z", sig := { parameters := [.long, .int, .int], returnType := some .boolean }, accessFlags := 9, code := some k1c1 }
/-- com/example/holdfast/holdfast/OfferGrantedPinLaw -/
def k1 : Class := { plain "com/example/holdfast/holdfast/OfferGrantedPinLaw" (some 0) with
  accessFlags := 49
  interfaces := #[]
  cf := some (fileOf pool1 29 #[] #[{ accessFlags := 1, nameIndex := 5, descriptorIndex := 6, attributes := #[] }, { accessFlags := 9, nameIndex := 33, descriptorIndex := 34, attributes := #[] }] 49 2 #[] #[])
  fields := #[]
  methods := #[k1m0, k1m1]
  instanceTypes := #[]
  staticTypes := #[]
  resolved := Array.replicate 40 none
  statics := none }

def pool2 : Array CpInfo := pool [(1, .methodref 2 3), (0, .class_ 4), (0, .nameAndType 5 6), (0, u "java/lang/Object"), (0, u "<init>"), (0, u "()V"), (0, .fieldref 8 9), (0, .class_ 10), (0, .nameAndType 11 12), (0, u "com/example/holdfast/holdfast/Offer"), (0, u "token"), (0, u "J"), (0, .fieldref 8 14), (0, .nameAndType 15 16), (0, u "recent"), (0, u "Z"), (0, .fieldref 8 18), (0, .nameAndType 19 20), (0, u "run"), (0, u "Ljava/lang/String;"), (0, .methodref 8 22), (0, .nameAndType 5 23), (0, u "(JZLjava/lang/String;)V"), (2, u "alone"), (0, u "(J)Lcom/example/holdfast/holdfast/Offer;"), (0, u "()J"), (0, u "granted"), (0, u "()Z")] 4

def k2c0 : Code := { maxStack := 3, maxLocals := 5, code := prog_10_method_1_code, exceptionTable := #[], attributes := #[] }
def k2m0 : Method := { name := "<init>", desc := "(JZLjava/lang/String;)V", sig := { parameters := [.long, .boolean, (.object "java/lang/String")], returnType := none }, accessFlags := 0, code := some k2c0 }
def k2c1 : Code := { maxStack := 6, maxLocals := 2, code := prog_10_method_2_code, exceptionTable := #[], attributes := #[] }
def k2m1 : Method := { name := "alone", desc := "(J)Lcom/example/holdfast/holdfast/Offer;", sig := { parameters := [.long], returnType := some (.object "com/example/holdfast/holdfast/Offer") }, accessFlags := 8, code := some k2c1 }
def k2c2 : Code := { maxStack := 2, maxLocals := 1, code := prog_10_method_3_code, exceptionTable := #[], attributes := #[] }
def k2m2 : Method := { name := "token", desc := "()J", sig := { parameters := [], returnType := some .long }, accessFlags := 0, code := some k2c2 }
def k2c3 : Code := { maxStack := 4, maxLocals := 1, code := prog_10_method_4_code, exceptionTable := #[], attributes := #[] }
def k2m3 : Method := { name := "granted", desc := "()Z", sig := { parameters := [], returnType := some .boolean }, accessFlags := 0, code := some k2c3 }
/-- com/example/holdfast/holdfast/Offer -/
def k2 : Class := { plain "com/example/holdfast/holdfast/Offer" (some 0) with
  accessFlags := 48
  interfaces := #[]
  cf := some (fileOf pool2 8 #[] #[{ accessFlags := 0, nameIndex := 5, descriptorIndex := 23, attributes := #[] }, { accessFlags := 8, nameIndex := 26, descriptorIndex := 27, attributes := #[] }, { accessFlags := 0, nameIndex := 11, descriptorIndex := 28, attributes := #[] }, { accessFlags := 0, nameIndex := 29, descriptorIndex := 30, attributes := #[] }] 48 2 #[] #[{ accessFlags := 18, nameIndex := 11, descriptorIndex := 12, attributes := #[] }, { accessFlags := 18, nameIndex := 15, descriptorIndex := 16, attributes := #[] }, { accessFlags := 18, nameIndex := 19, descriptorIndex := 20, attributes := #[] }])
  fields := #[{ name := "token", type := .long, accessFlags := 18, slot := 0, constantValue := 0 }, { name := "recent", type := .boolean, accessFlags := 18, slot := 1, constantValue := 0 }, { name := "run", type := (.object "java/lang/String"), accessFlags := 18, slot := 2, constantValue := 0 }]
  methods := #[k2m0, k2m1, k2m2, k2m3]
  instanceTypes := #[.long, .boolean, (.object "java/lang/String")]
  staticTypes := #[]
  resolved := Array.replicate 35 none
  statics := none }

def pool3 : Array CpInfo := pool [(1, .class_ 2), (0, u "java/io/Serializable"), (0, .class_ 4), (0, u "java/lang/Object")] 2

/-- java/io/Serializable -/
def k3 : Class := { plain "java/io/Serializable" (some 0) with
  accessFlags := 1537
  interfaces := #[]
  cf := some (fileOf pool3 1 #[] #[] 1537 3 #[] #[])
  fields := #[]
  methods := #[]
  instanceTypes := #[]
  staticTypes := #[]
  resolved := Array.replicate 7 none
  statics := none }

def pool4 : Array CpInfo := pool [(1, .class_ 2), (0, u "java/lang/Comparable"), (0, .class_ 4), (0, u "java/lang/Object")] 7

/-- java/lang/Comparable -/
def k4 : Class := { plain "java/lang/Comparable" (some 0) with
  accessFlags := 1537
  interfaces := #[]
  cf := some (fileOf pool4 1 #[] #[] 1537 3 #[] #[])
  fields := #[]
  methods := #[]
  instanceTypes := #[]
  staticTypes := #[]
  resolved := Array.replicate 12 none
  statics := none }

def pool5 : Array CpInfo := pool [(2, .class_ 4), (1, u "java/lang/CharSequence"), (42, .class_ 48), (0, u "java/lang/CharSequence$1CodePointIterator"), (10, .class_ 60), (0, u "java/lang/CharSequence$1CharIterator"), (5, .class_ 67), (0, u "java/lang/Object")] 63

/-- java/lang/CharSequence -/
def k5 : Class := { plain "java/lang/CharSequence" (some 0) with
  accessFlags := 1537
  interfaces := #[]
  cf := some (fileOf pool5 2 #[.nestMembers #[47, 59]] #[] 1537 66 #[] #[])
  fields := #[]
  methods := #[]
  instanceTypes := #[]
  staticTypes := #[]
  resolved := Array.replicate 131 none
  statics := none }

def pool6 : Array CpInfo := pool [(1, .class_ 2), (0, u "java/lang/constant/Constable"), (0, .class_ 4), (0, u "java/lang/Object")] 6

/-- java/lang/constant/Constable -/
def k6 : Class := { plain "java/lang/constant/Constable" (some 0) with
  accessFlags := 1537
  interfaces := #[]
  cf := some (fileOf pool6 1 #[] #[] 1537 3 #[] #[])
  fields := #[]
  methods := #[]
  instanceTypes := #[]
  staticTypes := #[]
  resolved := Array.replicate 11 none
  statics := none }

def pool7 : Array CpInfo := pool [(1, .class_ 2), (0, u "java/lang/constant/ConstantDesc"), (0, .class_ 4), (0, u "java/lang/Object")] 32

/-- java/lang/constant/ConstantDesc -/
def k7 : Class := { plain "java/lang/constant/ConstantDesc" (some 0) with
  accessFlags := 1537
  interfaces := #[]
  cf := some (fileOf pool7 1 #[] #[] 1537 3 #[] #[])
  fields := #[]
  methods := #[]
  instanceTypes := #[]
  staticTypes := #[]
  resolved := Array.replicate 37 none
  statics := none }

def pool8 : Array CpInfo := pool [(1, .methodref 2 3), (0, .class_ 4), (0, .nameAndType 5 6), (0, u "java/lang/Object"), (0, u "<init>"), (0, u "()V"), (2, .fieldref 10 11), (0, .class_ 12), (0, .nameAndType 13 14), (0, u "java/lang/String"), (0, u "value"), (0, u "[B"), (0, .fieldref 10 16), (0, .nameAndType 17 18), (0, u "coder"), (0, u "B"), (2, u "hash"), (0, u "I"), (2, u "hashIsZero"), (0, u "Z"), (0, .methodref 10 28), (0, .nameAndType 5 29), (0, u "([CIILjava/lang/Void;)V"), (8, .fieldref 10 39), (0, .nameAndType 40 26), (0, u "COMPACT_STRINGS"), (1, .class_ 44), (1, u "java/lang/StringUTF16"), (0, u "compress"), (1, .methodref 42 48), (0, .nameAndType 49 50), (0, u "coderFromArrayLen"), (0, u "([BI)B"), (126, .methodref 42 178), (0, .nameAndType 45 179), (0, u "([CII)[B"), (395, .class_ 576), (0, u "java/lang/CharSequence"), (22, u "CASE_INSENSITIVE_ORDER"), (0, u "Ljava/util/Comparator;"), (409, u "([C)V"), (90, u "serialPersistentFields"), (0, u "[Ljava/io/ObjectStreamField;"), (0, .class_ 1104), (0, u "java/lang/String$CaseInsensitiveComparator"), (1, .class_ 1107), (0, u "java/io/Serializable"), (0, .class_ 1109), (0, u "java/lang/Comparable"), (0, .class_ 1111), (0, u "java/lang/constant/Constable"), (0, .class_ 1113), (0, u "java/lang/constant/ConstantDesc"), (2, u "serialVersionUID"), (0, u "J"), (3, u "REPL"), (0, u "C"), (2, u "LATIN1"), (1, u "UTF16")] 323

def k8m0 : Method := { name := "<init>", desc := "()V", sig := { parameters := [], returnType := none }, accessFlags := 1, code := none }
def k8c1 : Code := { maxStack := 5, maxLocals := 2, code := jdk_42_method_3_code, exceptionTable := #[], attributes := #[] }
def k8m1 : Method := { name := "<init>", desc := "([C)V", sig := { parameters := [(.array .char)], returnType := none }, accessFlags := 1, code := some k8c1 }
def k8c2 : Code := { maxStack := 4, maxLocals := 6, code := jdk_42_method_149_code, exceptionTable := #[], attributes := #[] }
def k8m2 : Method := { name := "<init>", desc := "([CIILjava/lang/Void;)V", sig := { parameters := [(.array .char), .int, .int, (.object "java/lang/Void")], returnType := none }, accessFlags := 2, code := some k8c2 }
/-- java/lang/String -/
def k8 : Class := { plain "java/lang/String" (some 0) with
  accessFlags := 49
  interfaces := #[3, 4, 5, 6, 7]
  cf := some (fileOf pool8 10 #[.nestMembers #[1103]] #[{ accessFlags := 1, nameIndex := 5, descriptorIndex := 6, attributes := #[] }, { accessFlags := 1, nameIndex := 5, descriptorIndex := 1010, attributes := #[] }, { accessFlags := 2, nameIndex := 5, descriptorIndex := 29, attributes := #[] }] 49 2 #[1106, 1108, 575, 1110, 1112] #[{ accessFlags := 18, nameIndex := 13, descriptorIndex := 14, attributes := #[] }, { accessFlags := 18, nameIndex := 17, descriptorIndex := 18, attributes := #[] }, { accessFlags := 2, nameIndex := 21, descriptorIndex := 22, attributes := #[] }, { accessFlags := 2, nameIndex := 25, descriptorIndex := 26, attributes := #[] }, { accessFlags := 26, nameIndex := 1116, descriptorIndex := 1117, attributes := #[] }, { accessFlags := 24, nameIndex := 40, descriptorIndex := 26, attributes := #[] }, { accessFlags := 26, nameIndex := 1101, descriptorIndex := 1102, attributes := #[] }, { accessFlags := 26, nameIndex := 1121, descriptorIndex := 1122, attributes := #[] }, { accessFlags := 25, nameIndex := 599, descriptorIndex := 600, attributes := #[] }, { accessFlags := 24, nameIndex := 1125, descriptorIndex := 18, attributes := #[] }, { accessFlags := 24, nameIndex := 1127, descriptorIndex := 18, attributes := #[] }])
  fields := #[{ name := "value", type := (.array .byte), accessFlags := 18, slot := 0, constantValue := 0 }, { name := "coder", type := .byte, accessFlags := 18, slot := 1, constantValue := 0 }, { name := "hash", type := .int, accessFlags := 2, slot := 2, constantValue := 0 }, { name := "hashIsZero", type := .boolean, accessFlags := 2, slot := 3, constantValue := 0 }, { name := "serialVersionUID", type := .long, accessFlags := 26, slot := 0, constantValue := 0 }, { name := "COMPACT_STRINGS", type := .boolean, accessFlags := 24, slot := 1, constantValue := 0 }, { name := "serialPersistentFields", type := (.array (.object "java/io/ObjectStreamField")), accessFlags := 26, slot := 2, constantValue := 0 }, { name := "REPL", type := .char, accessFlags := 26, slot := 3, constantValue := 0 }, { name := "CASE_INSENSITIVE_ORDER", type := (.object "java/util/Comparator"), accessFlags := 25, slot := 4, constantValue := 0 }, { name := "LATIN1", type := .byte, accessFlags := 24, slot := 5, constantValue := 0 }, { name := "UTF16", type := .byte, accessFlags := 24, slot := 6, constantValue := 0 }]
  methods := #[k8m0, k8m1, k8m2]
  instanceTypes := #[(.array .byte), .byte, .int, .boolean]
  staticTypes := #[.long, .boolean, (.array (.object "java/io/ObjectStreamField")), .char, (.object "java/util/Comparator"), .byte, .byte]
  resolved := Array.replicate 1451 none
  statics := some 0 }

def pool9 : Array CpInfo := pool [(6, .class_ 8), (1, u "java/lang/Object"), (0, u "<init>"), (0, u "()V"), (1, .class_ 14), (1, u "java/lang/StringUTF16"), (31, u "$assertionsDisabled"), (0, u "Z"), (13, u "HI_BYTE_SHIFT"), (0, u "I"), (2, u "LO_BYTE_SHIFT"), (49, .methodref 12 116), (0, .nameAndType 117 118), (0, u "compress"), (0, u "([CI[BII)I"), (3, u "([CII)[B"), (138, u "coderFromArrayLen"), (0, u "([BI)B"), (106, .class_ 371), (1, u "java/lang/StringUTF16$LinesSpliterator"), (58, u "MAX_LENGTH"), (196, .class_ 628), (0, u "java/lang/StringUTF16$CodePointsSpliterator"), (0, .class_ 630), (0, u "java/lang/StringUTF16$CharsSpliterator")] 4

def k9m0 : Method := { name := "<init>", desc := "()V", sig := { parameters := [], returnType := none }, accessFlags := 0, code := none }
def k9c1 : Code := { maxStack := 2, maxLocals := 2, code := jdk_52_method_15_code, exceptionTable := #[], attributes := #[] }
def k9m1 : Method := { name := "coderFromArrayLen", desc := "([BI)B", sig := { parameters := [(.array .byte), .int], returnType := some .byte }, accessFlags := 8, code := some k9c1 }
def k9c2 : Code := { maxStack := 5, maxLocals := 6, code := jdk_52_method_16_code, exceptionTable := #[], attributes := #[] }
def k9m2 : Method := { name := "compress", desc := "([CII)[B", sig := { parameters := [(.array .char), .int, .int], returnType := some (.array .byte) }, accessFlags := 9, code := some k9c2 }
def k9c3 : Code := { maxStack := 3, maxLocals := 7, code := jdk_52_method_21_code, exceptionTable := #[], attributes := #[] }
def k9m3 : Method := { name := "compress", desc := "([CI[BII)I", sig := { parameters := [(.array .char), .int, (.array .byte), .int, .int], returnType := some .int }, accessFlags := 9, code := some k9c3 }
/-- java/lang/StringUTF16 -/
def k9 : Class := { plain "java/lang/StringUTF16" (some 0) with
  accessFlags := 48
  interfaces := #[]
  cf := some (fileOf pool9 12 #[.nestMembers #[627, 629, 369]] #[{ accessFlags := 0, nameIndex := 9, descriptorIndex := 10, attributes := #[] }, { accessFlags := 8, nameIndex := 261, descriptorIndex := 262, attributes := #[] }, { accessFlags := 9, nameIndex := 117, descriptorIndex := 122, attributes := #[] }, { accessFlags := 9, nameIndex := 117, descriptorIndex := 118, attributes := #[] }] 48 6 #[] #[{ accessFlags := 26, nameIndex := 61, descriptorIndex := 62, attributes := #[] }, { accessFlags := 26, nameIndex := 65, descriptorIndex := 62, attributes := #[] }, { accessFlags := 24, nameIndex := 430, descriptorIndex := 62, attributes := #[] }, { accessFlags := 4120, nameIndex := 46, descriptorIndex := 47, attributes := #[] }])
  fields := #[{ name := "HI_BYTE_SHIFT", type := .int, accessFlags := 26, slot := 0, constantValue := 0 }, { name := "LO_BYTE_SHIFT", type := .int, accessFlags := 26, slot := 1, constantValue := 0 }, { name := "MAX_LENGTH", type := .int, accessFlags := 24, slot := 2, constantValue := 0 }, { name := "$assertionsDisabled", type := .boolean, accessFlags := 4120, slot := 3, constantValue := 0 }]
  methods := #[k9m0, k9m1, k9m2, k9m3]
  instanceTypes := #[]
  staticTypes := #[.int, .int, .int, .boolean]
  resolved := Array.replicate 635 none
  statics := none }

def pool10 : Array CpInfo := pool [(4, .class_ 6), (1, u "java/lang/Object"), (0, u "<init>"), (0, u "()V"), (5, .class_ 16), (1, u "java/lang/StringLatin1"), (104, u "$assertionsDisabled"), (0, u "Z"), (98, .class_ 223), (1, u "java/lang/StringLatin1$LinesSpliterator"), (166, .class_ 391), (0, u "java/lang/StringLatin1$CharsSpliterator")] 3

def k10m0 : Method := { name := "<init>", desc := "()V", sig := { parameters := [], returnType := none }, accessFlags := 0, code := none }
/-- java/lang/StringLatin1 -/
def k10 : Class := { plain "java/lang/StringLatin1" (some 0) with
  accessFlags := 48
  interfaces := #[]
  cf := some (fileOf pool10 14 #[.nestMembers #[390, 221]] #[{ accessFlags := 0, nameIndex := 7, descriptorIndex := 8, attributes := #[] }] 48 4 #[] #[{ accessFlags := 4120, nameIndex := 121, descriptorIndex := 122, attributes := #[] }])
  fields := #[{ name := "$assertionsDisabled", type := .boolean, accessFlags := 4120, slot := 0, constantValue := 0 }]
  methods := #[k10m0]
  instanceTypes := #[]
  staticTypes := #[.boolean]
  resolved := Array.replicate 395 none
  statics := none }

def pool11 : Array CpInfo := pool [(2, .class_ 4), (1, u "java/lang/Object"), (0, u "<init>"), (0, u "()V"), (17, .class_ 26), (1, u "jdk/internal/util/Preconditions"), (28, .class_ 56), (0, u "jdk/internal/util/Preconditions$4"), (57, .class_ 115), (0, u "jdk/internal/util/Preconditions$1"), (7, u "SIOOBE_FORMATTER"), (0, u "Ljava/util/function/BiFunction;"), (0, .class_ 126), (0, u "jdk/internal/util/Preconditions$2"), (3, u "AIOOBE_FORMATTER"), (0, .class_ 132), (0, u "jdk/internal/util/Preconditions$3"), (3, u "IOOBE_FORMATTER")] 57

def k11m0 : Method := { name := "<init>", desc := "()V", sig := { parameters := [], returnType := none }, accessFlags := 1, code := none }
/-- jdk/internal/util/Preconditions -/
def k11 : Class := { plain "jdk/internal/util/Preconditions" (some 0) with
  accessFlags := 33
  interfaces := #[]
  cf := some (fileOf pool11 24 #[.nestMembers #[55, 131, 125, 114]] #[{ accessFlags := 1, nameIndex := 5, descriptorIndex := 6, attributes := #[] }] 33 2 #[] #[{ accessFlags := 25, nameIndex := 123, descriptorIndex := 124, attributes := #[] }, { accessFlags := 25, nameIndex := 130, descriptorIndex := 124, attributes := #[] }, { accessFlags := 25, nameIndex := 136, descriptorIndex := 124, attributes := #[] }])
  fields := #[{ name := "SIOOBE_FORMATTER", type := (.object "java/util/function/BiFunction"), accessFlags := 25, slot := 0, constantValue := 0 }, { name := "AIOOBE_FORMATTER", type := (.object "java/util/function/BiFunction"), accessFlags := 25, slot := 1, constantValue := 0 }, { name := "IOOBE_FORMATTER", type := (.object "java/util/function/BiFunction"), accessFlags := 25, slot := 2, constantValue := 0 }]
  methods := #[k11m0]
  instanceTypes := #[]
  staticTypes := #[(.object "java/util/function/BiFunction"), (.object "java/util/function/BiFunction"), (.object "java/util/function/BiFunction")]
  resolved := Array.replicate 194 none
  statics := some 1 }

def pool12 : Array CpInfo := pool [(9, u "<init>"), (6, .class_ 18), (1, u "java/lang/Object"), (0, u "()V"), (1, .class_ 23), (1, u "jdk/internal/util/ArraysSupport"), (0, u "LOG2_ARRAY_LONG_INDEX_SCALE"), (0, u "I"), (2, u "U"), (0, u "Ljdk/internal/misc/Unsafe;"), (8, u "BIG_ENDIAN"), (0, u "Z"), (8, u "LOG2_BYTE_BIT_SIZE"), (4, u "LOG2_ARRAY_INT_INDEX_SCALE"), (54, u "JLA"), (0, u "Ljdk/internal/access/JavaLangAccess;"), (11, u "LOG2_ARRAY_BOOLEAN_INDEX_SCALE"), (9, u "LOG2_ARRAY_BYTE_INDEX_SCALE"), (5, u "LOG2_ARRAY_CHAR_INDEX_SCALE"), (5, u "LOG2_ARRAY_SHORT_INDEX_SCALE"), (18, u "LOG2_ARRAY_FLOAT_INDEX_SCALE"), (24, u "LOG2_ARRAY_DOUBLE_INDEX_SCALE"), (89, u "T_BOOLEAN"), (2, u "T_CHAR"), (1, u "T_FLOAT"), (1, u "T_DOUBLE"), (1, u "T_BYTE"), (1, u "T_SHORT"), (1, u "T_INT"), (1, u "T_LONG"), (1, u "SOFT_MAX_ARRAY_LENGTH")] 83

def k12m0 : Method := { name := "<init>", desc := "()V", sig := { parameters := [], returnType := none }, accessFlags := 2, code := none }
/-- jdk/internal/util/ArraysSupport -/
def k12 : Class := { plain "jdk/internal/util/ArraysSupport" (some 0) with
  accessFlags := 33
  interfaces := #[]
  cf := some (fileOf pool12 21 #[] #[{ accessFlags := 2, nameIndex := 9, descriptorIndex := 19, attributes := #[] }] 33 16 #[] #[{ accessFlags := 24, nameIndex := 28, descriptorIndex := 29, attributes := #[] }, { accessFlags := 26, nameIndex := 38, descriptorIndex := 39, attributes := #[] }, { accessFlags := 25, nameIndex := 121, descriptorIndex := 25, attributes := #[] }, { accessFlags := 25, nameIndex := 131, descriptorIndex := 25, attributes := #[] }, { accessFlags := 25, nameIndex := 137, descriptorIndex := 25, attributes := #[] }, { accessFlags := 25, nameIndex := 143, descriptorIndex := 25, attributes := #[] }, { accessFlags := 25, nameIndex := 53, descriptorIndex := 25, attributes := #[] }, { accessFlags := 25, nameIndex := 24, descriptorIndex := 25, attributes := #[] }, { accessFlags := 25, nameIndex := 162, descriptorIndex := 25, attributes := #[] }, { accessFlags := 25, nameIndex := 187, descriptorIndex := 25, attributes := #[] }, { accessFlags := 26, nameIndex := 48, descriptorIndex := 25, attributes := #[] }, { accessFlags := 25, nameIndex := 277, descriptorIndex := 25, attributes := #[] }, { accessFlags := 25, nameIndex := 280, descriptorIndex := 25, attributes := #[] }, { accessFlags := 25, nameIndex := 282, descriptorIndex := 25, attributes := #[] }, { accessFlags := 25, nameIndex := 284, descriptorIndex := 25, attributes := #[] }, { accessFlags := 25, nameIndex := 286, descriptorIndex := 25, attributes := #[] }, { accessFlags := 25, nameIndex := 288, descriptorIndex := 25, attributes := #[] }, { accessFlags := 25, nameIndex := 290, descriptorIndex := 25, attributes := #[] }, { accessFlags := 25, nameIndex := 292, descriptorIndex := 25, attributes := #[] }, { accessFlags := 26, nameIndex := 108, descriptorIndex := 109, attributes := #[] }, { accessFlags := 25, nameIndex := 294, descriptorIndex := 25, attributes := #[] }])
  fields := #[{ name := "U", type := (.object "jdk/internal/misc/Unsafe"), accessFlags := 24, slot := 0, constantValue := 0 }, { name := "BIG_ENDIAN", type := .boolean, accessFlags := 26, slot := 1, constantValue := 0 }, { name := "LOG2_ARRAY_BOOLEAN_INDEX_SCALE", type := .int, accessFlags := 25, slot := 2, constantValue := 0 }, { name := "LOG2_ARRAY_BYTE_INDEX_SCALE", type := .int, accessFlags := 25, slot := 3, constantValue := 0 }, { name := "LOG2_ARRAY_CHAR_INDEX_SCALE", type := .int, accessFlags := 25, slot := 4, constantValue := 0 }, { name := "LOG2_ARRAY_SHORT_INDEX_SCALE", type := .int, accessFlags := 25, slot := 5, constantValue := 0 }, { name := "LOG2_ARRAY_INT_INDEX_SCALE", type := .int, accessFlags := 25, slot := 6, constantValue := 0 }, { name := "LOG2_ARRAY_LONG_INDEX_SCALE", type := .int, accessFlags := 25, slot := 7, constantValue := 0 }, { name := "LOG2_ARRAY_FLOAT_INDEX_SCALE", type := .int, accessFlags := 25, slot := 8, constantValue := 0 }, { name := "LOG2_ARRAY_DOUBLE_INDEX_SCALE", type := .int, accessFlags := 25, slot := 9, constantValue := 0 }, { name := "LOG2_BYTE_BIT_SIZE", type := .int, accessFlags := 26, slot := 10, constantValue := 0 }, { name := "T_BOOLEAN", type := .int, accessFlags := 25, slot := 11, constantValue := 0 }, { name := "T_CHAR", type := .int, accessFlags := 25, slot := 12, constantValue := 0 }, { name := "T_FLOAT", type := .int, accessFlags := 25, slot := 13, constantValue := 0 }, { name := "T_DOUBLE", type := .int, accessFlags := 25, slot := 14, constantValue := 0 }, { name := "T_BYTE", type := .int, accessFlags := 25, slot := 15, constantValue := 0 }, { name := "T_SHORT", type := .int, accessFlags := 25, slot := 16, constantValue := 0 }, { name := "T_INT", type := .int, accessFlags := 25, slot := 17, constantValue := 0 }, { name := "T_LONG", type := .int, accessFlags := 25, slot := 18, constantValue := 0 }, { name := "JLA", type := (.object "jdk/internal/access/JavaLangAccess"), accessFlags := 26, slot := 19, constantValue := 0 }, { name := "SOFT_MAX_ARRAY_LENGTH", type := .int, accessFlags := 25, slot := 20, constantValue := 0 }]
  methods := #[k12m0]
  instanceTypes := #[]
  staticTypes := #[(.object "jdk/internal/misc/Unsafe"), .boolean, .int, .int, .int, .int, .int, .int, .int, .int, .int, .int, .int, .int, .int, .int, .int, .int, .int, (.object "jdk/internal/access/JavaLangAccess"), .int]
  resolved := Array.replicate 378 none
  statics := none }

def pool13 : Array CpInfo := pool [(1, u "java/lang/Cloneable"), (0, .class_ 1), (0, u "java/lang/Object"), (0, .class_ 3)] 3

/-- java/lang/Cloneable -/
def k13 : Class := { plain "java/lang/Cloneable" (some 0) with
  accessFlags := 1537
  interfaces := #[]
  cf := some (fileOf pool13 2 #[] #[] 1537 4 #[] #[])
  fields := #[]
  methods := #[]
  instanceTypes := #[]
  staticTypes := #[]
  resolved := Array.replicate 8 none
  statics := none }

/-- the primitive byte -/
def k14 : Class := { plain "byte" none with kind := .primitive 'B', accessFlags := 0x411 }
/-- [B -/
def k15 : Class := { plain "[B" (some 0) with kind := .array 14 .byte, interfaces := #[13, 3], accessFlags := 1041 }

/-- the primitive char -/
def k16 : Class := { plain "char" none with kind := .primitive 'C', accessFlags := 0x411 }
/-- [C -/
def k17 : Class := { plain "[C" (some 0) with kind := .array 16 .char, interfaces := #[13, 3], accessFlags := 1041 }

/-- the primitive int -/
def k18 : Class := { plain "int" none with kind := .primitive 'I', accessFlags := 0x411 }
/-- [I -/
def k19 : Class := { plain "[I" (some 0) with kind := .array 18 .int, interfaces := #[13, 3], accessFlags := 1041 }

def heap : Heap := #[{ cls := 8, slots := #[.long 0, .int 1, .null, .int 0, .null, .int 0, .int 0], vm := .statics 8 },
  { cls := 11, slots := #[.null, .null, .null], vm := .statics 11 }]
def classes : Array Class := #[k0, k1, k2, k3, k4, k5, k6, k7, k8, k9, k10, k11, k12, k13, k14, k15, k16, k17, k18, k19]
def interned : List (Array UInt16 × Addr) := []
def slotsUsed : Nat := 10
def theMethod : MethodId := ⟨1, 1⟩
def args0 : Array Value := #[.long 5, .int 0, .int 65]
def aboutOver (below : List Frame) : State where
  vm := { classes := classes, interned := interned.toArray }
  heap := heap
  slotsUsed := slotsUsed
  threads := #[{ frames := .invoking theMethod args0 :: below }]
def below0 : List Frame := [.native { method := ⟨0, 0⟩, args := #[] }]
def about1 : State := aboutOver below0
def p0 : Program := .bare "" "" ""
def e0 : Env := launch0.env 0 0 0
theorem w_frames : about1.frames = Frame.invoking theMethod args0 :: below0 := rfl
set_option maxRecDepth 65536 in
theorem w_args : argsFit about1.vm theMethod args0 = true := by decide +kernel
set_option maxRecDepth 65536 in
theorem w_heap : heapFits about1 = true := by decide +kernel
set_option maxRecDepth 65536 in
theorem w_runnable : about1.curStatus? = some .runnable := by decide +kernel
set_option maxRecDepth 65536 in
theorem w_alone : about1.alone = true := by decide +kernel
set_option maxRecDepth 65536 in
theorem w_named : about1.methodNamed? x = some theMethod := by decide +kernel
set_option maxRecDepth 65536 in
theorem w_hears : about1.hears theMethod below0 = true := by decide +kernel
set_option maxRecDepth 65536 in
theorem w_ripe : about1.ripe theMethod args0 below0 = true := by decide +kernel
theorem w_running : about1.status = .running := rfl
set_option maxRecDepth 65536 in
theorem w_room : about1.hasRoom e0.platform room_1 = true :=
  launch0.hasRoom_least _ room_1 (by decide +kernel) (by decide +kernel) (by decide +kernel) (by decide +kernel) (by decide +kernel) (by decide +kernel)
theorem allAtoms_all (ts : List Jvm.Cond) (a : Array Jvm.Value) (st : Jvm.State) : (allAtoms ts).before a st = ts.all (fun c => c.before a st) := by
  induction ts with
  | nil => rfl
  | cons c t ih =>
    show (Jvm.Cond.and c (allAtoms t)).before a st = _
    rw [Jvm.Cond.before_and, ih, List.all_cons]
def words1 : List Jvm.Cond := Jvm.Cond.code x code maxLocals ret :: tables_1
/-- a 'code' word, met by the world's own term for the bytes: nothing is compared byte by byte -/
theorem code_word {y : MethodName} {bytes : ByteArray} {mx : Nat} {rt : Option FieldType} {a : Array Value} {s : State} {m : MethodId} {meth : Method} {c : Code} (h1 : s.methodNamed? y = some m) (h2 : s.vm.method? m = some meth) (h3 : meth.code = some c) (h4 : c.code = bytes)
    (h5 : (c.maxLocals == mx && c.exceptionTable.isEmpty && decide (c.maxStack ≤ mostOperands) && decide (meth.sig.returnType = rt) && !meth.locks && decide (parseMethodDescriptor y.desc = some meth.sig)) = true) : (Jvm.Cond.code y bytes mx rt).before a s = true := by
  simp only [Bool.and_eq_true, beq_iff_eq, Bool.not_eq_true', decide_eq_true_eq] at h5
  obtain ⟨⟨⟨⟨⟨g1, g2⟩, g3⟩, g4⟩, g5⟩, g6⟩ := h5
  simp [Cond.before, Cond.holds, Cond.value, h1, h2, h3, h4, g1, g2, g3, g4, g5, g6]
def isCode : Jvm.Cond → Bool
  | .code _ _ _ _ => true
  | _ => false
theorem all_split {L : List Jvm.Cond} {P : Jvm.Cond → Bool} (h1 : L.all (fun c => isCode c || P c) = true) (h2 : ∀ c ∈ L.filter isCode, P c = true) : L.all P = true := by
  refine List.all_eq_true.mpr fun c hc => ?_
  have h := List.all_eq_true.mp h1 c hc
  rcases Bool.eq_false_or_eq_true (isCode c) with hi | hi
  · exact h2 c (List.mem_filter.mpr ⟨hc, hi⟩)
  · simpa [hi] using h
set_option maxRecDepth 65536 in
theorem w_c0 : (Jvm.Cond.code x code maxLocals ret).before args0 about1 = true := code_word (m := ⟨1, 1⟩) (meth := k1m1) (c := k1c1) (by decide +kernel) rfl rfl rfl (by decide +kernel)
set_option maxRecDepth 65536 in
theorem w_c1 : (Jvm.Cond.code ({ cls := "com/example/holdfast/holdfast/Offer", name := "<init>", desc := "(JZLjava/lang/String;)V" } : Jvm.MethodName) prog_10_method_1_code (5 : Nat) (Option.none : Option Jvm.ClassFile.FieldType)).before args0 about1 = true := code_word (m := ⟨2, 0⟩) (meth := k2m0) (c := k2c0) (by decide +kernel) rfl rfl rfl (by decide +kernel)
set_option maxRecDepth 65536 in
theorem w_c2 : (Jvm.Cond.code ({ cls := "java/lang/Object", name := "<init>", desc := "()V" } : Jvm.MethodName) object_method_1_code (1 : Nat) (Option.none : Option Jvm.ClassFile.FieldType)).before args0 about1 = true := code_word (m := ⟨0, 0⟩) (meth := k0m0) (c := k0c0) (by decide +kernel) rfl rfl rfl (by decide +kernel)
set_option maxRecDepth 65536 in
theorem w_c3 : (Jvm.Cond.code ({ cls := "com/example/holdfast/holdfast/Offer", name := "token", desc := "()J" } : Jvm.MethodName) prog_10_method_3_code (1 : Nat) (Option.some Jvm.ClassFile.FieldType.long)).before args0 about1 = true := code_word (m := ⟨2, 2⟩) (meth := k2m2) (c := k2c2) (by decide +kernel) rfl rfl rfl (by decide +kernel)
set_option maxRecDepth 65536 in
theorem w_c4 : (Jvm.Cond.code ({ cls := "com/example/holdfast/holdfast/Offer", name := "granted", desc := "()Z" } : Jvm.MethodName) prog_10_method_4_code (1 : Nat) (Option.some Jvm.ClassFile.FieldType.boolean)).before args0 about1 = true := code_word (m := ⟨2, 3⟩) (meth := k2m3) (c := k2c3) (by decide +kernel) rfl rfl rfl (by decide +kernel)
set_option maxRecDepth 65536 in
theorem w_c5 : (Jvm.Cond.code ({ cls := "com/example/holdfast/holdfast/Offer", name := "alone", desc := "(J)Lcom/example/holdfast/holdfast/Offer;" } : Jvm.MethodName) prog_10_method_2_code (2 : Nat) (Option.some (Jvm.ClassFile.FieldType.object "com/example/holdfast/holdfast/Offer"))).before args0 about1 = true := code_word (m := ⟨2, 1⟩) (meth := k2m1) (c := k2c1) (by decide +kernel) rfl rfl rfl (by decide +kernel)
set_option maxRecDepth 65536 in
theorem w_c6 : (Jvm.Cond.code ({ cls := "java/lang/String", name := "<init>", desc := "([C)V" } : Jvm.MethodName) jdk_42_method_3_code (2 : Nat) (Option.none : Option Jvm.ClassFile.FieldType)).before args0 about1 = true := code_word (m := ⟨8, 1⟩) (meth := k8m1) (c := k8c1) (by decide +kernel) rfl rfl rfl (by decide +kernel)
set_option maxRecDepth 65536 in
theorem w_c7 : (Jvm.Cond.code ({ cls := "java/lang/String", name := "<init>", desc := "([CIILjava/lang/Void;)V" } : Jvm.MethodName) jdk_42_method_149_code (6 : Nat) (Option.none : Option Jvm.ClassFile.FieldType)).before args0 about1 = true := code_word (m := ⟨8, 2⟩) (meth := k8m2) (c := k8c2) (by decide +kernel) rfl rfl rfl (by decide +kernel)
set_option maxRecDepth 65536 in
theorem w_c8 : (Jvm.Cond.code ({ cls := "java/lang/StringUTF16", name := "compress", desc := "([CII)[B" } : Jvm.MethodName) jdk_52_method_16_code (6 : Nat) (Option.some (Jvm.ClassFile.FieldType.array Jvm.ClassFile.FieldType.byte))).before args0 about1 = true := code_word (m := ⟨9, 2⟩) (meth := k9m2) (c := k9c2) (by decide +kernel) rfl rfl rfl (by decide +kernel)
set_option maxRecDepth 65536 in
theorem w_c9 : (Jvm.Cond.code ({ cls := "java/lang/StringUTF16", name := "compress", desc := "([CI[BII)I" } : Jvm.MethodName) jdk_52_method_21_code (7 : Nat) (Option.some Jvm.ClassFile.FieldType.int)).before args0 about1 = true := code_word (m := ⟨9, 3⟩) (meth := k9m3) (c := k9c3) (by decide +kernel) rfl rfl rfl (by decide +kernel)
set_option maxRecDepth 65536 in
theorem w_c10 : (Jvm.Cond.code ({ cls := "java/lang/StringUTF16", name := "coderFromArrayLen", desc := "([BI)B" } : Jvm.MethodName) jdk_52_method_15_code (2 : Nat) (Option.some Jvm.ClassFile.FieldType.byte)).before args0 about1 = true := code_word (m := ⟨9, 1⟩) (meth := k9m1) (c := k9c1) (by decide +kernel) rfl rfl rfl (by decide +kernel)
def codes1 : List Jvm.Cond := [Jvm.Cond.code x code maxLocals ret, Jvm.Cond.code ({ cls := "com/example/holdfast/holdfast/Offer", name := "<init>", desc := "(JZLjava/lang/String;)V" } : Jvm.MethodName) prog_10_method_1_code (5 : Nat) (Option.none : Option Jvm.ClassFile.FieldType), Jvm.Cond.code ({ cls := "java/lang/Object", name := "<init>", desc := "()V" } : Jvm.MethodName) object_method_1_code (1 : Nat) (Option.none : Option Jvm.ClassFile.FieldType), Jvm.Cond.code ({ cls := "com/example/holdfast/holdfast/Offer", name := "token", desc := "()J" } : Jvm.MethodName) prog_10_method_3_code (1 : Nat) (Option.some Jvm.ClassFile.FieldType.long), Jvm.Cond.code ({ cls := "com/example/holdfast/holdfast/Offer", name := "granted", desc := "()Z" } : Jvm.MethodName) prog_10_method_4_code (1 : Nat) (Option.some Jvm.ClassFile.FieldType.boolean), Jvm.Cond.code ({ cls := "com/example/holdfast/holdfast/Offer", name := "alone", desc := "(J)Lcom/example/holdfast/holdfast/Offer;" } : Jvm.MethodName) prog_10_method_2_code (2 : Nat) (Option.some (Jvm.ClassFile.FieldType.object "com/example/holdfast/holdfast/Offer")), Jvm.Cond.code ({ cls := "java/lang/String", name := "<init>", desc := "([C)V" } : Jvm.MethodName) jdk_42_method_3_code (2 : Nat) (Option.none : Option Jvm.ClassFile.FieldType), Jvm.Cond.code ({ cls := "java/lang/String", name := "<init>", desc := "([CIILjava/lang/Void;)V" } : Jvm.MethodName) jdk_42_method_149_code (6 : Nat) (Option.none : Option Jvm.ClassFile.FieldType), Jvm.Cond.code ({ cls := "java/lang/StringUTF16", name := "compress", desc := "([CII)[B" } : Jvm.MethodName) jdk_52_method_16_code (6 : Nat) (Option.some (Jvm.ClassFile.FieldType.array Jvm.ClassFile.FieldType.byte)), Jvm.Cond.code ({ cls := "java/lang/StringUTF16", name := "compress", desc := "([CI[BII)I" } : Jvm.MethodName) jdk_52_method_21_code (7 : Nat) (Option.some Jvm.ClassFile.FieldType.int), Jvm.Cond.code ({ cls := "java/lang/StringUTF16", name := "coderFromArrayLen", desc := "([BI)B" } : Jvm.MethodName) jdk_52_method_15_code (2 : Nat) (Option.some Jvm.ClassFile.FieldType.byte)]
set_option maxRecDepth 65536 in
theorem codes_eq : words1.filter isCode = codes1 := rfl
theorem w_codes : ∀ c ∈ words1.filter isCode, c.before args0 about1 = true := by
  rw [codes_eq]
  intro c hc
  simp only [codes1, List.mem_cons, List.not_mem_nil, or_false] at hc
  rcases hc with rfl | rfl | rfl | rfl | rfl | rfl | rfl | rfl | rfl | rfl | rfl
  · exact w_c0
  · exact w_c1
  · exact w_c2
  · exact w_c3
  · exact w_c4
  · exact w_c5
  · exact w_c6
  · exact w_c7
  · exact w_c8
  · exact w_c9
  · exact w_c10
set_option maxRecDepth 65536 in
theorem w_t1 : (words1.take 24).all (fun c => isCode c || c.before args0 about1) = true := by decide +kernel
set_option maxRecDepth 65536 in
theorem w_t2 : ((words1.drop 24).take 24).all (fun c => isCode c || c.before args0 about1) = true := by decide +kernel
set_option maxRecDepth 65536 in
theorem w_t3 : ((words1.drop 24).drop 24).all (fun c => isCode c || c.before args0 about1) = true := by decide +kernel
theorem w_tables : (allAtoms (Jvm.Cond.code x code maxLocals ret :: tables_1)).before args0 about1 = true := by
  rw [allAtoms_all]
  show words1.all (fun c => c.before args0 about1) = true
  refine all_split ?_ w_codes
  rw [← List.take_append_drop 24 words1, List.all_append, w_t1, ← List.take_append_drop 24 (words1.drop 24), List.all_append, w_t2, w_t3]
  rfl
set_option maxRecDepth 65536 in
theorem w_rest : rest_1_c.before args0 about1 = true := by decide +kernel
set_option maxRecDepth 65536 in
theorem w_case : (Jvm.Cond.and given_1 narrow_1).before args0 about1 = true := by decide +kernel
theorem w_applies : (headSpec (Jvm.Cond.code x code maxLocals ret :: tables_1) room_1).applies x e0.platform about1 = true :=
  (Spec.applies_iff w_frames).mpr ⟨w_running, w_runnable, w_alone, w_named, w_hears, w_ripe, w_room, w_tables⟩
theorem atStart : AtStart classFile x code maxLocals ret World_1 tables_1 room_1 Calls_1 rest_1 Pre_1 launch0 p0 e0 about1 theMethod args0 below0 :=
  ⟨lists_1, trivial, launch0.admits_env _ _ _, launch0.least_env, fairChoices_fair.cas, fairChoices_fair.clock, w_frames, w_args, w_heap, w_applies, trivial, w_rest, w_case⟩
end start1
theorem witness_1 : WitnessClaimed_1 := ⟨start1.p0, start1.e0, start1.about1, start1.theMethod, start1.args0, start1.below0, start1.atStart⟩
end Jvm.Pilot.@@N@@
