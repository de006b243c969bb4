import JvmDerived
import JvmDerived.Pilot.@@N@@Statement
import JvmDerived.Pilot.@@N@@Code
set_option linter.unusedVariables false
set_option linter.unusedSimpArgs false
namespace Jvm.RoadKit
open Sem ClassFile Op Lib Jvm.Stand Jvm.Free Jvm.LawKit
section New
variable {p : Program} {l : Launch} {e : Env} {R : Room} {s : State} {m : MethodId} {args : Array Value} {below : List Frame} {meth : Method} {c : Code} {T : State} {locs : List Loc} {cells slots : Nat}
theorem retI (X : Stand p l e R s m args below meth c T locs cells slots) (hx : p.tables.exec = Jvm.exec) {pc : Nat} {Ls : Array Slot} {z : Int32} {rest : List Value} (hret : meth.sig.returnType = some .int) (hd : decode c.code pc = .ok (.ireturn, 1)) {fs : List Frame}
    (hl : ∀ (f : JFrame) (acts : List Action), f.method = m → f.locked = none → f.entered = [] → (doReturn e (T.setTop f) acts (some (.int z))).1 = T.setFrames fs) : Steps p.tables e below (T.setTop (mkF m pc Ls (.int z :: rest))) (T.setFrames fs) := by
  have hm' : T.vm.method? m = some meth := X.method'
  have hn : narrow .int (.int z) = .int z := rfl
  show Steps p.tables e below (T.setTop { method := m, pc := pc, locals := Ls, stack := _ :: rest, locked := none }) _
  jvm_step X.here [X.here.top, hx, hd, hm', hret, hn]
  first | (intro acts; rw [hl _ acts rfl rfl rfl]) | rw [hl _ _ rfl rfl rfl]
  exact Steps.refl _
end New
end Jvm.RoadKit
namespace Jvm.Pilot.@@N@@
open Jvm Jvm.ClassFile Sem Op Lib Jvm.Free Jvm.Stand Jvm.LawKit Jvm.RoadKit Bundle Jvm.Pilot.@@N@@.Jvm.D
def own_draw (P0 : Int32) : Int32 := if (((P0.toUInt32 >>> ((16 : Int32) &&& 31).toUInt32).toInt32) &&& (7 : Int32)) = (0 : Int32) then (32 : Int32) else (if (((P0.toUInt32 >>> ((16 : Int32) &&& 31).toUInt32).toInt32) &&& (7 : Int32)) = (1 : Int32) then (9 : Int32) else (if (((P0.toUInt32 >>> ((16 : Int32) &&& 31).toUInt32).toInt32) &&& (7 : Int32)) = (2 : Int32) then (10 : Int32) else (if (((P0.toUInt32 >>> ((16 : Int32) &&& 31).toUInt32).toInt32) &&& (7 : Int32)) = (3 : Int32) then (13 : Int32) else (P0.toUInt32.toUInt16.toUInt32.toInt32))))
theorem own_nc (x : Int32) : nar .char (x.toUInt32.toUInt16.toUInt32.toInt32) = x.toUInt32.toUInt16.toUInt32.toInt32 := by
  have h1 := c_i2c x
  have h2 := c_i2c (x.toUInt32.toUInt16.toUInt32.toInt32)
  apply Int32.toInt_inj.mp
  show (x.toUInt32.toUInt16.toUInt32.toInt32).toUInt32.toUInt16.toUInt32.toInt32.toInt = _
  omega
abbrev own_isw (c : Int32) : Prop := c = (32 : Int32) ∨ c = (9 : Int32) ∨ c = (10 : Int32) ∨ c = (13 : Int32)
def own_ch (c0 c1 c2 c3 i : Int32) : Int32 := if i = (0 : Int32) then c0 else (if i = (1 : Int32) then c1 else (if i = (2 : Int32) then c2 else c3))
def own_all (f : Int32 → Int32) (i : Int32) : Nat → Int32
  | 0 => 1
  | n + 1 => if own_isw (f i) then own_all f (i + (1 : Int32)) n else 0
theorem own_all01 (f : Int32 → Int32) : ∀ (n : Nat) (i : Int32), own_all f i n = 0 ∨ own_all f i n = 1
  | 0, _ => Or.inr rfl
  | n + 1, i => by
    rw [own_all]
    split
    · exact own_all01 f n _
    · exact Or.inl rfl
theorem own_inc (i : Int32) (h : i.toInt < 1000) : (i + (1 : Int32)).toInt = i.toInt + 1 := by
  have a := c_iadd i (1 : Int32)
  have b := rng32 (i + (1 : Int32))
  have c := rng32 i
  have d : (1 : Int32).toInt = 1 := rfl
  rw [d] at a
  omega
theorem own_sum (a b : Int32) (h1 : 0 ≤ a.toInt) (h2 : 0 ≤ b.toInt) (h3 : a.toInt + b.toInt ≤ 4) : (a + b).toInt = a.toInt + b.toInt := by
  have x := c_iadd a b
  have y := rng32 (a + b)
  omega
theorem own_in4 (i : Int32) (h1 : 0 ≤ i.toInt) (h2 : i.toInt < 4) : ¬ i < 0 ∧ i < (4 : Int32) := by
  rw [Int32.lt_iff_toInt_lt, Int32.lt_iff_toInt_lt]
  have z : (0 : Int32).toInt = 0 := rfl
  have f : (4 : Int32).toInt = 4 := rfl
  omega
theorem own_lit (i k : Int32) (h : i.toInt = k.toInt) : i = k := Int32.toInt_inj.mp h
theorem own_four (i : Int32) (h1 : 0 ≤ i.toInt) (h2 : i.toInt < 4) : i = 0 ∨ i = 1 ∨ i = 2 ∨ i = 3 := by
  have : i.toInt = 0 ∨ i.toInt = 1 ∨ i.toInt = 2 ∨ i.toInt = 3 := by omega
  rcases this with q | q | q | q
  · exact Or.inl (own_lit i 0 q)
  · exact Or.inr (Or.inl (own_lit i 1 q))
  · exact Or.inr (Or.inr (Or.inl (own_lit i 2 q)))
  · exact Or.inr (Or.inr (Or.inr (own_lit i 3 q)))
theorem own_get (c0 c1 c2 c3 : Int32) (i : Int32) (h1 : 0 ≤ i.toInt) (h2 : i.toInt < 4) (d : Value) : [Value.int c0, Value.int c1, Value.int c2, Value.int c3].getD i.toNatClampNeg d = .int (own_ch c0 c1 c2 c3 i) := by
  rcases own_four i h1 h2 with rfl | rfl | rfl | rfl <;> rfl
theorem d1_0 : decode method_3_code 0 = .ok (.iload_n 0, 1) := by decide +kernel
theorem d1_1 : decode method_3_code 1 = .ok (.bipush 16, 2) := by decide +kernel
theorem d1_3 : decode method_3_code 3 = .ok (.iushr, 1) := by decide +kernel
theorem d1_4 : decode method_3_code 4 = .ok (.bipush 7, 2) := by decide +kernel
theorem d1_6 : decode method_3_code 6 = .ok (.iand, 1) := by decide +kernel
theorem d1_7 : decode method_3_code 7 = .ok (.istore_n 1, 1) := by decide +kernel
theorem d1_8 : decode method_3_code 8 = .ok (.iload_n 1, 1) := by decide +kernel
theorem d1_9 : decode method_3_code 9 = .ok (.ifCond .ne 6, 3) := by decide +kernel
theorem d1_12 : decode method_3_code 12 = .ok (.bipush 32, 2) := by decide +kernel
theorem d1_14 : decode method_3_code 14 = .ok (.ireturn, 1) := by decide +kernel
theorem d1_15 : decode method_3_code 15 = .ok (.iload_n 1, 1) := by decide +kernel
theorem d1_16 : decode method_3_code 16 = .ok (.iconst 1, 1) := by decide +kernel
theorem d1_17 : decode method_3_code 17 = .ok (.if_icmp .ne 6, 3) := by decide +kernel
theorem d1_20 : decode method_3_code 20 = .ok (.bipush 9, 2) := by decide +kernel
theorem d1_22 : decode method_3_code 22 = .ok (.ireturn, 1) := by decide +kernel
theorem d1_23 : decode method_3_code 23 = .ok (.iload_n 1, 1) := by decide +kernel
theorem d1_24 : decode method_3_code 24 = .ok (.iconst 2, 1) := by decide +kernel
theorem d1_25 : decode method_3_code 25 = .ok (.if_icmp .ne 6, 3) := by decide +kernel
theorem d1_28 : decode method_3_code 28 = .ok (.bipush 10, 2) := by decide +kernel
theorem d1_30 : decode method_3_code 30 = .ok (.ireturn, 1) := by decide +kernel
theorem d1_31 : decode method_3_code 31 = .ok (.iload_n 1, 1) := by decide +kernel
theorem d1_32 : decode method_3_code 32 = .ok (.iconst 3, 1) := by decide +kernel
theorem d1_33 : decode method_3_code 33 = .ok (.if_icmp .ne 6, 3) := by decide +kernel
theorem d1_36 : decode method_3_code 36 = .ok (.bipush 13, 2) := by decide +kernel
theorem d1_38 : decode method_3_code 38 = .ok (.ireturn, 1) := by decide +kernel
theorem d1_39 : decode method_3_code 39 = .ok (.iload_n 0, 1) := by decide +kernel
theorem d1_40 : decode method_3_code 40 = .ok (.i2c, 1) := by decide +kernel
theorem d1_41 : decode method_3_code 41 = .ok (.ireturn, 1) := by decide +kernel
theorem pn_1 : plainName "com/example/terseform/terseform/xml/XmlNamesIsWhitespacePinLaw" = true := by first | (simp [plainName, overriddenIn]; done) | decide +kernel
theorem ef_1 (m : MethodId) (P0 : Int32) : entryFrame m #[(.int P0)] 2 = mkF m 0 #[.val (.int P0), .unset] [] := by first | (simp [entryFrame, mkF, argsToLocals, Value.category]; done) | rfl
def Q1 (Z : State) (P0 : Int32) (h0 : Heap) (n0 : Nat) (v : Option Value) (h : Heap) (L : List Loc) : Prop := (v = some (.int (own_draw P0))) ∧ (Fr n0 L) ∧ (h = h0)
set_option maxRecDepth 65536 in
set_option maxHeartbeats 40000000 in
theorem rm1 (l : Launch) (Z : State) (a0 : Array Value) (hw : ∀ d ∈ tables_1, d.before a0 Z = true) (ws : List Jvm.Cond) (P0 : Int32) (h0 : Heap) (n0 : Nat) (Z0 : n0 ≤ h0.size) :
    MetFree l (⟨"com/example/terseform/terseform/xml/XmlNamesIsWhitespacePinLaw", "draw", "(I)C"⟩ : MethodName) (head1 (Jvm.Cond.code (⟨"com/example/terseform/terseform/xml/XmlNamesIsWhitespacePinLaw", "draw", "(I)C"⟩ : MethodName) method_3_code 2 (some .char) :: ws) ({ frames := 0, cells := 0, slots := 0, locals := 0 } : Room)) (fun a U => a = #[(.int P0)] ∧ Z.Warmed39 U.vm ∧ U.heap = h0) (fun _ _ _ _ _ => True) (fun _ U o U' => ∃ v L, o = .returned v ∧ Q1 Z P0 h0 n0 v U'.heap L ∧ FrameEnd U o U' L ({ frames := 0, cells := 0, slots := 0, locals := 0 } : Room).cells ({ frames := 0, cells := 0, slots := 0, locals := 0 } : Room).slots) := by
  refine MetFree.of_bodySF (plainFor_of_name pn_1) hisR ?_
  intro p e s m args below meth c s₁ Bd hml0 hP hK
  obtain ⟨rfl, hZ, hh⟩ := hP
  have hx := Bd.exec
  have hby := Bd.bytes
  have hml : c.maxLocals = 2 := hml0
  have hown : s.vm.findClass "com/example/terseform/terseform/xml/XmlNamesIsWhitespacePinLaw" = some m.cls := findClass_of_methodNamed Bd.named
  have hnm := (name_of_methodNamed Bd.named Bd.method).1
  have X0 : Stand p l e ({ frames := 0, cells := 0, slots := 0, locals := 0 } : Room) s m #[(.int P0)] below meth c s₁ [] 0 0 := Stand.of_body Bd
  have e0 : s₁.heap = h0 := by rw [← hh, Bd.state]; rfl
  have N0 := Fr.nil n0
  have pre0 : ∀ t, Steps p.tables e below (s₁.setTop (mkF m 0 #[.val (.int P0), .unset] [])) t → Steps p.tables e below (s₁.setTop (entryFrame m #[(.int P0)] 2)) t := fun t k => castTop (ef_1 m P0) k
  have pre101 : ∀ t, Steps p.tables e below (s₁.setTop (mkF m 9 #[.val (.int P0), .val (.int (((P0.toUInt32 >>> ((16 : Int32) &&& 31).toUInt32).toInt32) &&& (7 : Int32)))] [(.int (((P0.toUInt32 >>> ((16 : Int32) &&& 31).toUInt32).toInt32) &&& (7 : Int32)))])) t → Steps p.tables e below (s₁.setTop (entryFrame m #[(.int P0)] 2)) t := fun t kt => pre0 t (by
      show Steps p.tables e below (s₁.setTop (mkF m 0 #[.val (.int P0), .unset] [])) _
      refine XS.iloadN X0.here hx rfl (hb hby d1_0) rfl ?_
      show Steps p.tables e below (s₁.setTop (mkF m 1 #[.val (.int P0), .unset] [(.int P0)])) _
      refine XS.bipush X0.here hx rfl (hb hby d1_1) ?_
      show Steps p.tables e below (s₁.setTop (mkF m 3 #[.val (.int P0), .unset] [(.int (16 : Int32)), (.int P0)])) _
      refine XS.iushr X0.here hx rfl (hb hby d1_3) rfl ?_
      show Steps p.tables e below (s₁.setTop (mkF m 4 #[.val (.int P0), .unset] [(.int ((P0.toUInt32 >>> ((16 : Int32) &&& 31).toUInt32).toInt32))])) _
      refine XS.bipush X0.here hx rfl (hb hby d1_4) ?_
      show Steps p.tables e below (s₁.setTop (mkF m 6 #[.val (.int P0), .unset] [(.int (7 : Int32)), (.int ((P0.toUInt32 >>> ((16 : Int32) &&& 31).toUInt32).toInt32))])) _
      refine XS.iand X0.here hx rfl (hb hby d1_6) rfl ?_
      show Steps p.tables e below (s₁.setTop (mkF m 7 #[.val (.int P0), .unset] [(.int (((P0.toUInt32 >>> ((16 : Int32) &&& 31).toUInt32).toInt32) &&& (7 : Int32)))])) _
      refine XS.istoreN X0.here hx rfl (hb hby d1_7) rfl (l' := #[.val (.int P0), .val (.int (((P0.toUInt32 >>> ((16 : Int32) &&& 31).toUInt32).toInt32) &&& (7 : Int32)))]) rfl ?_
      show Steps p.tables e below (s₁.setTop (mkF m 8 #[.val (.int P0), .val (.int (((P0.toUInt32 >>> ((16 : Int32) &&& 31).toUInt32).toInt32) &&& (7 : Int32)))] [])) _
      refine XS.iloadN X0.here hx rfl (hb hby d1_8) rfl ?_
      exact kt)
  by_cases hc9 : (((P0.toUInt32 >>> ((16 : Int32) &&& 31).toUInt32).toInt32) &&& (7 : Int32)) = (0 : Int32)
  · have pre102 : ∀ t, Steps p.tables e below (s₁.setTop (mkF m 14 #[.val (.int P0), .val (.int (((P0.toUInt32 >>> ((16 : Int32) &&& 31).toUInt32).toInt32) &&& (7 : Int32)))] [(.int (32 : Int32))])) t → Steps p.tables e below (s₁.setTop (entryFrame m #[(.int P0)] 2)) t := fun t kt => pre101 t (by
        show Steps p.tables e below (s₁.setTop (mkF m 9 #[.val (.int P0), .val (.int (((P0.toUInt32 >>> ((16 : Int32) &&& 31).toUInt32).toInt32) &&& (7 : Int32)))] [(.int (((P0.toUInt32 >>> ((16 : Int32) &&& 31).toUInt32).toInt32) &&& (7 : Int32)))])) _
        refine XS.ifNo X0.here hx rfl (hb hby d1_9) rfl ((if0 _ _).trans (teq hc9).2) ?_
        show Steps p.tables e below (s₁.setTop (mkF m 12 #[.val (.int P0), .val (.int (((P0.toUInt32 >>> ((16 : Int32) &&& 31).toUInt32).toInt32) &&& (7 : Int32)))] [])) _
        refine XS.bipush X0.here hx rfl (hb hby d1_12) ?_
        exact kt)
    obtain ⟨fs, hr, hrun, hended, hW, hsame⟩ := X0.leave (v := some (.int (32 : Int32))) (fun h => by rw [Bd.returns] at h; cases h)
    refine ⟨_, _, pre102 _ ?_, hrun, hended, _, _, rfl, ?_, ⟨_, rfl⟩, hW, hsame.mono (by decide) (by decide)⟩
    · show Steps p.tables e below (s₁.setTop (mkF m 14 #[.val (.int P0), .val (.int (((P0.toUInt32 >>> ((16 : Int32) &&& 31).toUInt32).toInt32) &&& (7 : Int32)))] [(.int (32 : Int32))])) _
      exact retN X0 hx (t := .char) Bd.returns (by simp) (hb hby d1_14) hr
    · show Q1 Z P0 h0 n0 _ s₁.heap _
      rw [e0]
      exact ⟨(congrArg (fun z => some (Value.int z)) (show (32 : Int32) = (own_draw P0) from by unfold own_draw; rw [if_pos hc9])), N0, rfl⟩
  · have pre103 : ∀ t, Steps p.tables e below (s₁.setTop (mkF m 17 #[.val (.int P0), .val (.int (((P0.toUInt32 >>> ((16 : Int32) &&& 31).toUInt32).toInt32) &&& (7 : Int32)))] [(.int (1 : Int32)), (.int (((P0.toUInt32 >>> ((16 : Int32) &&& 31).toUInt32).toInt32) &&& (7 : Int32)))])) t → Steps p.tables e below (s₁.setTop (entryFrame m #[(.int P0)] 2)) t := fun t kt => pre101 t (by
        show Steps p.tables e below (s₁.setTop (mkF m 9 #[.val (.int P0), .val (.int (((P0.toUInt32 >>> ((16 : Int32) &&& 31).toUInt32).toInt32) &&& (7 : Int32)))] [(.int (((P0.toUInt32 >>> ((16 : Int32) &&& 31).toUInt32).toInt32) &&& (7 : Int32)))])) _
        refine XS.ifYes X0.here hx rfl (pc0 := 9) (pc' := 15) rfl (hb hby d1_9) rfl ((if0 _ _).trans (feq hc9).2) (by decide) (by decide) ?_
        show Steps p.tables e below (s₁.setTop (mkF m 15 #[.val (.int P0), .val (.int (((P0.toUInt32 >>> ((16 : Int32) &&& 31).toUInt32).toInt32) &&& (7 : Int32)))] [])) _
        refine XS.iloadN X0.here hx rfl (hb hby d1_15) rfl ?_
        show Steps p.tables e below (s₁.setTop (mkF m 16 #[.val (.int P0), .val (.int (((P0.toUInt32 >>> ((16 : Int32) &&& 31).toUInt32).toInt32) &&& (7 : Int32)))] [(.int (((P0.toUInt32 >>> ((16 : Int32) &&& 31).toUInt32).toInt32) &&& (7 : Int32)))])) _
        refine XS.iconst X0.here hx rfl (hb hby d1_16) ?_
        exact kt)
    by_cases hc17 : (((P0.toUInt32 >>> ((16 : Int32) &&& 31).toUInt32).toInt32) &&& (7 : Int32)) = (1 : Int32)
    · have pre104 : ∀ t, Steps p.tables e below (s₁.setTop (mkF m 22 #[.val (.int P0), .val (.int (((P0.toUInt32 >>> ((16 : Int32) &&& 31).toUInt32).toInt32) &&& (7 : Int32)))] [(.int (9 : Int32))])) t → Steps p.tables e below (s₁.setTop (entryFrame m #[(.int P0)] 2)) t := fun t kt => pre103 t (by
          show Steps p.tables e below (s₁.setTop (mkF m 17 #[.val (.int P0), .val (.int (((P0.toUInt32 >>> ((16 : Int32) &&& 31).toUInt32).toInt32) &&& (7 : Int32)))] [(.int (1 : Int32)), (.int (((P0.toUInt32 >>> ((16 : Int32) &&& 31).toUInt32).toInt32) &&& (7 : Int32)))])) _
          refine XS.icmpNo X0.here hx rfl (hb hby d1_17) rfl (teq hc17).2 ?_
          show Steps p.tables e below (s₁.setTop (mkF m 20 #[.val (.int P0), .val (.int (((P0.toUInt32 >>> ((16 : Int32) &&& 31).toUInt32).toInt32) &&& (7 : Int32)))] [])) _
          refine XS.bipush X0.here hx rfl (hb hby d1_20) ?_
          exact kt)
      obtain ⟨fs, hr, hrun, hended, hW, hsame⟩ := X0.leave (v := some (.int (9 : Int32))) (fun h => by rw [Bd.returns] at h; cases h)
      refine ⟨_, _, pre104 _ ?_, hrun, hended, _, _, rfl, ?_, ⟨_, rfl⟩, hW, hsame.mono (by decide) (by decide)⟩
      · show Steps p.tables e below (s₁.setTop (mkF m 22 #[.val (.int P0), .val (.int (((P0.toUInt32 >>> ((16 : Int32) &&& 31).toUInt32).toInt32) &&& (7 : Int32)))] [(.int (9 : Int32))])) _
        exact retN X0 hx (t := .char) Bd.returns (by simp) (hb hby d1_22) hr
      · show Q1 Z P0 h0 n0 _ s₁.heap _
        rw [e0]
        exact ⟨(congrArg (fun z => some (Value.int z)) (show (9 : Int32) = (own_draw P0) from by unfold own_draw; rw [if_neg hc9, if_pos hc17])), N0, rfl⟩
    · have pre105 : ∀ t, Steps p.tables e below (s₁.setTop (mkF m 25 #[.val (.int P0), .val (.int (((P0.toUInt32 >>> ((16 : Int32) &&& 31).toUInt32).toInt32) &&& (7 : Int32)))] [(.int (2 : Int32)), (.int (((P0.toUInt32 >>> ((16 : Int32) &&& 31).toUInt32).toInt32) &&& (7 : Int32)))])) t → Steps p.tables e below (s₁.setTop (entryFrame m #[(.int P0)] 2)) t := fun t kt => pre103 t (by
          show Steps p.tables e below (s₁.setTop (mkF m 17 #[.val (.int P0), .val (.int (((P0.toUInt32 >>> ((16 : Int32) &&& 31).toUInt32).toInt32) &&& (7 : Int32)))] [(.int (1 : Int32)), (.int (((P0.toUInt32 >>> ((16 : Int32) &&& 31).toUInt32).toInt32) &&& (7 : Int32)))])) _
          refine XS.icmpYes X0.here hx rfl (pc0 := 17) (pc' := 23) rfl (hb hby d1_17) rfl (feq hc17).2 (by decide) (by decide) ?_
          show Steps p.tables e below (s₁.setTop (mkF m 23 #[.val (.int P0), .val (.int (((P0.toUInt32 >>> ((16 : Int32) &&& 31).toUInt32).toInt32) &&& (7 : Int32)))] [])) _
          refine XS.iloadN X0.here hx rfl (hb hby d1_23) rfl ?_
          show Steps p.tables e below (s₁.setTop (mkF m 24 #[.val (.int P0), .val (.int (((P0.toUInt32 >>> ((16 : Int32) &&& 31).toUInt32).toInt32) &&& (7 : Int32)))] [(.int (((P0.toUInt32 >>> ((16 : Int32) &&& 31).toUInt32).toInt32) &&& (7 : Int32)))])) _
          refine XS.iconst X0.here hx rfl (hb hby d1_24) ?_
          exact kt)
      by_cases hc25 : (((P0.toUInt32 >>> ((16 : Int32) &&& 31).toUInt32).toInt32) &&& (7 : Int32)) = (2 : Int32)
      · have pre106 : ∀ t, Steps p.tables e below (s₁.setTop (mkF m 30 #[.val (.int P0), .val (.int (((P0.toUInt32 >>> ((16 : Int32) &&& 31).toUInt32).toInt32) &&& (7 : Int32)))] [(.int (10 : Int32))])) t → Steps p.tables e below (s₁.setTop (entryFrame m #[(.int P0)] 2)) t := fun t kt => pre105 t (by
            show Steps p.tables e below (s₁.setTop (mkF m 25 #[.val (.int P0), .val (.int (((P0.toUInt32 >>> ((16 : Int32) &&& 31).toUInt32).toInt32) &&& (7 : Int32)))] [(.int (2 : Int32)), (.int (((P0.toUInt32 >>> ((16 : Int32) &&& 31).toUInt32).toInt32) &&& (7 : Int32)))])) _
            refine XS.icmpNo X0.here hx rfl (hb hby d1_25) rfl (teq hc25).2 ?_
            show Steps p.tables e below (s₁.setTop (mkF m 28 #[.val (.int P0), .val (.int (((P0.toUInt32 >>> ((16 : Int32) &&& 31).toUInt32).toInt32) &&& (7 : Int32)))] [])) _
            refine XS.bipush X0.here hx rfl (hb hby d1_28) ?_
            exact kt)
        obtain ⟨fs, hr, hrun, hended, hW, hsame⟩ := X0.leave (v := some (.int (10 : Int32))) (fun h => by rw [Bd.returns] at h; cases h)
        refine ⟨_, _, pre106 _ ?_, hrun, hended, _, _, rfl, ?_, ⟨_, rfl⟩, hW, hsame.mono (by decide) (by decide)⟩
        · show Steps p.tables e below (s₁.setTop (mkF m 30 #[.val (.int P0), .val (.int (((P0.toUInt32 >>> ((16 : Int32) &&& 31).toUInt32).toInt32) &&& (7 : Int32)))] [(.int (10 : Int32))])) _
          exact retN X0 hx (t := .char) Bd.returns (by simp) (hb hby d1_30) hr
        · show Q1 Z P0 h0 n0 _ s₁.heap _
          rw [e0]
          exact ⟨(congrArg (fun z => some (Value.int z)) (show (10 : Int32) = (own_draw P0) from by unfold own_draw; rw [if_neg hc9, if_neg hc17, if_pos hc25])), N0, rfl⟩
      · have pre107 : ∀ t, Steps p.tables e below (s₁.setTop (mkF m 33 #[.val (.int P0), .val (.int (((P0.toUInt32 >>> ((16 : Int32) &&& 31).toUInt32).toInt32) &&& (7 : Int32)))] [(.int (3 : Int32)), (.int (((P0.toUInt32 >>> ((16 : Int32) &&& 31).toUInt32).toInt32) &&& (7 : Int32)))])) t → Steps p.tables e below (s₁.setTop (entryFrame m #[(.int P0)] 2)) t := fun t kt => pre105 t (by
            show Steps p.tables e below (s₁.setTop (mkF m 25 #[.val (.int P0), .val (.int (((P0.toUInt32 >>> ((16 : Int32) &&& 31).toUInt32).toInt32) &&& (7 : Int32)))] [(.int (2 : Int32)), (.int (((P0.toUInt32 >>> ((16 : Int32) &&& 31).toUInt32).toInt32) &&& (7 : Int32)))])) _
            refine XS.icmpYes X0.here hx rfl (pc0 := 25) (pc' := 31) rfl (hb hby d1_25) rfl (feq hc25).2 (by decide) (by decide) ?_
            show Steps p.tables e below (s₁.setTop (mkF m 31 #[.val (.int P0), .val (.int (((P0.toUInt32 >>> ((16 : Int32) &&& 31).toUInt32).toInt32) &&& (7 : Int32)))] [])) _
            refine XS.iloadN X0.here hx rfl (hb hby d1_31) rfl ?_
            show Steps p.tables e below (s₁.setTop (mkF m 32 #[.val (.int P0), .val (.int (((P0.toUInt32 >>> ((16 : Int32) &&& 31).toUInt32).toInt32) &&& (7 : Int32)))] [(.int (((P0.toUInt32 >>> ((16 : Int32) &&& 31).toUInt32).toInt32) &&& (7 : Int32)))])) _
            refine XS.iconst X0.here hx rfl (hb hby d1_32) ?_
            exact kt)
        by_cases hc33 : (((P0.toUInt32 >>> ((16 : Int32) &&& 31).toUInt32).toInt32) &&& (7 : Int32)) = (3 : Int32)
        · have pre108 : ∀ t, Steps p.tables e below (s₁.setTop (mkF m 38 #[.val (.int P0), .val (.int (((P0.toUInt32 >>> ((16 : Int32) &&& 31).toUInt32).toInt32) &&& (7 : Int32)))] [(.int (13 : Int32))])) t → Steps p.tables e below (s₁.setTop (entryFrame m #[(.int P0)] 2)) t := fun t kt => pre107 t (by
              show Steps p.tables e below (s₁.setTop (mkF m 33 #[.val (.int P0), .val (.int (((P0.toUInt32 >>> ((16 : Int32) &&& 31).toUInt32).toInt32) &&& (7 : Int32)))] [(.int (3 : Int32)), (.int (((P0.toUInt32 >>> ((16 : Int32) &&& 31).toUInt32).toInt32) &&& (7 : Int32)))])) _
              refine XS.icmpNo X0.here hx rfl (hb hby d1_33) rfl (teq hc33).2 ?_
              show Steps p.tables e below (s₁.setTop (mkF m 36 #[.val (.int P0), .val (.int (((P0.toUInt32 >>> ((16 : Int32) &&& 31).toUInt32).toInt32) &&& (7 : Int32)))] [])) _
              refine XS.bipush X0.here hx rfl (hb hby d1_36) ?_
              exact kt)
          obtain ⟨fs, hr, hrun, hended, hW, hsame⟩ := X0.leave (v := some (.int (13 : Int32))) (fun h => by rw [Bd.returns] at h; cases h)
          refine ⟨_, _, pre108 _ ?_, hrun, hended, _, _, rfl, ?_, ⟨_, rfl⟩, hW, hsame.mono (by decide) (by decide)⟩
          · show Steps p.tables e below (s₁.setTop (mkF m 38 #[.val (.int P0), .val (.int (((P0.toUInt32 >>> ((16 : Int32) &&& 31).toUInt32).toInt32) &&& (7 : Int32)))] [(.int (13 : Int32))])) _
            exact retN X0 hx (t := .char) Bd.returns (by simp) (hb hby d1_38) hr
          · show Q1 Z P0 h0 n0 _ s₁.heap _
            rw [e0]
            exact ⟨(congrArg (fun z => some (Value.int z)) (show (13 : Int32) = (own_draw P0) from by unfold own_draw; rw [if_neg hc9, if_neg hc17, if_neg hc25, if_pos hc33])), N0, rfl⟩
        · have pre109 : ∀ t, Steps p.tables e below (s₁.setTop (mkF m 41 #[.val (.int P0), .val (.int (((P0.toUInt32 >>> ((16 : Int32) &&& 31).toUInt32).toInt32) &&& (7 : Int32)))] [(.int (P0.toUInt32.toUInt16.toUInt32.toInt32))])) t → Steps p.tables e below (s₁.setTop (entryFrame m #[(.int P0)] 2)) t := fun t kt => pre107 t (by
              show Steps p.tables e below (s₁.setTop (mkF m 33 #[.val (.int P0), .val (.int (((P0.toUInt32 >>> ((16 : Int32) &&& 31).toUInt32).toInt32) &&& (7 : Int32)))] [(.int (3 : Int32)), (.int (((P0.toUInt32 >>> ((16 : Int32) &&& 31).toUInt32).toInt32) &&& (7 : Int32)))])) _
              refine XS.icmpYes X0.here hx rfl (pc0 := 33) (pc' := 39) rfl (hb hby d1_33) rfl (feq hc33).2 (by decide) (by decide) ?_
              show Steps p.tables e below (s₁.setTop (mkF m 39 #[.val (.int P0), .val (.int (((P0.toUInt32 >>> ((16 : Int32) &&& 31).toUInt32).toInt32) &&& (7 : Int32)))] [])) _
              refine XS.iloadN X0.here hx rfl (hb hby d1_39) rfl ?_
              show Steps p.tables e below (s₁.setTop (mkF m 40 #[.val (.int P0), .val (.int (((P0.toUInt32 >>> ((16 : Int32) &&& 31).toUInt32).toInt32) &&& (7 : Int32)))] [(.int P0)])) _
              refine XS.i2c X0.here hx rfl (hb hby d1_40) rfl ?_
              exact kt)
          obtain ⟨fs, hr, hrun, hended, hW, hsame⟩ := X0.leave (v := some (.int (nar .char (P0.toUInt32.toUInt16.toUInt32.toInt32)))) (fun h => by rw [Bd.returns] at h; cases h)
          refine ⟨_, _, pre109 _ ?_, hrun, hended, _, _, rfl, ?_, ⟨_, rfl⟩, hW, hsame.mono (by decide) (by decide)⟩
          · show Steps p.tables e below (s₁.setTop (mkF m 41 #[.val (.int P0), .val (.int (((P0.toUInt32 >>> ((16 : Int32) &&& 31).toUInt32).toInt32) &&& (7 : Int32)))] [(.int (P0.toUInt32.toUInt16.toUInt32.toInt32))])) _
            exact retN X0 hx (t := .char) Bd.returns (by simp) (hb hby d1_41) hr
          · show Q1 Z P0 h0 n0 _ s₁.heap _
            rw [e0]
            exact ⟨(congrArg (fun z => some (Value.int z)) (show (nar .char (P0.toUInt32.toUInt16.toUInt32.toInt32)) = (own_draw P0) from by unfold own_draw; rw [if_neg hc9, if_neg hc17, if_neg hc25, if_neg hc33]; exact own_nc P0)), N0, rfl⟩
theorem d2_0 : decode method_4_code 0 = .ok (.iload_n 1, 1) := by decide +kernel
theorem d2_1 : decode method_4_code 1 = .ok (.iload_n 2, 1) := by decide +kernel
theorem d2_2 : decode method_4_code 2 = .ok (.if_icmp .lt 10, 3) := by decide +kernel
theorem d2_5 : decode method_4_code 5 = .ok (.iload_n 1, 1) := by decide +kernel
theorem d2_6 : decode method_4_code 6 = .ok (.iload_n 2, 1) := by decide +kernel
theorem d2_7 : decode method_4_code 7 = .ok (.iload_n 3, 1) := by decide +kernel
theorem d2_8 : decode method_4_code 8 = .ok (.iadd, 1) := by decide +kernel
theorem d2_9 : decode method_4_code 9 = .ok (.if_icmp .lt 5, 3) := by decide +kernel
theorem d2_12 : decode method_4_code 12 = .ok (.iconst 1, 1) := by decide +kernel
theorem d2_13 : decode method_4_code 13 = .ok (.ireturn, 1) := by decide +kernel
theorem d2_14 : decode method_4_code 14 = .ok (.iload_n 0, 1) := by decide +kernel
theorem d2_15 : decode method_4_code 15 = .ok (.bipush 32, 2) := by decide +kernel
theorem d2_17 : decode method_4_code 17 = .ok (.if_icmp .eq 21, 3) := by decide +kernel
theorem d2_20 : decode method_4_code 20 = .ok (.iload_n 0, 1) := by decide +kernel
theorem d2_21 : decode method_4_code 21 = .ok (.bipush 9, 2) := by decide +kernel
theorem d2_23 : decode method_4_code 23 = .ok (.if_icmp .eq 15, 3) := by decide +kernel
theorem d2_26 : decode method_4_code 26 = .ok (.iload_n 0, 1) := by decide +kernel
theorem d2_27 : decode method_4_code 27 = .ok (.bipush 10, 2) := by decide +kernel
theorem d2_29 : decode method_4_code 29 = .ok (.if_icmp .eq 9, 3) := by decide +kernel
theorem d2_32 : decode method_4_code 32 = .ok (.iload_n 0, 1) := by decide +kernel
theorem d2_33 : decode method_4_code 33 = .ok (.bipush 13, 2) := by decide +kernel
theorem d2_35 : decode method_4_code 35 = .ok (.if_icmp .ne 7, 3) := by decide +kernel
theorem d2_38 : decode method_4_code 38 = .ok (.iconst 1, 1) := by decide +kernel
theorem d2_39 : decode method_4_code 39 = .ok (.goto 4, 3) := by decide +kernel
theorem d2_42 : decode method_4_code 42 = .ok (.iconst 0, 1) := by decide +kernel
theorem d2_43 : decode method_4_code 43 = .ok (.ireturn, 1) := by decide +kernel
theorem pn_2 : plainName "com/example/terseform/terseform/xml/XmlNamesIsWhitespacePinLaw" = true := by first | (simp [plainName, overriddenIn]; done) | decide +kernel
theorem ef_2 (m : MethodId) (P0 : Int32) (P1 : Int32) (P2 : Int32) (P3 : Int32) : entryFrame m #[(.int P0), (.int P1), (.int P2), (.int P3)] 4 = mkF m 0 #[.val (.int P0), .val (.int P1), .val (.int P2), .val (.int P3)] [] := by first | (simp [entryFrame, mkF, argsToLocals, Value.category]; done) | rfl
def tf2_42 (P0 : Int32) (P1 : Int32) (P2 : Int32) (P3 : Int32) : Int32 := (0 : Int32)
set_option maxRecDepth 65536 in
set_option maxHeartbeats 40000000 in
theorem tl2_42 {p : Program} {l : Launch} {e : Env} {s : State} {m : MethodId} {args : Array Value} {below : List Frame} {meth : Method} {c : Code} {T0 : State} {locs : List Loc} {Z : State} {a0 : Array Value} {h0 : Heap} {n0 : Nat} (P0 : Int32) (P1 : Int32) (P2 : Int32) (P3 : Int32)
    (X0 : Stand p l e ({ frames := 0, cells := 0, slots := 0, locals := 0 } : Room) s m args below meth c T0 locs 0 0) (hx : p.tables.exec = Jvm.exec) (hZ : Z.Warmed39 s.vm) (hw : ∀ d ∈ tables_1, d.before a0 Z = true) (hby : c.code = method_4_code) (hml : c.maxLocals = 4) (hown : s.vm.findClass "com/example/terseform/terseform/xml/XmlNamesIsWhitespacePinLaw" = some m.cls) (e0 : T0.heap = h0) (N0 : Fr n0 locs) :
    ∃ (T' : State) (pc' : Nat) (L' : Array Slot) (locs' : List Loc), Stand p l e ({ frames := 0, cells := 0, slots := 0, locals := 0 } : Room) s m args below meth c T' locs' 0 0 ∧ Fr n0 locs' ∧ T'.heap = h0 ∧ decode c.code pc' = .ok (.ireturn, 1) ∧ ∀ t, Steps p.tables e below (T'.setTop (mkF m pc' L' [.int (tf2_42 P0 P1 P2 P3)])) t → Steps p.tables e below (T0.setTop (mkF m 42 #[.val (.int P0), .val (.int P1), .val (.int P2), .val (.int P3)] [])) t := by
  have pre0 : ∀ t, Steps p.tables e below (T0.setTop (mkF m 42 #[.val (.int P0), .val (.int P1), .val (.int P2), .val (.int P3)] [])) t → Steps p.tables e below (T0.setTop (mkF m 42 #[.val (.int P0), .val (.int P1), .val (.int P2), .val (.int P3)] [])) t := fun t k => k
  have pre1001 : ∀ t, Steps p.tables e below (T0.setTop (mkF m 43 #[.val (.int P0), .val (.int P1), .val (.int P2), .val (.int P3)] [(.int (0 : Int32))])) t → Steps p.tables e below (T0.setTop (mkF m 42 #[.val (.int P0), .val (.int P1), .val (.int P2), .val (.int P3)] [])) t := fun t kt => pre0 t (by
      show Steps p.tables e below (T0.setTop (mkF m 42 #[.val (.int P0), .val (.int P1), .val (.int P2), .val (.int P3)] [])) _
      refine XS.iconst X0.here hx rfl (hb hby d2_42) ?_
      exact kt)
  have hv : tf2_42 P0 P1 P2 P3 = (0 : Int32) := rfl
  rw [hv]
  exact ⟨T0, 43, _, _, X0, N0, e0, (hb hby d2_43), pre1001⟩
theorem tb2_42 (P0 : Int32) (P1 : Int32) (P2 : Int32) (P3 : Int32) : tf2_42 P0 P1 P2 P3 = 0 ∨ tf2_42 P0 P1 P2 P3 = 1 := by
  unfold tf2_42
  (repeat' split) <;> first | exact Or.inl rfl | exact Or.inr rfl
def tf2_38 (P0 : Int32) (P1 : Int32) (P2 : Int32) (P3 : Int32) : Int32 := (1 : Int32)
set_option maxRecDepth 65536 in
set_option maxHeartbeats 40000000 in
theorem tl2_38 {p : Program} {l : Launch} {e : Env} {s : State} {m : MethodId} {args : Array Value} {below : List Frame} {meth : Method} {c : Code} {T0 : State} {locs : List Loc} {Z : State} {a0 : Array Value} {h0 : Heap} {n0 : Nat} (P0 : Int32) (P1 : Int32) (P2 : Int32) (P3 : Int32)
    (X0 : Stand p l e ({ frames := 0, cells := 0, slots := 0, locals := 0 } : Room) s m args below meth c T0 locs 0 0) (hx : p.tables.exec = Jvm.exec) (hZ : Z.Warmed39 s.vm) (hw : ∀ d ∈ tables_1, d.before a0 Z = true) (hby : c.code = method_4_code) (hml : c.maxLocals = 4) (hown : s.vm.findClass "com/example/terseform/terseform/xml/XmlNamesIsWhitespacePinLaw" = some m.cls) (e0 : T0.heap = h0) (N0 : Fr n0 locs) :
    ∃ (T' : State) (pc' : Nat) (L' : Array Slot) (locs' : List Loc), Stand p l e ({ frames := 0, cells := 0, slots := 0, locals := 0 } : Room) s m args below meth c T' locs' 0 0 ∧ Fr n0 locs' ∧ T'.heap = h0 ∧ decode c.code pc' = .ok (.ireturn, 1) ∧ ∀ t, Steps p.tables e below (T'.setTop (mkF m pc' L' [.int (tf2_38 P0 P1 P2 P3)])) t → Steps p.tables e below (T0.setTop (mkF m 38 #[.val (.int P0), .val (.int P1), .val (.int P2), .val (.int P3)] [])) t := by
  have pre0 : ∀ t, Steps p.tables e below (T0.setTop (mkF m 38 #[.val (.int P0), .val (.int P1), .val (.int P2), .val (.int P3)] [])) t → Steps p.tables e below (T0.setTop (mkF m 38 #[.val (.int P0), .val (.int P1), .val (.int P2), .val (.int P3)] [])) t := fun t k => k
  have pre2001 : ∀ t, Steps p.tables e below (T0.setTop (mkF m 43 #[.val (.int P0), .val (.int P1), .val (.int P2), .val (.int P3)] [(.int (1 : Int32))])) t → Steps p.tables e below (T0.setTop (mkF m 38 #[.val (.int P0), .val (.int P1), .val (.int P2), .val (.int P3)] [])) t := fun t kt => pre0 t (by
      show Steps p.tables e below (T0.setTop (mkF m 38 #[.val (.int P0), .val (.int P1), .val (.int P2), .val (.int P3)] [])) _
      refine XS.iconst X0.here hx rfl (hb hby d2_38) ?_
      show Steps p.tables e below (T0.setTop (mkF m 39 #[.val (.int P0), .val (.int P1), .val (.int P2), .val (.int P3)] [(.int (1 : Int32))])) _
      refine XS.goto X0.here hx rfl (pc0 := 39) (pc' := 43) rfl (hb hby d2_39) (by decide) (by decide) ?_
      exact kt)
  have hv : tf2_38 P0 P1 P2 P3 = (1 : Int32) := rfl
  rw [hv]
  exact ⟨T0, 43, _, _, X0, N0, e0, (hb hby d2_43), pre2001⟩
theorem tb2_38 (P0 : Int32) (P1 : Int32) (P2 : Int32) (P3 : Int32) : tf2_38 P0 P1 P2 P3 = 0 ∨ tf2_38 P0 P1 P2 P3 = 1 := by
  unfold tf2_38
  (repeat' split) <;> first | exact Or.inl rfl | exact Or.inr rfl | exact tb2_42 P0 P1 P2 P3
def tf2_14 (P0 : Int32) (P1 : Int32) (P2 : Int32) (P3 : Int32) : Int32 := (if P0 = (32 : Int32) then tf2_38 P0 P1 P2 P3 else (if P0 = (9 : Int32) then tf2_38 P0 P1 P2 P3 else (if P0 = (10 : Int32) then tf2_38 P0 P1 P2 P3 else (if P0 = (13 : Int32) then tf2_38 P0 P1 P2 P3 else tf2_42 P0 P1 P2 P3))))
set_option maxRecDepth 65536 in
set_option maxHeartbeats 40000000 in
theorem tl2_14 {p : Program} {l : Launch} {e : Env} {s : State} {m : MethodId} {args : Array Value} {below : List Frame} {meth : Method} {c : Code} {T0 : State} {locs : List Loc} {Z : State} {a0 : Array Value} {h0 : Heap} {n0 : Nat} (P0 : Int32) (P1 : Int32) (P2 : Int32) (P3 : Int32)
    (X0 : Stand p l e ({ frames := 0, cells := 0, slots := 0, locals := 0 } : Room) s m args below meth c T0 locs 0 0) (hx : p.tables.exec = Jvm.exec) (hZ : Z.Warmed39 s.vm) (hw : ∀ d ∈ tables_1, d.before a0 Z = true) (hby : c.code = method_4_code) (hml : c.maxLocals = 4) (hown : s.vm.findClass "com/example/terseform/terseform/xml/XmlNamesIsWhitespacePinLaw" = some m.cls) (e0 : T0.heap = h0) (N0 : Fr n0 locs) :
    ∃ (T' : State) (pc' : Nat) (L' : Array Slot) (locs' : List Loc), Stand p l e ({ frames := 0, cells := 0, slots := 0, locals := 0 } : Room) s m args below meth c T' locs' 0 0 ∧ Fr n0 locs' ∧ T'.heap = h0 ∧ decode c.code pc' = .ok (.ireturn, 1) ∧ ∀ t, Steps p.tables e below (T'.setTop (mkF m pc' L' [.int (tf2_14 P0 P1 P2 P3)])) t → Steps p.tables e below (T0.setTop (mkF m 14 #[.val (.int P0), .val (.int P1), .val (.int P2), .val (.int P3)] [])) t := by
  have pre0 : ∀ t, Steps p.tables e below (T0.setTop (mkF m 14 #[.val (.int P0), .val (.int P1), .val (.int P2), .val (.int P3)] [])) t → Steps p.tables e below (T0.setTop (mkF m 14 #[.val (.int P0), .val (.int P1), .val (.int P2), .val (.int P3)] [])) t := fun t k => k
  have pre3001 : ∀ t, Steps p.tables e below (T0.setTop (mkF m 17 #[.val (.int P0), .val (.int P1), .val (.int P2), .val (.int P3)] [(.int (32 : Int32)), (.int P0)])) t → Steps p.tables e below (T0.setTop (mkF m 14 #[.val (.int P0), .val (.int P1), .val (.int P2), .val (.int P3)] [])) t := fun t kt => pre0 t (by
      show Steps p.tables e below (T0.setTop (mkF m 14 #[.val (.int P0), .val (.int P1), .val (.int P2), .val (.int P3)] [])) _
      refine XS.iloadN X0.here hx rfl (hb hby d2_14) rfl ?_
      show Steps p.tables e below (T0.setTop (mkF m 15 #[.val (.int P0), .val (.int P1), .val (.int P2), .val (.int P3)] [(.int P0)])) _
      refine XS.bipush X0.here hx rfl (hb hby d2_15) ?_
      exact kt)
  by_cases hc17 : P0 = (32 : Int32)
  · have pre3002 : ∀ t, Steps p.tables e below (T0.setTop (mkF m 38 #[.val (.int P0), .val (.int P1), .val (.int P2), .val (.int P3)] [])) t → Steps p.tables e below (T0.setTop (mkF m 14 #[.val (.int P0), .val (.int P1), .val (.int P2), .val (.int P3)] [])) t := fun t kt => pre3001 t (by
        show Steps p.tables e below (T0.setTop (mkF m 17 #[.val (.int P0), .val (.int P1), .val (.int P2), .val (.int P3)] [(.int (32 : Int32)), (.int P0)])) _
        refine XS.icmpYes X0.here hx rfl (pc0 := 17) (pc' := 38) rfl (hb hby d2_17) rfl (teq hc17).1 (by decide) (by decide) ?_
        exact kt)
    obtain ⟨T3003, pc3003, L3003, lc3003, X3003, N3003, e3003, dc3003, st3003⟩ := tl2_38 P0 P1 P2 P3 (a0 := a0) (Z := Z) X0 hx hZ hw hby hml hown e0 N0
    have hv : tf2_14 P0 P1 P2 P3 = tf2_38 P0 P1 P2 P3 := by unfold tf2_14; rw [if_pos hc17]
    rw [hv]
    exact ⟨T3003, pc3003, L3003, lc3003, X3003, N3003, e3003, dc3003, fun t kt => pre3002 t (st3003 t kt)⟩
  · have pre3004 : ∀ t, Steps p.tables e below (T0.setTop (mkF m 23 #[.val (.int P0), .val (.int P1), .val (.int P2), .val (.int P3)] [(.int (9 : Int32)), (.int P0)])) t → Steps p.tables e below (T0.setTop (mkF m 14 #[.val (.int P0), .val (.int P1), .val (.int P2), .val (.int P3)] [])) t := fun t kt => pre3001 t (by
        show Steps p.tables e below (T0.setTop (mkF m 17 #[.val (.int P0), .val (.int P1), .val (.int P2), .val (.int P3)] [(.int (32 : Int32)), (.int P0)])) _
        refine XS.icmpNo X0.here hx rfl (hb hby d2_17) rfl (feq hc17).1 ?_
        show Steps p.tables e below (T0.setTop (mkF m 20 #[.val (.int P0), .val (.int P1), .val (.int P2), .val (.int P3)] [])) _
        refine XS.iloadN X0.here hx rfl (hb hby d2_20) rfl ?_
        show Steps p.tables e below (T0.setTop (mkF m 21 #[.val (.int P0), .val (.int P1), .val (.int P2), .val (.int P3)] [(.int P0)])) _
        refine XS.bipush X0.here hx rfl (hb hby d2_21) ?_
        exact kt)
    by_cases hc23 : P0 = (9 : Int32)
    · have pre3005 : ∀ t, Steps p.tables e below (T0.setTop (mkF m 38 #[.val (.int P0), .val (.int P1), .val (.int P2), .val (.int P3)] [])) t → Steps p.tables e below (T0.setTop (mkF m 14 #[.val (.int P0), .val (.int P1), .val (.int P2), .val (.int P3)] [])) t := fun t kt => pre3004 t (by
          show Steps p.tables e below (T0.setTop (mkF m 23 #[.val (.int P0), .val (.int P1), .val (.int P2), .val (.int P3)] [(.int (9 : Int32)), (.int P0)])) _
          refine XS.icmpYes X0.here hx rfl (pc0 := 23) (pc' := 38) rfl (hb hby d2_23) rfl (teq hc23).1 (by decide) (by decide) ?_
          exact kt)
      obtain ⟨T3006, pc3006, L3006, lc3006, X3006, N3006, e3006, dc3006, st3006⟩ := tl2_38 P0 P1 P2 P3 (a0 := a0) (Z := Z) X0 hx hZ hw hby hml hown e0 N0
      have hv : tf2_14 P0 P1 P2 P3 = tf2_38 P0 P1 P2 P3 := by unfold tf2_14; rw [if_neg hc17, if_pos hc23]
      rw [hv]
      exact ⟨T3006, pc3006, L3006, lc3006, X3006, N3006, e3006, dc3006, fun t kt => pre3005 t (st3006 t kt)⟩
    · have pre3007 : ∀ t, Steps p.tables e below (T0.setTop (mkF m 29 #[.val (.int P0), .val (.int P1), .val (.int P2), .val (.int P3)] [(.int (10 : Int32)), (.int P0)])) t → Steps p.tables e below (T0.setTop (mkF m 14 #[.val (.int P0), .val (.int P1), .val (.int P2), .val (.int P3)] [])) t := fun t kt => pre3004 t (by
          show Steps p.tables e below (T0.setTop (mkF m 23 #[.val (.int P0), .val (.int P1), .val (.int P2), .val (.int P3)] [(.int (9 : Int32)), (.int P0)])) _
          refine XS.icmpNo X0.here hx rfl (hb hby d2_23) rfl (feq hc23).1 ?_
          show Steps p.tables e below (T0.setTop (mkF m 26 #[.val (.int P0), .val (.int P1), .val (.int P2), .val (.int P3)] [])) _
          refine XS.iloadN X0.here hx rfl (hb hby d2_26) rfl ?_
          show Steps p.tables e below (T0.setTop (mkF m 27 #[.val (.int P0), .val (.int P1), .val (.int P2), .val (.int P3)] [(.int P0)])) _
          refine XS.bipush X0.here hx rfl (hb hby d2_27) ?_
          exact kt)
      by_cases hc29 : P0 = (10 : Int32)
      · have pre3008 : ∀ t, Steps p.tables e below (T0.setTop (mkF m 38 #[.val (.int P0), .val (.int P1), .val (.int P2), .val (.int P3)] [])) t → Steps p.tables e below (T0.setTop (mkF m 14 #[.val (.int P0), .val (.int P1), .val (.int P2), .val (.int P3)] [])) t := fun t kt => pre3007 t (by
            show Steps p.tables e below (T0.setTop (mkF m 29 #[.val (.int P0), .val (.int P1), .val (.int P2), .val (.int P3)] [(.int (10 : Int32)), (.int P0)])) _
            refine XS.icmpYes X0.here hx rfl (pc0 := 29) (pc' := 38) rfl (hb hby d2_29) rfl (teq hc29).1 (by decide) (by decide) ?_
            exact kt)
        obtain ⟨T3009, pc3009, L3009, lc3009, X3009, N3009, e3009, dc3009, st3009⟩ := tl2_38 P0 P1 P2 P3 (a0 := a0) (Z := Z) X0 hx hZ hw hby hml hown e0 N0
        have hv : tf2_14 P0 P1 P2 P3 = tf2_38 P0 P1 P2 P3 := by unfold tf2_14; rw [if_neg hc17, if_neg hc23, if_pos hc29]
        rw [hv]
        exact ⟨T3009, pc3009, L3009, lc3009, X3009, N3009, e3009, dc3009, fun t kt => pre3008 t (st3009 t kt)⟩
      · have pre3010 : ∀ t, Steps p.tables e below (T0.setTop (mkF m 35 #[.val (.int P0), .val (.int P1), .val (.int P2), .val (.int P3)] [(.int (13 : Int32)), (.int P0)])) t → Steps p.tables e below (T0.setTop (mkF m 14 #[.val (.int P0), .val (.int P1), .val (.int P2), .val (.int P3)] [])) t := fun t kt => pre3007 t (by
            show Steps p.tables e below (T0.setTop (mkF m 29 #[.val (.int P0), .val (.int P1), .val (.int P2), .val (.int P3)] [(.int (10 : Int32)), (.int P0)])) _
            refine XS.icmpNo X0.here hx rfl (hb hby d2_29) rfl (feq hc29).1 ?_
            show Steps p.tables e below (T0.setTop (mkF m 32 #[.val (.int P0), .val (.int P1), .val (.int P2), .val (.int P3)] [])) _
            refine XS.iloadN X0.here hx rfl (hb hby d2_32) rfl ?_
            show Steps p.tables e below (T0.setTop (mkF m 33 #[.val (.int P0), .val (.int P1), .val (.int P2), .val (.int P3)] [(.int P0)])) _
            refine XS.bipush X0.here hx rfl (hb hby d2_33) ?_
            exact kt)
        by_cases hc35 : P0 = (13 : Int32)
        · have pre3011 : ∀ t, Steps p.tables e below (T0.setTop (mkF m 38 #[.val (.int P0), .val (.int P1), .val (.int P2), .val (.int P3)] [])) t → Steps p.tables e below (T0.setTop (mkF m 14 #[.val (.int P0), .val (.int P1), .val (.int P2), .val (.int P3)] [])) t := fun t kt => pre3010 t (by
              show Steps p.tables e below (T0.setTop (mkF m 35 #[.val (.int P0), .val (.int P1), .val (.int P2), .val (.int P3)] [(.int (13 : Int32)), (.int P0)])) _
              refine XS.icmpNo X0.here hx rfl (hb hby d2_35) rfl (teq hc35).2 ?_
              exact kt)
          obtain ⟨T3012, pc3012, L3012, lc3012, X3012, N3012, e3012, dc3012, st3012⟩ := tl2_38 P0 P1 P2 P3 (a0 := a0) (Z := Z) X0 hx hZ hw hby hml hown e0 N0
          have hv : tf2_14 P0 P1 P2 P3 = tf2_38 P0 P1 P2 P3 := by unfold tf2_14; rw [if_neg hc17, if_neg hc23, if_neg hc29, if_pos hc35]
          rw [hv]
          exact ⟨T3012, pc3012, L3012, lc3012, X3012, N3012, e3012, dc3012, fun t kt => pre3011 t (st3012 t kt)⟩
        · have pre3013 : ∀ t, Steps p.tables e below (T0.setTop (mkF m 42 #[.val (.int P0), .val (.int P1), .val (.int P2), .val (.int P3)] [])) t → Steps p.tables e below (T0.setTop (mkF m 14 #[.val (.int P0), .val (.int P1), .val (.int P2), .val (.int P3)] [])) t := fun t kt => pre3010 t (by
              show Steps p.tables e below (T0.setTop (mkF m 35 #[.val (.int P0), .val (.int P1), .val (.int P2), .val (.int P3)] [(.int (13 : Int32)), (.int P0)])) _
              refine XS.icmpYes X0.here hx rfl (pc0 := 35) (pc' := 42) rfl (hb hby d2_35) rfl (feq hc35).2 (by decide) (by decide) ?_
              exact kt)
          obtain ⟨T3014, pc3014, L3014, lc3014, X3014, N3014, e3014, dc3014, st3014⟩ := tl2_42 P0 P1 P2 P3 (a0 := a0) (Z := Z) X0 hx hZ hw hby hml hown e0 N0
          have hv : tf2_14 P0 P1 P2 P3 = tf2_42 P0 P1 P2 P3 := by unfold tf2_14; rw [if_neg hc17, if_neg hc23, if_neg hc29, if_neg hc35]
          rw [hv]
          exact ⟨T3014, pc3014, L3014, lc3014, X3014, N3014, e3014, dc3014, fun t kt => pre3013 t (st3014 t kt)⟩
theorem tb2_14 (P0 : Int32) (P1 : Int32) (P2 : Int32) (P3 : Int32) : tf2_14 P0 P1 P2 P3 = 0 ∨ tf2_14 P0 P1 P2 P3 = 1 := by
  unfold tf2_14
  (repeat' split) <;> first | exact Or.inl rfl | exact Or.inr rfl | exact tb2_38 P0 P1 P2 P3 | exact tb2_42 P0 P1 P2 P3
def tf2_12 (P0 : Int32) (P1 : Int32) (P2 : Int32) (P3 : Int32) : Int32 := (1 : Int32)
set_option maxRecDepth 65536 in
set_option maxHeartbeats 40000000 in
theorem tl2_12 {p : Program} {l : Launch} {e : Env} {s : State} {m : MethodId} {args : Array Value} {below : List Frame} {meth : Method} {c : Code} {T0 : State} {locs : List Loc} {Z : State} {a0 : Array Value} {h0 : Heap} {n0 : Nat} (P0 : Int32) (P1 : Int32) (P2 : Int32) (P3 : Int32)
    (X0 : Stand p l e ({ frames := 0, cells := 0, slots := 0, locals := 0 } : Room) s m args below meth c T0 locs 0 0) (hx : p.tables.exec = Jvm.exec) (hZ : Z.Warmed39 s.vm) (hw : ∀ d ∈ tables_1, d.before a0 Z = true) (hby : c.code = method_4_code) (hml : c.maxLocals = 4) (hown : s.vm.findClass "com/example/terseform/terseform/xml/XmlNamesIsWhitespacePinLaw" = some m.cls) (e0 : T0.heap = h0) (N0 : Fr n0 locs) :
    ∃ (T' : State) (pc' : Nat) (L' : Array Slot) (locs' : List Loc), Stand p l e ({ frames := 0, cells := 0, slots := 0, locals := 0 } : Room) s m args below meth c T' locs' 0 0 ∧ Fr n0 locs' ∧ T'.heap = h0 ∧ decode c.code pc' = .ok (.ireturn, 1) ∧ ∀ t, Steps p.tables e below (T'.setTop (mkF m pc' L' [.int (tf2_12 P0 P1 P2 P3)])) t → Steps p.tables e below (T0.setTop (mkF m 12 #[.val (.int P0), .val (.int P1), .val (.int P2), .val (.int P3)] [])) t := by
  have pre0 : ∀ t, Steps p.tables e below (T0.setTop (mkF m 12 #[.val (.int P0), .val (.int P1), .val (.int P2), .val (.int P3)] [])) t → Steps p.tables e below (T0.setTop (mkF m 12 #[.val (.int P0), .val (.int P1), .val (.int P2), .val (.int P3)] [])) t := fun t k => k
  have pre4001 : ∀ t, Steps p.tables e below (T0.setTop (mkF m 13 #[.val (.int P0), .val (.int P1), .val (.int P2), .val (.int P3)] [(.int (1 : Int32))])) t → Steps p.tables e below (T0.setTop (mkF m 12 #[.val (.int P0), .val (.int P1), .val (.int P2), .val (.int P3)] [])) t := fun t kt => pre0 t (by
      show Steps p.tables e below (T0.setTop (mkF m 12 #[.val (.int P0), .val (.int P1), .val (.int P2), .val (.int P3)] [])) _
      refine XS.iconst X0.here hx rfl (hb hby d2_12) ?_
      exact kt)
  have hv : tf2_12 P0 P1 P2 P3 = (1 : Int32) := rfl
  rw [hv]
  exact ⟨T0, 13, _, _, X0, N0, e0, (hb hby d2_13), pre4001⟩
theorem tb2_12 (P0 : Int32) (P1 : Int32) (P2 : Int32) (P3 : Int32) : tf2_12 P0 P1 P2 P3 = 0 ∨ tf2_12 P0 P1 P2 P3 = 1 := by
  unfold tf2_12
  (repeat' split) <;> first | exact Or.inl rfl | exact Or.inr rfl | exact tb2_14 P0 P1 P2 P3 | exact tb2_38 P0 P1 P2 P3 | exact tb2_42 P0 P1 P2 P3
def tf2_0 (P0 : Int32) (P1 : Int32) (P2 : Int32) (P3 : Int32) : Int32 := (if P1 < P2 then tf2_12 P0 P1 P2 P3 else (if P1 < (P2 + P3) then tf2_14 P0 P1 P2 P3 else tf2_12 P0 P1 P2 P3))
set_option maxRecDepth 65536 in
set_option maxHeartbeats 40000000 in
theorem tl2_0 {p : Program} {l : Launch} {e : Env} {s : State} {m : MethodId} {args : Array Value} {below : List Frame} {meth : Method} {c : Code} {T0 : State} {locs : List Loc} {Z : State} {a0 : Array Value} {h0 : Heap} {n0 : Nat} (P0 : Int32) (P1 : Int32) (P2 : Int32) (P3 : Int32)
    (X0 : Stand p l e ({ frames := 0, cells := 0, slots := 0, locals := 0 } : Room) s m args below meth c T0 locs 0 0) (hx : p.tables.exec = Jvm.exec) (hZ : Z.Warmed39 s.vm) (hw : ∀ d ∈ tables_1, d.before a0 Z = true) (hby : c.code = method_4_code) (hml : c.maxLocals = 4) (hown : s.vm.findClass "com/example/terseform/terseform/xml/XmlNamesIsWhitespacePinLaw" = some m.cls) (e0 : T0.heap = h0) (N0 : Fr n0 locs) :
    ∃ (T' : State) (pc' : Nat) (L' : Array Slot) (locs' : List Loc), Stand p l e ({ frames := 0, cells := 0, slots := 0, locals := 0 } : Room) s m args below meth c T' locs' 0 0 ∧ Fr n0 locs' ∧ T'.heap = h0 ∧ decode c.code pc' = .ok (.ireturn, 1) ∧ ∀ t, Steps p.tables e below (T'.setTop (mkF m pc' L' [.int (tf2_0 P0 P1 P2 P3)])) t → Steps p.tables e below (T0.setTop (mkF m 0 #[.val (.int P0), .val (.int P1), .val (.int P2), .val (.int P3)] [])) t := by
  have pre0 : ∀ t, Steps p.tables e below (T0.setTop (mkF m 0 #[.val (.int P0), .val (.int P1), .val (.int P2), .val (.int P3)] [])) t → Steps p.tables e below (T0.setTop (mkF m 0 #[.val (.int P0), .val (.int P1), .val (.int P2), .val (.int P3)] [])) t := fun t k => k
  have pre5001 : ∀ t, Steps p.tables e below (T0.setTop (mkF m 2 #[.val (.int P0), .val (.int P1), .val (.int P2), .val (.int P3)] [(.int P2), (.int P1)])) t → Steps p.tables e below (T0.setTop (mkF m 0 #[.val (.int P0), .val (.int P1), .val (.int P2), .val (.int P3)] [])) t := fun t kt => pre0 t (by
      show Steps p.tables e below (T0.setTop (mkF m 0 #[.val (.int P0), .val (.int P1), .val (.int P2), .val (.int P3)] [])) _
      refine XS.iloadN X0.here hx rfl (hb hby d2_0) rfl ?_
      show Steps p.tables e below (T0.setTop (mkF m 1 #[.val (.int P0), .val (.int P1), .val (.int P2), .val (.int P3)] [(.int P1)])) _
      refine XS.iloadN X0.here hx rfl (hb hby d2_1) rfl ?_
      exact kt)
  by_cases hc2 : P1 < P2
  · have pre5002 : ∀ t, Steps p.tables e below (T0.setTop (mkF m 12 #[.val (.int P0), .val (.int P1), .val (.int P2), .val (.int P3)] [])) t → Steps p.tables e below (T0.setTop (mkF m 0 #[.val (.int P0), .val (.int P1), .val (.int P2), .val (.int P3)] [])) t := fun t kt => pre5001 t (by
        show Steps p.tables e below (T0.setTop (mkF m 2 #[.val (.int P0), .val (.int P1), .val (.int P2), .val (.int P3)] [(.int P2), (.int P1)])) _
        refine XS.icmpYes X0.here hx rfl (pc0 := 2) (pc' := 12) rfl (hb hby d2_2) rfl (tlt hc2).1 (by decide) (by decide) ?_
        exact kt)
    obtain ⟨T5003, pc5003, L5003, lc5003, X5003, N5003, e5003, dc5003, st5003⟩ := tl2_12 P0 P1 P2 P3 (a0 := a0) (Z := Z) X0 hx hZ hw hby hml hown e0 N0
    have hv : tf2_0 P0 P1 P2 P3 = tf2_12 P0 P1 P2 P3 := by unfold tf2_0; rw [if_pos hc2]
    rw [hv]
    exact ⟨T5003, pc5003, L5003, lc5003, X5003, N5003, e5003, dc5003, fun t kt => pre5002 t (st5003 t kt)⟩
  · have pre5004 : ∀ t, Steps p.tables e below (T0.setTop (mkF m 9 #[.val (.int P0), .val (.int P1), .val (.int P2), .val (.int P3)] [(.int (P2 + P3)), (.int P1)])) t → Steps p.tables e below (T0.setTop (mkF m 0 #[.val (.int P0), .val (.int P1), .val (.int P2), .val (.int P3)] [])) t := fun t kt => pre5001 t (by
        show Steps p.tables e below (T0.setTop (mkF m 2 #[.val (.int P0), .val (.int P1), .val (.int P2), .val (.int P3)] [(.int P2), (.int P1)])) _
        refine XS.icmpNo X0.here hx rfl (hb hby d2_2) rfl (flt hc2).1 ?_
        show Steps p.tables e below (T0.setTop (mkF m 5 #[.val (.int P0), .val (.int P1), .val (.int P2), .val (.int P3)] [])) _
        refine XS.iloadN X0.here hx rfl (hb hby d2_5) rfl ?_
        show Steps p.tables e below (T0.setTop (mkF m 6 #[.val (.int P0), .val (.int P1), .val (.int P2), .val (.int P3)] [(.int P1)])) _
        refine XS.iloadN X0.here hx rfl (hb hby d2_6) rfl ?_
        show Steps p.tables e below (T0.setTop (mkF m 7 #[.val (.int P0), .val (.int P1), .val (.int P2), .val (.int P3)] [(.int P2), (.int P1)])) _
        refine XS.iloadN X0.here hx rfl (hb hby d2_7) rfl ?_
        show Steps p.tables e below (T0.setTop (mkF m 8 #[.val (.int P0), .val (.int P1), .val (.int P2), .val (.int P3)] [(.int P3), (.int P2), (.int P1)])) _
        refine XS.iadd X0.here hx rfl (hb hby d2_8) rfl ?_
        exact kt)
    by_cases hc9 : P1 < (P2 + P3)
    · have pre5005 : ∀ t, Steps p.tables e below (T0.setTop (mkF m 14 #[.val (.int P0), .val (.int P1), .val (.int P2), .val (.int P3)] [])) t → Steps p.tables e below (T0.setTop (mkF m 0 #[.val (.int P0), .val (.int P1), .val (.int P2), .val (.int P3)] [])) t := fun t kt => pre5004 t (by
          show Steps p.tables e below (T0.setTop (mkF m 9 #[.val (.int P0), .val (.int P1), .val (.int P2), .val (.int P3)] [(.int (P2 + P3)), (.int P1)])) _
          refine XS.icmpYes X0.here hx rfl (pc0 := 9) (pc' := 14) rfl (hb hby d2_9) rfl (tlt hc9).1 (by decide) (by decide) ?_
          exact kt)
      obtain ⟨T5006, pc5006, L5006, lc5006, X5006, N5006, e5006, dc5006, st5006⟩ := tl2_14 P0 P1 P2 P3 (a0 := a0) (Z := Z) X0 hx hZ hw hby hml hown e0 N0
      have hv : tf2_0 P0 P1 P2 P3 = tf2_14 P0 P1 P2 P3 := by unfold tf2_0; rw [if_neg hc2, if_pos hc9]
      rw [hv]
      exact ⟨T5006, pc5006, L5006, lc5006, X5006, N5006, e5006, dc5006, fun t kt => pre5005 t (st5006 t kt)⟩
    · have pre5007 : ∀ t, Steps p.tables e below (T0.setTop (mkF m 12 #[.val (.int P0), .val (.int P1), .val (.int P2), .val (.int P3)] [])) t → Steps p.tables e below (T0.setTop (mkF m 0 #[.val (.int P0), .val (.int P1), .val (.int P2), .val (.int P3)] [])) t := fun t kt => pre5004 t (by
          show Steps p.tables e below (T0.setTop (mkF m 9 #[.val (.int P0), .val (.int P1), .val (.int P2), .val (.int P3)] [(.int (P2 + P3)), (.int P1)])) _
          refine XS.icmpNo X0.here hx rfl (hb hby d2_9) rfl (flt hc9).1 ?_
          exact kt)
      obtain ⟨T5008, pc5008, L5008, lc5008, X5008, N5008, e5008, dc5008, st5008⟩ := tl2_12 P0 P1 P2 P3 (a0 := a0) (Z := Z) X0 hx hZ hw hby hml hown e0 N0
      have hv : tf2_0 P0 P1 P2 P3 = tf2_12 P0 P1 P2 P3 := by unfold tf2_0; rw [if_neg hc2, if_neg hc9]
      rw [hv]
      exact ⟨T5008, pc5008, L5008, lc5008, X5008, N5008, e5008, dc5008, fun t kt => pre5007 t (st5008 t kt)⟩
theorem tb2_0 (P0 : Int32) (P1 : Int32) (P2 : Int32) (P3 : Int32) : tf2_0 P0 P1 P2 P3 = 0 ∨ tf2_0 P0 P1 P2 P3 = 1 := by
  unfold tf2_0
  (repeat' split) <;> first | exact Or.inl rfl | exact Or.inr rfl | exact tb2_12 P0 P1 P2 P3 | exact tb2_14 P0 P1 P2 P3 | exact tb2_38 P0 P1 P2 P3 | exact tb2_42 P0 P1 P2 P3
def Q2 (Z : State) (P0 : Int32) (P1 : Int32) (P2 : Int32) (P3 : Int32) (h0 : Heap) (n0 : Nat) (v : Option Value) (h : Heap) (L : List Loc) : Prop := (v = some (.int (tf2_0 P0 P1 P2 P3))) ∧ (Fr n0 L) ∧ (h = h0)
set_option maxRecDepth 65536 in
set_option maxHeartbeats 40000000 in
theorem rm2 (l : Launch) (Z : State) (a0 : Array Value) (hw : ∀ d ∈ tables_1, d.before a0 Z = true) (ws : List Jvm.Cond) (P0 : Int32) (P1 : Int32) (P2 : Int32) (P3 : Int32) (h0 : Heap) (n0 : Nat) (Z0 : n0 ≤ h0.size) :
    MetFree l (⟨"com/example/terseform/terseform/xml/XmlNamesIsWhitespacePinLaw", "ok", "(CIII)Z"⟩ : MethodName) (head1 (Jvm.Cond.code (⟨"com/example/terseform/terseform/xml/XmlNamesIsWhitespacePinLaw", "ok", "(CIII)Z"⟩ : MethodName) method_4_code 4 (some .boolean) :: ws) ({ frames := 0, cells := 0, slots := 0, locals := 0 } : Room)) (fun a U => a = #[(.int P0), (.int P1), (.int P2), (.int P3)] ∧ Z.Warmed39 U.vm ∧ U.heap = h0) (fun _ _ _ _ _ => True) (fun _ U o U' => ∃ v L, o = .returned v ∧ Q2 Z P0 P1 P2 P3 h0 n0 v U'.heap L ∧ FrameEnd U o U' L ({ frames := 0, cells := 0, slots := 0, locals := 0 } : Room).cells ({ frames := 0, cells := 0, slots := 0, locals := 0 } : Room).slots) := by
  refine MetFree.of_bodySF (plainFor_of_name pn_2) hisR ?_
  intro p e s m args below meth c s₁ Bd hml0 hP hK
  obtain ⟨rfl, hZ, hh⟩ := hP
  have hx := Bd.exec
  have hby := Bd.bytes
  have hml : c.maxLocals = 4 := hml0
  have hown : s.vm.findClass "com/example/terseform/terseform/xml/XmlNamesIsWhitespacePinLaw" = some m.cls := findClass_of_methodNamed Bd.named
  have X0 : Stand p l e ({ frames := 0, cells := 0, slots := 0, locals := 0 } : Room) s m #[(.int P0), (.int P1), (.int P2), (.int P3)] below meth c s₁ [] 0 0 := Stand.of_body Bd
  have e0 : s₁.heap = h0 := by rw [← hh, Bd.state]; rfl
  obtain ⟨T1, pc1, L1, lc1, X1, N1, e1, dc1, st1⟩ := tl2_0 P0 P1 P2 P3 (a0 := a0) (Z := Z) X0 hx hZ hw hby hml hown e0 (Fr.nil n0)
  obtain ⟨fs, hr, hrun, hended, hW, hsame⟩ := X1.leave (v := some (.int (tf2_0 P0 P1 P2 P3))) (fun h => by rw [Bd.returns] at h; cases h)
  refine ⟨_, _, castTop (ef_2 m P0 P1 P2 P3) (st1 _ ?_), hrun, hended, _, _, rfl, ?_, ⟨_, rfl⟩, hW, hsame.mono (by decide) (by decide)⟩
  · refine retN X1 hx (t := .boolean) Bd.returns (by simp) dc1 ?_
    rw [show nar .boolean (tf2_0 P0 P1 P2 P3) = tf2_0 P0 P1 P2 P3 from by rcases tb2_0 P0 P1 P2 P3 with q | q <;> rw [q] <;> rfl]
    exact hr
  · show Q2 Z P0 P1 P2 P3 h0 n0 _ T1.heap _
    rw [e1]
    exact ⟨rfl, N1, rfl⟩

theorem d3_2 : decode prog_62_method_4_code 2 = .ok (.iload_n 3, 1) := by decide +kernel
theorem d3_3 : decode prog_62_method_4_code 3 = .ok (.iload_n 1, 1) := by decide +kernel
theorem d3_4 : decode prog_62_method_4_code 4 = .ok (.iload_n 2, 1) := by decide +kernel
theorem d3_5 : decode prog_62_method_4_code 5 = .ok (.iadd, 1) := by decide +kernel
theorem d3_6 : decode prog_62_method_4_code 6 = .ok (.if_icmp .ge 44, 3) := by decide +kernel
theorem d3_9 : decode prog_62_method_4_code 9 = .ok (.aload_n 0, 1) := by decide +kernel
theorem d3_10 : decode prog_62_method_4_code 10 = .ok (.iload_n 3, 1) := by decide +kernel
theorem d3_11 : decode prog_62_method_4_code 11 = .ok (.caload, 1) := by decide +kernel
theorem d3_12 : decode prog_62_method_4_code 12 = .ok (.istore 4, 2) := by decide +kernel
theorem d3_14 : decode prog_62_method_4_code 14 = .ok (.iload 4, 2) := by decide +kernel
theorem d3_16 : decode prog_62_method_4_code 16 = .ok (.bipush 32, 2) := by decide +kernel
theorem d3_18 : decode prog_62_method_4_code 18 = .ok (.if_icmp .eq 26, 3) := by decide +kernel
theorem d3_21 : decode prog_62_method_4_code 21 = .ok (.iload 4, 2) := by decide +kernel
theorem d3_23 : decode prog_62_method_4_code 23 = .ok (.bipush 9, 2) := by decide +kernel
theorem d3_25 : decode prog_62_method_4_code 25 = .ok (.if_icmp .eq 19, 3) := by decide +kernel
theorem d3_28 : decode prog_62_method_4_code 28 = .ok (.iload 4, 2) := by decide +kernel
theorem d3_30 : decode prog_62_method_4_code 30 = .ok (.bipush 10, 2) := by decide +kernel
theorem d3_32 : decode prog_62_method_4_code 32 = .ok (.if_icmp .eq 12, 3) := by decide +kernel
theorem d3_35 : decode prog_62_method_4_code 35 = .ok (.iload 4, 2) := by decide +kernel
theorem d3_37 : decode prog_62_method_4_code 37 = .ok (.bipush 13, 2) := by decide +kernel
theorem d3_39 : decode prog_62_method_4_code 39 = .ok (.if_icmp .eq 5, 3) := by decide +kernel
theorem d3_42 : decode prog_62_method_4_code 42 = .ok (.iconst 0, 1) := by decide +kernel
theorem d3_43 : decode prog_62_method_4_code 43 = .ok (.ireturn, 1) := by decide +kernel
theorem d3_44 : decode prog_62_method_4_code 44 = .ok (.iinc 3 1, 3) := by decide +kernel
theorem d3_47 : decode prog_62_method_4_code 47 = .ok (.goto (-45), 3) := by decide +kernel
theorem d3_50 : decode prog_62_method_4_code 50 = .ok (.iconst 1, 1) := by decide +kernel
theorem d3_51 : decode prog_62_method_4_code 51 = .ok (.ireturn, 1) := by decide +kernel
set_option maxRecDepth 65536 in
set_option maxHeartbeats 40000000 in
theorem lpws {p : Program} {l : Launch} {e : Env} {s : State} {m : MethodId} {args : Array Value} {below : List Frame} {meth : Method} {c : Code} {Z : State} {a0 : Array Value} {h0 : Heap} {n0 : Nat} (A0 : Addr) (P1 : Int32) (P2 : Int32) (K0 : ClassId) (C0 : Int32) (C1 : Int32) (C2 : Int32) (C3 : Int32)
    (hx : p.tables.exec = Jvm.exec) (hZ : Z.Warmed39 s.vm) (hw : ∀ d ∈ tables_1, d.before a0 Z = true) (hby : c.code = prog_62_method_4_code) (hml : c.maxLocals = 5) (hown : s.vm.findClass "com/example/terseform/terseform/xml/XmlNames" = some m.cls) (pm0 : Arv Z h0 A0 K0 .char (4 : Int32) [(.int C0), (.int C1), (.int C2), (.int C3)] (.int (0 : Int32))) (hb1 : 0 ≤ (P1).toInt) (hb2 : 0 ≤ (P2).toInt) (hb3 : (P1).toInt + (P2).toInt ≤ 4) :
    ∀ (n : Nat) (i : Int32) (s4 : Slot) (T0 : State) (locs : List Loc) (X0 : Stand p l e ({ frames := 0, cells := 0, slots := 0, locals := 0 } : Room) s m args below meth c T0 locs 0 0) (e0 : T0.heap = h0) (N0 : Fr n0 locs) (hs4 : s4 = .unset ∨ ∃ z, s4 = .val (.int z)) (h1 : 0 ≤ i.toInt) (h2 : i.toInt + (n : Int) = ((P1 + P2)).toInt),
    ∃ (T' : State) (pc' : Nat) (L' : Array Slot) (locs' : List Loc), Stand p l e ({ frames := 0, cells := 0, slots := 0, locals := 0 } : Room) s m args below meth c T' locs' 0 0 ∧ Fr n0 locs' ∧ T'.heap = h0 ∧ decode c.code pc' = .ok (.ireturn, 1) ∧ ∀ t, Steps p.tables e below (T'.setTop (mkF m pc' L' [.int (own_all (own_ch C0 C1 C2 C3) i n)])) t → Steps p.tables e below (T0.setTop (mkF m 2 #[.val (.ref A0), .val (.int P1), .val (.int P2), .val (.int i), s4] [])) t := by
  intro n
  induction n with
  | zero =>
    intro i s4 T0 locs X0 e0 N0 hs4 h1 h2
    have pre0 : ∀ t, Steps p.tables e below (T0.setTop (mkF m 2 #[.val (.ref A0), .val (.int P1), .val (.int P2), .val (.int i), s4] [])) t → Steps p.tables e below (T0.setTop (mkF m 2 #[.val (.ref A0), .val (.int P1), .val (.int P2), .val (.int i), s4] [])) t := fun t k => k
    have pre4001 : ∀ t, Steps p.tables e below (T0.setTop (mkF m 51 #[.val (.ref A0), .val (.int P1), .val (.int P2), .val (.int i), s4] [(.int (1 : Int32))])) t → Steps p.tables e below (T0.setTop (mkF m 2 #[.val (.ref A0), .val (.int P1), .val (.int P2), .val (.int i), s4] [])) t := fun t kt => pre0 t (by
        show Steps p.tables e below (T0.setTop (mkF m 2 #[.val (.ref A0), .val (.int P1), .val (.int P2), .val (.int i), s4] [])) _
        refine XS.iloadN X0.here hx rfl (hb hby d3_2) rfl ?_
        show Steps p.tables e below (T0.setTop (mkF m 3 #[.val (.ref A0), .val (.int P1), .val (.int P2), .val (.int i), s4] [(.int i)])) _
        refine XS.iloadN X0.here hx rfl (hb hby d3_3) rfl ?_
        show Steps p.tables e below (T0.setTop (mkF m 4 #[.val (.ref A0), .val (.int P1), .val (.int P2), .val (.int i), s4] [(.int P1), (.int i)])) _
        refine XS.iloadN X0.here hx rfl (hb hby d3_4) rfl ?_
        show Steps p.tables e below (T0.setTop (mkF m 5 #[.val (.ref A0), .val (.int P1), .val (.int P2), .val (.int i), s4] [(.int P2), (.int P1), (.int i)])) _
        refine XS.iadd X0.here hx rfl (hb hby d3_5) rfl ?_
        show Steps p.tables e below (T0.setTop (mkF m 6 #[.val (.ref A0), .val (.int P1), .val (.int P2), .val (.int i), s4] [(.int (P1 + P2)), (.int i)])) _
        refine XS.icmpYes X0.here hx rfl (pc0 := 6) (pc' := 50) rfl (hb hby d3_6) rfl (flt (show ¬ (i < (P1 + P2)) from (by rw [Int32.lt_iff_toInt_lt]; omega))).2.1 (by decide) (by decide) ?_
        show Steps p.tables e below (T0.setTop (mkF m 50 #[.val (.ref A0), .val (.int P1), .val (.int P2), .val (.int i), s4] [])) _
        refine XS.iconst X0.here hx rfl (hb hby d3_50) ?_
        exact kt)
    have hv : (own_all (own_ch C0 C1 C2 C3) i 0) = (1 : Int32) := rfl
    rw [hv]
    exact ⟨T0, 51, _, _, X0, N0, e0, (hb hby d3_51), pre4001⟩
  | succ n ih =>
    intro i s4 T0 locs X0 e0 N0 hs4 h1 h2
    have pre0 : ∀ t, Steps p.tables e below (T0.setTop (mkF m 2 #[.val (.ref A0), .val (.int P1), .val (.int P2), .val (.int i), s4] [])) t → Steps p.tables e below (T0.setTop (mkF m 2 #[.val (.ref A0), .val (.int P1), .val (.int P2), .val (.int i), s4] [])) t := fun t k => k
    obtain ⟨cl5001, Ar5001, q5001, S5001, N_5001, H5001, G5001⟩ := id pm0
    have hi4 : i.toInt < 4 := by have := own_sum P1 P2 hb1 hb2 hb3; omega
    have hin5001 : ¬ (i < 0 ∨ cl5001.slots.size ≤ (i).toNatClampNeg) := inb_of S5001 (own_in4 i h1 hi4)
    have pre5002 : ∀ t, Steps p.tables e below (T0.setTop (mkF m 18 #[.val (.ref A0), .val (.int P1), .val (.int P2), .val (.int i), .val (.int (own_ch C0 C1 C2 C3 i))] [(.int (32 : Int32)), (.int (own_ch C0 C1 C2 C3 i))])) t → Steps p.tables e below (T0.setTop (mkF m 2 #[.val (.ref A0), .val (.int P1), .val (.int P2), .val (.int i), s4] [])) t := fun t kt => pre0 t (by
        show Steps p.tables e below (T0.setTop (mkF m 2 #[.val (.ref A0), .val (.int P1), .val (.int P2), .val (.int i), s4] [])) _
        refine XS.iloadN X0.here hx rfl (hb hby d3_2) rfl ?_
        show Steps p.tables e below (T0.setTop (mkF m 3 #[.val (.ref A0), .val (.int P1), .val (.int P2), .val (.int i), s4] [(.int i)])) _
        refine XS.iloadN X0.here hx rfl (hb hby d3_3) rfl ?_
        show Steps p.tables e below (T0.setTop (mkF m 4 #[.val (.ref A0), .val (.int P1), .val (.int P2), .val (.int i), s4] [(.int P1), (.int i)])) _
        refine XS.iloadN X0.here hx rfl (hb hby d3_4) rfl ?_
        show Steps p.tables e below (T0.setTop (mkF m 5 #[.val (.ref A0), .val (.int P1), .val (.int P2), .val (.int i), s4] [(.int P2), (.int P1), (.int i)])) _
        refine XS.iadd X0.here hx rfl (hb hby d3_5) rfl ?_
        show Steps p.tables e below (T0.setTop (mkF m 6 #[.val (.ref A0), .val (.int P1), .val (.int P2), .val (.int i), s4] [(.int (P1 + P2)), (.int i)])) _
        refine XS.icmpNo X0.here hx rfl (hb hby d3_6) rfl (tlt (show i < (P1 + P2) from (by rw [Int32.lt_iff_toInt_lt]; omega))).2.1 ?_
        show Steps p.tables e below (T0.setTop (mkF m 9 #[.val (.ref A0), .val (.int P1), .val (.int P2), .val (.int i), s4] [])) _
        refine XS.aloadN X0.here hx rfl (hb hby d3_9) rfl rfl ?_
        show Steps p.tables e below (T0.setTop (mkF m 10 #[.val (.ref A0), .val (.int P1), .val (.int P2), .val (.int i), s4] [(.ref A0)])) _
        refine XS.iloadN X0.here hx rfl (hb hby d3_10) rfl ?_
        show Steps p.tables e below (T0.setTop (mkF m 11 #[.val (.ref A0), .val (.int P1), .val (.int P2), .val (.int i), s4] [(.int i), (.ref A0)])) _
        refine X0.caload hx (j := i) (v := (.int (own_ch C0 C1 C2 C3 i))) (by rw [e0]; exact Ar5001.1) (State.isArrayOf_alike hZ.alike Ar5001.2.1) Ar5001.2.2 hin5001 (H5001.at hin5001 (own_get _ _ _ _ _ h1 hi4 _)) (g := (mkF m 11 #[.val (.ref A0), .val (.int P1), .val (.int P2), .val (.int i), s4] [(.int i), (.ref A0)])) rfl rfl (hb hby d3_11) _ ?_
        show Steps p.tables e below (T0.setTop (mkF m 12 #[.val (.ref A0), .val (.int P1), .val (.int P2), .val (.int i), s4] [(.int (own_ch C0 C1 C2 C3 i))])) _
        refine XS.istore X0.here hx rfl (hb hby d3_12) rfl (l' := #[.val (.ref A0), .val (.int P1), .val (.int P2), .val (.int i), .val (.int (own_ch C0 C1 C2 C3 i))]) (by rcases hs4 with rfl | ⟨z, rfl⟩ <;> rfl) ?_
        show Steps p.tables e below (T0.setTop (mkF m 14 #[.val (.ref A0), .val (.int P1), .val (.int P2), .val (.int i), .val (.int (own_ch C0 C1 C2 C3 i))] [])) _
        refine XS.iload X0.here hx rfl (hb hby d3_14) rfl ?_
        show Steps p.tables e below (T0.setTop (mkF m 16 #[.val (.ref A0), .val (.int P1), .val (.int P2), .val (.int i), .val (.int (own_ch C0 C1 C2 C3 i))] [(.int (own_ch C0 C1 C2 C3 i))])) _
        refine XS.bipush X0.here hx rfl (hb hby d3_16) ?_
        exact kt)
    by_cases hc18 : (own_ch C0 C1 C2 C3 i) = (32 : Int32)
    · have pre5003 : ∀ t, Steps p.tables e below (T0.setTop (mkF m 2 #[.val (.ref A0), .val (.int P1), .val (.int P2), .val (.int (i + (1 : Int32))), .val (.int (own_ch C0 C1 C2 C3 i))] [])) t → Steps p.tables e below (T0.setTop (mkF m 2 #[.val (.ref A0), .val (.int P1), .val (.int P2), .val (.int i), s4] [])) t := fun t kt => pre5002 t (by
          show Steps p.tables e below (T0.setTop (mkF m 18 #[.val (.ref A0), .val (.int P1), .val (.int P2), .val (.int i), .val (.int (own_ch C0 C1 C2 C3 i))] [(.int (32 : Int32)), (.int (own_ch C0 C1 C2 C3 i))])) _
          refine XS.icmpYes X0.here hx rfl (pc0 := 18) (pc' := 44) rfl (hb hby d3_18) rfl (teq hc18).1 (by decide) (by decide) ?_
          show Steps p.tables e below (T0.setTop (mkF m 44 #[.val (.ref A0), .val (.int P1), .val (.int P2), .val (.int i), .val (.int (own_ch C0 C1 C2 C3 i))] [])) _
          refine XS.iinc X0.here hx rfl (hb hby d3_44) rfl (l' := #[.val (.ref A0), .val (.int P1), .val (.int P2), .val (.int (i + (1 : Int32))), .val (.int (own_ch C0 C1 C2 C3 i))]) rfl ?_
          show Steps p.tables e below (T0.setTop (mkF m 47 #[.val (.ref A0), .val (.int P1), .val (.int P2), .val (.int (i + (1 : Int32))), .val (.int (own_ch C0 C1 C2 C3 i))] [])) _
          refine XS.goto X0.here hx rfl (pc0 := 47) (pc' := 2) rfl (hb hby d3_47) (by decide) (by decide) ?_
          exact kt)
      obtain ⟨T5004, pc5004, L5004, lc5004, X5004, N5004, e5004, dc5004, st5004⟩ := ih ((i + (1 : Int32))) (.val (.int (own_ch C0 C1 C2 C3 i))) T0 _ X0 e0 N0 (Or.inr ⟨_, rfl⟩) (by rw [own_inc i (by omega)]; omega) (by rw [own_inc i (by omega)]; omega)
      have hv : (own_all (own_ch C0 C1 C2 C3) i (n + 1)) = (own_all (own_ch C0 C1 C2 C3) ((i + (1 : Int32))) n) := by rw [own_all, if_pos (Or.inl hc18)]
      rw [hv]
      exact ⟨T5004, pc5004, L5004, lc5004, X5004, N5004, e5004, dc5004, fun t kt => pre5003 t (st5004 t kt)⟩
    · have pre5005 : ∀ t, Steps p.tables e below (T0.setTop (mkF m 25 #[.val (.ref A0), .val (.int P1), .val (.int P2), .val (.int i), .val (.int (own_ch C0 C1 C2 C3 i))] [(.int (9 : Int32)), (.int (own_ch C0 C1 C2 C3 i))])) t → Steps p.tables e below (T0.setTop (mkF m 2 #[.val (.ref A0), .val (.int P1), .val (.int P2), .val (.int i), s4] [])) t := fun t kt => pre5002 t (by
          show Steps p.tables e below (T0.setTop (mkF m 18 #[.val (.ref A0), .val (.int P1), .val (.int P2), .val (.int i), .val (.int (own_ch C0 C1 C2 C3 i))] [(.int (32 : Int32)), (.int (own_ch C0 C1 C2 C3 i))])) _
          refine XS.icmpNo X0.here hx rfl (hb hby d3_18) rfl (feq hc18).1 ?_
          show Steps p.tables e below (T0.setTop (mkF m 21 #[.val (.ref A0), .val (.int P1), .val (.int P2), .val (.int i), .val (.int (own_ch C0 C1 C2 C3 i))] [])) _
          refine XS.iload X0.here hx rfl (hb hby d3_21) rfl ?_
          show Steps p.tables e below (T0.setTop (mkF m 23 #[.val (.ref A0), .val (.int P1), .val (.int P2), .val (.int i), .val (.int (own_ch C0 C1 C2 C3 i))] [(.int (own_ch C0 C1 C2 C3 i))])) _
          refine XS.bipush X0.here hx rfl (hb hby d3_23) ?_
          exact kt)
      by_cases hc25 : (own_ch C0 C1 C2 C3 i) = (9 : Int32)
      · have pre5006 : ∀ t, Steps p.tables e below (T0.setTop (mkF m 2 #[.val (.ref A0), .val (.int P1), .val (.int P2), .val (.int (i + (1 : Int32))), .val (.int (own_ch C0 C1 C2 C3 i))] [])) t → Steps p.tables e below (T0.setTop (mkF m 2 #[.val (.ref A0), .val (.int P1), .val (.int P2), .val (.int i), s4] [])) t := fun t kt => pre5005 t (by
            show Steps p.tables e below (T0.setTop (mkF m 25 #[.val (.ref A0), .val (.int P1), .val (.int P2), .val (.int i), .val (.int (own_ch C0 C1 C2 C3 i))] [(.int (9 : Int32)), (.int (own_ch C0 C1 C2 C3 i))])) _
            refine XS.icmpYes X0.here hx rfl (pc0 := 25) (pc' := 44) rfl (hb hby d3_25) rfl (teq hc25).1 (by decide) (by decide) ?_
            show Steps p.tables e below (T0.setTop (mkF m 44 #[.val (.ref A0), .val (.int P1), .val (.int P2), .val (.int i), .val (.int (own_ch C0 C1 C2 C3 i))] [])) _
            refine XS.iinc X0.here hx rfl (hb hby d3_44) rfl (l' := #[.val (.ref A0), .val (.int P1), .val (.int P2), .val (.int (i + (1 : Int32))), .val (.int (own_ch C0 C1 C2 C3 i))]) rfl ?_
            show Steps p.tables e below (T0.setTop (mkF m 47 #[.val (.ref A0), .val (.int P1), .val (.int P2), .val (.int (i + (1 : Int32))), .val (.int (own_ch C0 C1 C2 C3 i))] [])) _
            refine XS.goto X0.here hx rfl (pc0 := 47) (pc' := 2) rfl (hb hby d3_47) (by decide) (by decide) ?_
            exact kt)
        obtain ⟨T5007, pc5007, L5007, lc5007, X5007, N5007, e5007, dc5007, st5007⟩ := ih ((i + (1 : Int32))) (.val (.int (own_ch C0 C1 C2 C3 i))) T0 _ X0 e0 N0 (Or.inr ⟨_, rfl⟩) (by rw [own_inc i (by omega)]; omega) (by rw [own_inc i (by omega)]; omega)
        have hv : (own_all (own_ch C0 C1 C2 C3) i (n + 1)) = (own_all (own_ch C0 C1 C2 C3) ((i + (1 : Int32))) n) := by rw [own_all, if_pos (Or.inr (Or.inl hc25))]
        rw [hv]
        exact ⟨T5007, pc5007, L5007, lc5007, X5007, N5007, e5007, dc5007, fun t kt => pre5006 t (st5007 t kt)⟩
      · have pre5008 : ∀ t, Steps p.tables e below (T0.setTop (mkF m 32 #[.val (.ref A0), .val (.int P1), .val (.int P2), .val (.int i), .val (.int (own_ch C0 C1 C2 C3 i))] [(.int (10 : Int32)), (.int (own_ch C0 C1 C2 C3 i))])) t → Steps p.tables e below (T0.setTop (mkF m 2 #[.val (.ref A0), .val (.int P1), .val (.int P2), .val (.int i), s4] [])) t := fun t kt => pre5005 t (by
            show Steps p.tables e below (T0.setTop (mkF m 25 #[.val (.ref A0), .val (.int P1), .val (.int P2), .val (.int i), .val (.int (own_ch C0 C1 C2 C3 i))] [(.int (9 : Int32)), (.int (own_ch C0 C1 C2 C3 i))])) _
            refine XS.icmpNo X0.here hx rfl (hb hby d3_25) rfl (feq hc25).1 ?_
            show Steps p.tables e below (T0.setTop (mkF m 28 #[.val (.ref A0), .val (.int P1), .val (.int P2), .val (.int i), .val (.int (own_ch C0 C1 C2 C3 i))] [])) _
            refine XS.iload X0.here hx rfl (hb hby d3_28) rfl ?_
            show Steps p.tables e below (T0.setTop (mkF m 30 #[.val (.ref A0), .val (.int P1), .val (.int P2), .val (.int i), .val (.int (own_ch C0 C1 C2 C3 i))] [(.int (own_ch C0 C1 C2 C3 i))])) _
            refine XS.bipush X0.here hx rfl (hb hby d3_30) ?_
            exact kt)
        by_cases hc32 : (own_ch C0 C1 C2 C3 i) = (10 : Int32)
        · have pre5009 : ∀ t, Steps p.tables e below (T0.setTop (mkF m 2 #[.val (.ref A0), .val (.int P1), .val (.int P2), .val (.int (i + (1 : Int32))), .val (.int (own_ch C0 C1 C2 C3 i))] [])) t → Steps p.tables e below (T0.setTop (mkF m 2 #[.val (.ref A0), .val (.int P1), .val (.int P2), .val (.int i), s4] [])) t := fun t kt => pre5008 t (by
              show Steps p.tables e below (T0.setTop (mkF m 32 #[.val (.ref A0), .val (.int P1), .val (.int P2), .val (.int i), .val (.int (own_ch C0 C1 C2 C3 i))] [(.int (10 : Int32)), (.int (own_ch C0 C1 C2 C3 i))])) _
              refine XS.icmpYes X0.here hx rfl (pc0 := 32) (pc' := 44) rfl (hb hby d3_32) rfl (teq hc32).1 (by decide) (by decide) ?_
              show Steps p.tables e below (T0.setTop (mkF m 44 #[.val (.ref A0), .val (.int P1), .val (.int P2), .val (.int i), .val (.int (own_ch C0 C1 C2 C3 i))] [])) _
              refine XS.iinc X0.here hx rfl (hb hby d3_44) rfl (l' := #[.val (.ref A0), .val (.int P1), .val (.int P2), .val (.int (i + (1 : Int32))), .val (.int (own_ch C0 C1 C2 C3 i))]) rfl ?_
              show Steps p.tables e below (T0.setTop (mkF m 47 #[.val (.ref A0), .val (.int P1), .val (.int P2), .val (.int (i + (1 : Int32))), .val (.int (own_ch C0 C1 C2 C3 i))] [])) _
              refine XS.goto X0.here hx rfl (pc0 := 47) (pc' := 2) rfl (hb hby d3_47) (by decide) (by decide) ?_
              exact kt)
          obtain ⟨T5010, pc5010, L5010, lc5010, X5010, N5010, e5010, dc5010, st5010⟩ := ih ((i + (1 : Int32))) (.val (.int (own_ch C0 C1 C2 C3 i))) T0 _ X0 e0 N0 (Or.inr ⟨_, rfl⟩) (by rw [own_inc i (by omega)]; omega) (by rw [own_inc i (by omega)]; omega)
          have hv : (own_all (own_ch C0 C1 C2 C3) i (n + 1)) = (own_all (own_ch C0 C1 C2 C3) ((i + (1 : Int32))) n) := by rw [own_all, if_pos (Or.inr (Or.inr (Or.inl hc32)))]
          rw [hv]
          exact ⟨T5010, pc5010, L5010, lc5010, X5010, N5010, e5010, dc5010, fun t kt => pre5009 t (st5010 t kt)⟩
        · have pre5011 : ∀ t, Steps p.tables e below (T0.setTop (mkF m 39 #[.val (.ref A0), .val (.int P1), .val (.int P2), .val (.int i), .val (.int (own_ch C0 C1 C2 C3 i))] [(.int (13 : Int32)), (.int (own_ch C0 C1 C2 C3 i))])) t → Steps p.tables e below (T0.setTop (mkF m 2 #[.val (.ref A0), .val (.int P1), .val (.int P2), .val (.int i), s4] [])) t := fun t kt => pre5008 t (by
              show Steps p.tables e below (T0.setTop (mkF m 32 #[.val (.ref A0), .val (.int P1), .val (.int P2), .val (.int i), .val (.int (own_ch C0 C1 C2 C3 i))] [(.int (10 : Int32)), (.int (own_ch C0 C1 C2 C3 i))])) _
              refine XS.icmpNo X0.here hx rfl (hb hby d3_32) rfl (feq hc32).1 ?_
              show Steps p.tables e below (T0.setTop (mkF m 35 #[.val (.ref A0), .val (.int P1), .val (.int P2), .val (.int i), .val (.int (own_ch C0 C1 C2 C3 i))] [])) _
              refine XS.iload X0.here hx rfl (hb hby d3_35) rfl ?_
              show Steps p.tables e below (T0.setTop (mkF m 37 #[.val (.ref A0), .val (.int P1), .val (.int P2), .val (.int i), .val (.int (own_ch C0 C1 C2 C3 i))] [(.int (own_ch C0 C1 C2 C3 i))])) _
              refine XS.bipush X0.here hx rfl (hb hby d3_37) ?_
              exact kt)
          by_cases hc39 : (own_ch C0 C1 C2 C3 i) = (13 : Int32)
          · have pre5012 : ∀ t, Steps p.tables e below (T0.setTop (mkF m 2 #[.val (.ref A0), .val (.int P1), .val (.int P2), .val (.int (i + (1 : Int32))), .val (.int (own_ch C0 C1 C2 C3 i))] [])) t → Steps p.tables e below (T0.setTop (mkF m 2 #[.val (.ref A0), .val (.int P1), .val (.int P2), .val (.int i), s4] [])) t := fun t kt => pre5011 t (by
                show Steps p.tables e below (T0.setTop (mkF m 39 #[.val (.ref A0), .val (.int P1), .val (.int P2), .val (.int i), .val (.int (own_ch C0 C1 C2 C3 i))] [(.int (13 : Int32)), (.int (own_ch C0 C1 C2 C3 i))])) _
                refine XS.icmpYes X0.here hx rfl (pc0 := 39) (pc' := 44) rfl (hb hby d3_39) rfl (teq hc39).1 (by decide) (by decide) ?_
                show Steps p.tables e below (T0.setTop (mkF m 44 #[.val (.ref A0), .val (.int P1), .val (.int P2), .val (.int i), .val (.int (own_ch C0 C1 C2 C3 i))] [])) _
                refine XS.iinc X0.here hx rfl (hb hby d3_44) rfl (l' := #[.val (.ref A0), .val (.int P1), .val (.int P2), .val (.int (i + (1 : Int32))), .val (.int (own_ch C0 C1 C2 C3 i))]) rfl ?_
                show Steps p.tables e below (T0.setTop (mkF m 47 #[.val (.ref A0), .val (.int P1), .val (.int P2), .val (.int (i + (1 : Int32))), .val (.int (own_ch C0 C1 C2 C3 i))] [])) _
                refine XS.goto X0.here hx rfl (pc0 := 47) (pc' := 2) rfl (hb hby d3_47) (by decide) (by decide) ?_
                exact kt)
            obtain ⟨T5013, pc5013, L5013, lc5013, X5013, N5013, e5013, dc5013, st5013⟩ := ih ((i + (1 : Int32))) (.val (.int (own_ch C0 C1 C2 C3 i))) T0 _ X0 e0 N0 (Or.inr ⟨_, rfl⟩) (by rw [own_inc i (by omega)]; omega) (by rw [own_inc i (by omega)]; omega)
            have hv : (own_all (own_ch C0 C1 C2 C3) i (n + 1)) = (own_all (own_ch C0 C1 C2 C3) ((i + (1 : Int32))) n) := by rw [own_all, if_pos (Or.inr (Or.inr (Or.inr hc39)))]
            rw [hv]
            exact ⟨T5013, pc5013, L5013, lc5013, X5013, N5013, e5013, dc5013, fun t kt => pre5012 t (st5013 t kt)⟩
          · have pre5014 : ∀ t, Steps p.tables e below (T0.setTop (mkF m 43 #[.val (.ref A0), .val (.int P1), .val (.int P2), .val (.int i), .val (.int (own_ch C0 C1 C2 C3 i))] [(.int (0 : Int32))])) t → Steps p.tables e below (T0.setTop (mkF m 2 #[.val (.ref A0), .val (.int P1), .val (.int P2), .val (.int i), s4] [])) t := fun t kt => pre5011 t (by
                show Steps p.tables e below (T0.setTop (mkF m 39 #[.val (.ref A0), .val (.int P1), .val (.int P2), .val (.int i), .val (.int (own_ch C0 C1 C2 C3 i))] [(.int (13 : Int32)), (.int (own_ch C0 C1 C2 C3 i))])) _
                refine XS.icmpNo X0.here hx rfl (hb hby d3_39) rfl (feq hc39).1 ?_
                show Steps p.tables e below (T0.setTop (mkF m 42 #[.val (.ref A0), .val (.int P1), .val (.int P2), .val (.int i), .val (.int (own_ch C0 C1 C2 C3 i))] [])) _
                refine XS.iconst X0.here hx rfl (hb hby d3_42) ?_
                exact kt)
            have hv : (own_all (own_ch C0 C1 C2 C3) i (n + 1)) = (0 : Int32) := by rw [own_all, if_neg (fun q => q.elim hc18 (fun q => q.elim hc25 (fun q => q.elim hc32 hc39)))]
            rw [hv]
            exact ⟨T0, 43, _, _, X0, N0, e0, (hb hby d3_43), pre5014⟩
theorem d3_0 : decode prog_62_method_4_code 0 = .ok (.iload_n 1, 1) := by decide +kernel
theorem d3_1 : decode prog_62_method_4_code 1 = .ok (.istore_n 3, 1) := by decide +kernel
theorem pn_3 : plainName "com/example/terseform/terseform/xml/XmlNames" = true := by first | (simp [plainName, overriddenIn]; done) | decide +kernel
theorem ef_3 (m : MethodId) (A0 : Addr) (P1 : Int32) (P2 : Int32) : entryFrame m #[(.ref A0), (.int P1), (.int P2)] 5 = mkF m 0 #[.val (.ref A0), .val (.int P1), .val (.int P2), .unset, .unset] [] := by first | (simp [entryFrame, mkF, argsToLocals, Value.category]; done) | rfl
def Q3 (Z : State) (A0 : Addr) (P1 : Int32) (P2 : Int32) (K0 : ClassId) (C0 : Int32) (C1 : Int32) (C2 : Int32) (C3 : Int32) (h0 : Heap) (n0 : Nat) (v : Option Value) (h : Heap) (L : List Loc) : Prop := (v = some (.int (own_all (own_ch C0 C1 C2 C3) P1 (P2).toInt.toNat))) ∧ (Fr n0 L) ∧ (h = h0)
set_option maxRecDepth 65536 in
set_option maxHeartbeats 40000000 in
theorem rm3 (l : Launch) (Z : State) (a0 : Array Value) (hw : ∀ d ∈ tables_1, d.before a0 Z = true) (ws : List Jvm.Cond) (A0 : Addr) (P1 : Int32) (P2 : Int32) (K0 : ClassId) (C0 : Int32) (C1 : Int32) (C2 : Int32) (C3 : Int32) (h0 : Heap) (n0 : Nat) (Z0 : n0 ≤ h0.size) (pm0 : Arv Z h0 A0 K0 .char (4 : Int32) [(.int C0), (.int C1), (.int C2), (.int C3)] (.int (0 : Int32))) (hb1 : 0 ≤ (P1).toInt) (hb2 : 0 ≤ (P2).toInt) (hb3 : (P1).toInt + (P2).toInt ≤ 4) :
    MetFree l (⟨"com/example/terseform/terseform/xml/XmlNames", "isWhitespace", "([CII)Z"⟩ : MethodName) (head1 (Jvm.Cond.code (⟨"com/example/terseform/terseform/xml/XmlNames", "isWhitespace", "([CII)Z"⟩ : MethodName) prog_62_method_4_code 5 (some .boolean) :: ws) ({ frames := 0, cells := 0, slots := 0, locals := 0 } : Room)) (fun a U => a = #[(.ref A0), (.int P1), (.int P2)] ∧ Z.Warmed39 U.vm ∧ U.heap = h0) (fun _ _ _ _ _ => True) (fun _ U o U' => ∃ v L, o = .returned v ∧ Q3 Z A0 P1 P2 K0 C0 C1 C2 C3 h0 n0 v U'.heap L ∧ FrameEnd U o U' L ({ frames := 0, cells := 0, slots := 0, locals := 0 } : Room).cells ({ frames := 0, cells := 0, slots := 0, locals := 0 } : Room).slots) := by
  refine MetFree.of_bodySF (plainFor_of_name pn_3) hisR ?_
  intro p e s m args below meth c s₁ Bd hml0 hP hK
  obtain ⟨rfl, hZ, hh⟩ := hP
  have hx := Bd.exec
  have hby := Bd.bytes
  have hml : c.maxLocals = 5 := hml0
  have hown : s.vm.findClass "com/example/terseform/terseform/xml/XmlNames" = some m.cls := findClass_of_methodNamed Bd.named
  have hnm := (name_of_methodNamed Bd.named Bd.method).1
  have X0 : Stand p l e ({ frames := 0, cells := 0, slots := 0, locals := 0 } : Room) s m #[(.ref A0), (.int P1), (.int P2)] below meth c s₁ [] 0 0 := Stand.of_body Bd
  have e0 : s₁.heap = h0 := by rw [← hh, Bd.state]; rfl
  have N0 := Fr.nil n0
  have pre0 : ∀ t, Steps p.tables e below (s₁.setTop (mkF m 0 #[.val (.ref A0), .val (.int P1), .val (.int P2), .unset, .unset] [])) t → Steps p.tables e below (s₁.setTop (entryFrame m #[(.ref A0), (.int P1), (.int P2)] 5)) t := fun t k => castTop (ef_3 m A0 P1 P2) k
  have pre102 : ∀ t, Steps p.tables e below (s₁.setTop (mkF m 2 #[.val (.ref A0), .val (.int P1), .val (.int P2), .val (.int P1), .unset] [])) t → Steps p.tables e below (s₁.setTop (entryFrame m #[(.ref A0), (.int P1), (.int P2)] 5)) t := fun t kt => pre0 t (by
      show Steps p.tables e below (s₁.setTop (mkF m 0 #[.val (.ref A0), .val (.int P1), .val (.int P2), .unset, .unset] [])) _
      refine XS.iloadN X0.here hx rfl (hb hby d3_0) rfl ?_
      show Steps p.tables e below (s₁.setTop (mkF m 1 #[.val (.ref A0), .val (.int P1), .val (.int P2), .unset, .unset] [(.int P1)])) _
      refine XS.istoreN X0.here hx rfl (hb hby d3_1) rfl (l' := #[.val (.ref A0), .val (.int P1), .val (.int P2), .val (.int P1), .unset]) rfl ?_
      exact kt)
  obtain ⟨T101, pc101, L101, lc101, X101, N101, e101, dc101, st101⟩ := lpws A0 P1 P2 K0 C0 C1 C2 C3 (a0 := a0) (Z := Z) hx hZ hw hby hml hown pm0 hb1 hb2 hb3 (P2.toInt.toNat) P1 .unset _ _ X0 e0 N0 (Or.inl rfl) hb1 (by have := own_sum P1 P2 hb1 hb2 hb3; omega)
  obtain ⟨fs, hr, hrun, hended, hW, hsame⟩ := X101.leave (v := some (.int (own_all (own_ch C0 C1 C2 C3) P1 (P2).toInt.toNat))) (fun h => by rw [Bd.returns] at h; cases h)
  refine ⟨_, _, pre102 _ (st101 _ ?_), hrun, hended, _, _, rfl, ?_, ⟨_, rfl⟩, hW, hsame.mono (by decide) (by decide)⟩
  · refine retN X101 hx (t := .boolean) Bd.returns (by simp) dc101 ?_
    rw [show nar .boolean (own_all (own_ch C0 C1 C2 C3) P1 (P2).toInt.toNat) = (own_all (own_ch C0 C1 C2 C3) P1 (P2).toInt.toNat) from by rcases own_all01 (own_ch C0 C1 C2 C3) (P2).toInt.toNat P1 with q | q <;> rw [q] <;> rfl]
    exact hr
  · show Q3 Z A0 P1 P2 K0 C0 C1 C2 C3 h0 n0 _ T101.heap _
    rw [e101]
    exact ⟨rfl, N101, rfl⟩
theorem own_ok (c k s l : Int32) : tf2_0 c k s l = if k < s then (1 : Int32) else (if k < (s + l) then (if own_isw c then (1 : Int32) else (0 : Int32)) else (1 : Int32)) := by
  have h : tf2_14 c k s l = if own_isw c then (1 : Int32) else (0 : Int32) := by
    unfold tf2_14
    by_cases a : c = (32 : Int32)
    · rw [if_pos a, if_pos (Or.inl a)]; rfl
    · rw [if_neg a]
      by_cases b : c = (9 : Int32)
      · rw [if_pos b, if_pos (Or.inr (Or.inl b))]; rfl
      · rw [if_neg b]
        by_cases d : c = (10 : Int32)
        · rw [if_pos d, if_pos (Or.inr (Or.inr (Or.inl d)))]; rfl
        · rw [if_neg d]
          by_cases e : c = (13 : Int32)
          · rw [if_pos e, if_pos (Or.inr (Or.inr (Or.inr e)))]; rfl
          · rw [if_neg e, if_neg (fun q => q.elim a (fun q => q.elim b (fun q => q.elim d e)))]; rfl
  unfold tf2_0
  rw [h]
  rfl
theorem own_s (P4 : Int32) : 0 ≤ ((P4 &&& (2147483647 : Int32)) % (5 : Int32)).toInt ∧ ((P4 &&& (2147483647 : Int32)) % (5 : Int32)).toInt ≤ 4 := by
  have a := c_and P4 (2147483647 : Int32) (by decide)
  have b := (c_iremV (P4 &&& (2147483647 : Int32)) (5 : Int32)).1 a.1 (by decide)
  have d : (5 : Int32).toInt = 5 := rfl
  rw [d] at b
  omega
theorem own_5s (P4 : Int32) : ((5 : Int32) - ((P4 &&& (2147483647 : Int32)) % (5 : Int32))).toInt = 5 - ((P4 &&& (2147483647 : Int32)) % (5 : Int32)).toInt := by
  have a := own_s P4
  have b := c_isub (5 : Int32) ((P4 &&& (2147483647 : Int32)) % (5 : Int32))
  have c := rng32 ((5 : Int32) - ((P4 &&& (2147483647 : Int32)) % (5 : Int32)))
  have d : (5 : Int32).toInt = 5 := rfl
  rw [d] at b
  omega
theorem own_nz (P4 : Int32) : ((5 : Int32) - ((P4 &&& (2147483647 : Int32)) % (5 : Int32))) ≠ 0 := fun q => by
  have a := own_5s P4
  have b := own_s P4
  rw [q] at a
  have z : (0 : Int32).toInt = 0 := rfl
  omega
theorem own_l (P4 P5 : Int32) : 0 ≤ ((P5 &&& (2147483647 : Int32)) % ((5 : Int32) - ((P4 &&& (2147483647 : Int32)) % (5 : Int32)))).toInt ∧ ((P4 &&& (2147483647 : Int32)) % (5 : Int32)).toInt + ((P5 &&& (2147483647 : Int32)) % ((5 : Int32) - ((P4 &&& (2147483647 : Int32)) % (5 : Int32)))).toInt ≤ 4 := by
  have a := c_and P5 (2147483647 : Int32) (by decide)
  have b := own_5s P4
  have c := own_s P4
  have d := (c_iremV (P5 &&& (2147483647 : Int32)) ((5 : Int32) - ((P4 &&& (2147483647 : Int32)) % (5 : Int32)))).1 a.1 (by omega)
  omega
theorem own_pairs (s l : Int32) (h1 : 0 ≤ s.toInt) (h2 : 0 ≤ l.toInt) (h3 : s.toInt + l.toInt ≤ 4) : ∃ p : Fin 5 × Fin 5, p.1.1 + p.2.1 ≤ 4 ∧ s = Int32.ofNat p.1.1 ∧ l = Int32.ofNat p.2.1 := by
  refine ⟨(⟨s.toInt.toNat, by omega⟩, ⟨l.toInt.toNat, by omega⟩), ?_, ?_, ?_⟩
  · show s.toInt.toNat + l.toInt.toNat ≤ 4
    omega
  · apply Int32.toInt_inj.mp
    show s.toInt = (Int32.ofNat s.toInt.toNat).toInt
    rw [Int32.toInt_ofNat_of_lt (by omega)]; omega
  · apply Int32.toInt_inj.mp
    show l.toInt = (Int32.ofNat l.toInt.toNat).toInt
    rw [Int32.toInt_ofNat_of_lt (by omega)]; omega
/-- with the four signs' whiteness as booleans: the two counts agree, for each start and length -/
def own_cnt (w0 w1 w2 w3 : Bool) (i : Nat) : Nat → Int32
  | 0 => 1
  | n + 1 => if (if i = 0 then w0 else if i = 1 then w1 else if i = 2 then w2 else w3) then own_cnt w0 w1 w2 w3 (i + 1) n else 0
def own_o1 (w : Bool) (k s l : Int32) : Int32 := if k < s then (1 : Int32) else (if k < (s + l) then (if w then (1 : Int32) else (0 : Int32)) else (1 : Int32))
theorem own_table : ∀ (s l : Fin 5) (w0 w1 w2 w3 : Bool), s.1 + l.1 ≤ 4 → own_cnt w0 w1 w2 w3 s.1 l.1 = if (own_o1 w0 0 (Int32.ofNat s.1) (Int32.ofNat l.1) = 0 ∨ own_o1 w1 1 (Int32.ofNat s.1) (Int32.ofNat l.1) = 0 ∨ own_o1 w2 2 (Int32.ofNat s.1) (Int32.ofNat l.1) = 0 ∨ own_o1 w3 3 (Int32.ofNat s.1) (Int32.ofNat l.1) = 0) then 0 else 1 := by decide +kernel
theorem own_cntall (c0 c1 c2 c3 : Int32) : ∀ (n i : Nat), i + n ≤ 4 → own_all (own_ch c0 c1 c2 c3) (Int32.ofNat i) n = own_cnt (decide (own_isw c0)) (decide (own_isw c1)) (decide (own_isw c2)) (decide (own_isw c3)) i n
  | 0, _, _ => rfl
  | n + 1, i, h => by
    have e : (Int32.ofNat i) + (1 : Int32) = Int32.ofNat (i + 1) := by
      apply Int32.toInt_inj.mp
      rw [own_inc _ (by rw [Int32.toInt_ofNat_of_lt (by omega)]; omega), Int32.toInt_ofNat_of_lt (by omega), Int32.toInt_ofNat_of_lt (by omega)]
      omega
    rw [own_all, own_cnt, e, own_cntall c0 c1 c2 c3 n (i + 1) (by omega)]
    have : i = 0 ∨ i = 1 ∨ i = 2 ∨ i = 3 := by omega
    have d0 : own_ch c0 c1 c2 c3 (Int32.ofNat 0) = c0 := rfl
    have d1 : own_ch c0 c1 c2 c3 (Int32.ofNat 1) = c1 := rfl
    have d2 : own_ch c0 c1 c2 c3 (Int32.ofNat 2) = c2 := rfl
    have d3 : own_ch c0 c1 c2 c3 (Int32.ofNat 3) = c3 := rfl
    rcases this with rfl | rfl | rfl | rfl
    · rw [d0]; simp
    · rw [d1]; simp
    · rw [d2]; simp
    · rw [d3]; simp
theorem own_fin (c0 c1 c2 c3 s l : Int32) (h1 : 0 ≤ s.toInt) (h2 : 0 ≤ l.toInt) (h3 : s.toInt + l.toInt ≤ 4) : own_all (own_ch c0 c1 c2 c3) s l.toInt.toNat = if (tf2_0 c0 (0 : Int32) s l = (0 : Int32) ∨ tf2_0 c1 (1 : Int32) s l = (0 : Int32) ∨ tf2_0 c2 (2 : Int32) s l = (0 : Int32) ∨ tf2_0 c3 (3 : Int32) s l = (0 : Int32)) then (0 : Int32) else (1 : Int32) := by
  have k : ∀ c k : Int32, tf2_0 c k s l = own_o1 (decide (own_isw c)) k s l := fun c k => by
    rw [own_ok]; unfold own_o1; simp
  rw [k, k, k, k]
  obtain ⟨p, hp, rfl, rfl⟩ := own_pairs s l h1 h2 h3
  have e : (Int32.ofNat p.2.1).toInt.toNat = p.2.1 := by
    rw [Int32.toInt_ofNat_of_lt (by have := p.2.2; omega)]; omega
  rw [e, own_cntall c0 c1 c2 c3 p.2.1 p.1.1 hp]
  exact own_table p.1 p.2 _ _ _ _ hp
theorem pn_0 : plainName "com/example/terseform/terseform/xml/XmlNamesIsWhitespacePinLaw" = true := by first | (simp [plainName, overriddenIn]; done) | decide +kernel
theorem pd_0_0 : parseMethodDescriptor "(I)C" = some ⟨[.int], some .char⟩ := by decide +kernel
theorem pd_0_1 : parseMethodDescriptor "(CIII)Z" = some ⟨[.char, .int, .int, .int], some .boolean⟩ := by decide +kernel
theorem pd_0_2 : parseMethodDescriptor "([CII)Z" = some ⟨[(.array .char), .int, .int], some .boolean⟩ := by decide +kernel
theorem ef_0 (m : MethodId) (P0 : Int32) (P1 : Int32) (P2 : Int32) (P3 : Int32) (P4 : Int32) (P5 : Int32) : entryFrame m #[(.int P0), (.int P1), (.int P2), (.int P3), (.int P4), (.int P5)] maxLocals = mkF m 0 #[.val (.int P0), .val (.int P1), .val (.int P2), .val (.int P3), .val (.int P4), .val (.int P5), .unset, .unset, .unset, .unset] [] := by first | (simp [entryFrame, mkF, argsToLocals, Value.category, maxLocals]; done) | rfl
def Q0 (Z : State) (P0 : Int32) (P1 : Int32) (P2 : Int32) (P3 : Int32) (P4 : Int32) (P5 : Int32) (h0 : Heap) (n0 : Nat) (v : Option Value) (h : Heap) (L : List Loc) : Prop := v = some (.int (1 : Int32)) ∧ Fr n0 L
set_option maxRecDepth 65536 in
set_option maxHeartbeats 40000000 in
theorem rm0 (l : Launch) (Z : State) (a0 : Array Value) (hw : ∀ d ∈ tables_1, d.before a0 Z = true) (ws : List Jvm.Cond) (P0 : Int32) (P1 : Int32) (P2 : Int32) (P3 : Int32) (P4 : Int32) (P5 : Int32) (h0 : Heap) (n0 : Nat) (Z0 : n0 ≤ h0.size) :
    MetFree l x (head1 (Jvm.Cond.code x code maxLocals ret :: ws) room_1) (fun a U => a = #[(.int P0), (.int P1), (.int P2), (.int P3), (.int P4), (.int P5)] ∧ Z.Warmed39 U.vm ∧ U.heap = h0) (fun _ _ _ _ _ => True) (fun _ U o U' => ∃ v L, o = .returned v ∧ Q0 Z P0 P1 P2 P3 P4 P5 h0 n0 v U'.heap L ∧ FrameEnd U o U' L 16 128) := by
  refine MetFree.of_bodySF (plainFor_of_name pn_0) hisR ?_
  intro p e s m args below meth c s₁ Bd hml0 hP hK
  obtain ⟨rfl, hZ, hh⟩ := hP
  have hx := Bd.exec
  have hby := Bd.bytes
  have hml : c.maxLocals = 10 := hml0
  have hown : s.vm.findClass "com/example/terseform/terseform/xml/XmlNamesIsWhitespacePinLaw" = some m.cls := findClass_of_methodNamed Bd.named
  have hnm := (name_of_methodNamed Bd.named Bd.method).1
  have X0 : Stand p l e room_1 s m #[(.int P0), (.int P1), (.int P2), (.int P3), (.int P4), (.int P5)] below meth c s₁ [] 0 0 := Stand.of_body Bd
  have e0 : s₁.heap = h0 := by rw [← hh, Bd.state]; rfl
  have N0 := Fr.nil n0
  have pre0 : ∀ t, Steps p.tables e below (s₁.setTop (mkF m 0 #[.val (.int P0), .val (.int P1), .val (.int P2), .val (.int P3), .val (.int P4), .val (.int P5), .unset, .unset, .unset, .unset] [])) t → Steps p.tables e below (s₁.setTop (entryFrame m #[(.int P0), (.int P1), (.int P2), (.int P3), (.int P4), (.int P5)] maxLocals)) t := fun t k => castTop (ef_0 m P0 P1 P2 P3 P4 P5) k
  obtain ⟨T101, h101, k101, X101, e101, E101, A101, EX101, st101⟩ := newPE X0 hx hZ (hw _ (List.mem_of_getElem? (i := 0) rfl)) e0 (g := (mkF m 1 #[.val (.int P0), .val (.int P1), .val (.int P2), .val (.int P3), .val (.int P4), .val (.int P5), .unset, .unset, .unset, .unset] [(.int (4 : Int32))])) rfl (hb hby at_1) rfl (by decide) (cap := 4) (by decide) (by decide) (by decide) (by decide) (ad := "[C") (by decide)
  obtain ⟨b101, q101⟩ : ∃ z, z = h0.size := ⟨_, rfl⟩
  rw [← q101] at A101 EX101 st101
  have g_b101 : n0 ≤ b101 := Nat.le_trans Z0 (Nat.le_of_eq q101.symm)
  have Z102 : n0 ≤ h101.size := Nat.le_trans Z0 E101.1
  have V101 : Arv Z h101 b101 k101 .char (4 : Int32) [(.int (0 : Int32)), (.int (0 : Int32)), (.int (0 : Int32)), (.int (0 : Int32))] (.int (0 : Int32)) := (Arv.new A101 (by decide)).pad (pad_rep [] (.int (0 : Int32)) 4)
  obtain ⟨_, _, ⟨T103, L103, k103, n103⟩, -, X103, ⟨Lc103, hQ103, l103, y103, z103⟩, st103⟩ := Jvm.LawKit.callS X101 hx (y := (⟨"com/example/terseform/terseform/xml/XmlNamesIsWhitespacePinLaw", "draw", "(I)C"⟩ : MethodName)) hown (mvT hZ (hw _ (List.mem_of_getElem? (i := 1) rfl))) (mvT hZ (hw _ (List.mem_of_getElem? (i := 2) rfl))) (mvT hZ (hw _ (List.mem_of_getElem? (i := 3) rfl))) (mvT hZ (hw _ (List.mem_of_getElem? (i := 4) rfl))) (by decide) (backOf (W := 2) (rm1 l Z a0 hw [] P0 h101 n0 Z102 ) hZ (hw _ (List.mem_of_getElem? (i := 4) rfl)) (hw _ (List.mem_of_getElem? (i := 3) rfl)) (by decide) (by decide)) (g := (mkF m 9 #[.val (.int P0), .val (.int P1), .val (.int P2), .val (.int P3), .val (.int P4), .val (.int P5), .val (.ref b101), .unset, .unset, .unset] [(.int P0), (.int (0 : Int32)), (.ref b101)])) rfl (by rw [hml]; rfl) (argsL := [(.int P0)]) (rest := [(.int (0 : Int32)), (.ref b101)]) (lenOf pd_0_0 rfl) rfl (by show 2 * 0 + _ ≤ _; exact Nat.le_of_eq rfl) (hb hby at_9) (fun _ _ => ⟨rfl, e101, (by decide : 1 + 0 ≤ _), (by decide : 4 + 0 ≤ _)⟩)
  dsimp only [Pt.U, Pt.locs, Pt.cells, Pt.slots] at X103 l103 y103 z103 st103 hQ103
  subst l103 y103 z103
  obtain ⟨rfl, N103q, K103⟩ := hQ103
  have N103 := Fr.app N0 N103q
  obtain ⟨cl104, Ar104, q104, S104, N_104, H104, G104⟩ := id V101
  have hin104 : ¬ ((0 : Int32) < 0 ∨ cl104.slots.size ≤ ((0 : Int32)).toNatClampNeg) := inb_of S104 ⟨by decide, by decide⟩
  obtain ⟨T105, h105, X105, e105, W105, st105⟩ := stC X103 hx hZ K103 Ar104 (j := (0 : Int32)) hin104 (g := (mkF m 12 #[.val (.int P0), .val (.int P1), .val (.int P2), .val (.int P3), .val (.int P4), .val (.int P5), .val (.ref b101), .unset, .unset, .unset] [(.int (own_draw P0)), (.int (0 : Int32)), (.ref b101)])) rfl rfl (hb hby at_12)
  have Z106 : n0 ≤ h105.size := Nat.le_trans Z102 (Nat.le_of_eq W105.size.symm)
  have V105 : Arv Z h105 b101 k101 .char (4 : Int32) [(.int (nar .char (own_draw P0))), (.int (0 : Int32)), (.int (0 : Int32)), (.int (0 : Int32))] (.int (0 : Int32)) := Arv.set Ar104 q104 S104 N_104 H104 G104 (fits_nar_char _) W105 0 rfl (Nat.le_of_ble_eq_true rfl)
  have N105 := Fr.snoc X105 N103 g_b101
  obtain ⟨_, _, ⟨T107, L107, k107, n107⟩, -, X107, ⟨Lc107, hQ107, l107, y107, z107⟩, st107⟩ := Jvm.LawKit.callS X105 hx (y := (⟨"com/example/terseform/terseform/xml/XmlNamesIsWhitespacePinLaw", "draw", "(I)C"⟩ : MethodName)) hown (mvT hZ (hw _ (List.mem_of_getElem? (i := 1) rfl))) (mvT hZ (hw _ (List.mem_of_getElem? (i := 2) rfl))) (mvT hZ (hw _ (List.mem_of_getElem? (i := 3) rfl))) (mvT hZ (hw _ (List.mem_of_getElem? (i := 4) rfl))) (by decide) (backOf (W := 2) (rm1 l Z a0 hw [] P1 h105 n0 Z106 ) hZ (hw _ (List.mem_of_getElem? (i := 4) rfl)) (hw _ (List.mem_of_getElem? (i := 3) rfl)) (by decide) (by decide)) (g := (mkF m 17 #[.val (.int P0), .val (.int P1), .val (.int P2), .val (.int P3), .val (.int P4), .val (.int P5), .val (.ref b101), .unset, .unset, .unset] [(.int P1), (.int (1 : Int32)), (.ref b101)])) rfl (by rw [hml]; rfl) (argsL := [(.int P1)]) (rest := [(.int (1 : Int32)), (.ref b101)]) (lenOf pd_0_0 rfl) rfl (by show 2 * 0 + _ ≤ _; exact Nat.le_of_eq rfl) (hb hby at_17) (fun _ _ => ⟨rfl, e105, (by decide : 1 + 0 ≤ _), (by decide : 4 + 0 ≤ _)⟩)
  dsimp only [Pt.U, Pt.locs, Pt.cells, Pt.slots] at X107 l107 y107 z107 st107 hQ107
  subst l107 y107 z107
  obtain ⟨rfl, N107q, K107⟩ := hQ107
  have N107 := Fr.app N105 N107q
  obtain ⟨cl108, Ar108, q108, S108, N_108, H108, G108⟩ := id V105
  have hin108 : ¬ ((1 : Int32) < 0 ∨ cl108.slots.size ≤ ((1 : Int32)).toNatClampNeg) := inb_of S108 ⟨by decide, by decide⟩
  obtain ⟨T109, h109, X109, e109, W109, st109⟩ := stC X107 hx hZ K107 Ar108 (j := (1 : Int32)) hin108 (g := (mkF m 20 #[.val (.int P0), .val (.int P1), .val (.int P2), .val (.int P3), .val (.int P4), .val (.int P5), .val (.ref b101), .unset, .unset, .unset] [(.int (own_draw P1)), (.int (1 : Int32)), (.ref b101)])) rfl rfl (hb hby at_20)
  have Z110 : n0 ≤ h109.size := Nat.le_trans Z106 (Nat.le_of_eq W109.size.symm)
  have V109 : Arv Z h109 b101 k101 .char (4 : Int32) [(.int (nar .char (own_draw P0))), (.int (nar .char (own_draw P1))), (.int (0 : Int32)), (.int (0 : Int32))] (.int (0 : Int32)) := Arv.set Ar108 q108 S108 N_108 H108 G108 (fits_nar_char _) W109 1 rfl (Nat.le_of_ble_eq_true rfl)
  have N109 := Fr.snoc X109 N107 g_b101
  obtain ⟨_, _, ⟨T111, L111, k111, n111⟩, -, X111, ⟨Lc111, hQ111, l111, y111, z111⟩, st111⟩ := Jvm.LawKit.callS X109 hx (y := (⟨"com/example/terseform/terseform/xml/XmlNamesIsWhitespacePinLaw", "draw", "(I)C"⟩ : MethodName)) hown (mvT hZ (hw _ (List.mem_of_getElem? (i := 1) rfl))) (mvT hZ (hw _ (List.mem_of_getElem? (i := 2) rfl))) (mvT hZ (hw _ (List.mem_of_getElem? (i := 3) rfl))) (mvT hZ (hw _ (List.mem_of_getElem? (i := 4) rfl))) (by decide) (backOf (W := 2) (rm1 l Z a0 hw [] P2 h109 n0 Z110 ) hZ (hw _ (List.mem_of_getElem? (i := 4) rfl)) (hw _ (List.mem_of_getElem? (i := 3) rfl)) (by decide) (by decide)) (g := (mkF m 25 #[.val (.int P0), .val (.int P1), .val (.int P2), .val (.int P3), .val (.int P4), .val (.int P5), .val (.ref b101), .unset, .unset, .unset] [(.int P2), (.int (2 : Int32)), (.ref b101)])) rfl (by rw [hml]; rfl) (argsL := [(.int P2)]) (rest := [(.int (2 : Int32)), (.ref b101)]) (lenOf pd_0_0 rfl) rfl (by show 2 * 0 + _ ≤ _; exact Nat.le_of_eq rfl) (hb hby at_25) (fun _ _ => ⟨rfl, e109, (by decide : 1 + 0 ≤ _), (by decide : 4 + 0 ≤ _)⟩)
  dsimp only [Pt.U, Pt.locs, Pt.cells, Pt.slots] at X111 l111 y111 z111 st111 hQ111
  subst l111 y111 z111
  obtain ⟨rfl, N111q, K111⟩ := hQ111
  have N111 := Fr.app N109 N111q
  obtain ⟨cl112, Ar112, q112, S112, N_112, H112, G112⟩ := id V109
  have hin112 : ¬ ((2 : Int32) < 0 ∨ cl112.slots.size ≤ ((2 : Int32)).toNatClampNeg) := inb_of S112 ⟨by decide, by decide⟩
  obtain ⟨T113, h113, X113, e113, W113, st113⟩ := stC X111 hx hZ K111 Ar112 (j := (2 : Int32)) hin112 (g := (mkF m 28 #[.val (.int P0), .val (.int P1), .val (.int P2), .val (.int P3), .val (.int P4), .val (.int P5), .val (.ref b101), .unset, .unset, .unset] [(.int (own_draw P2)), (.int (2 : Int32)), (.ref b101)])) rfl rfl (hb hby at_28)
  have Z114 : n0 ≤ h113.size := Nat.le_trans Z110 (Nat.le_of_eq W113.size.symm)
  have V113 : Arv Z h113 b101 k101 .char (4 : Int32) [(.int (nar .char (own_draw P0))), (.int (nar .char (own_draw P1))), (.int (nar .char (own_draw P2))), (.int (0 : Int32))] (.int (0 : Int32)) := Arv.set Ar112 q112 S112 N_112 H112 G112 (fits_nar_char _) W113 2 rfl (Nat.le_of_ble_eq_true rfl)
  have N113 := Fr.snoc X113 N111 g_b101
  obtain ⟨_, _, ⟨T115, L115, k115, n115⟩, -, X115, ⟨Lc115, hQ115, l115, y115, z115⟩, st115⟩ := Jvm.LawKit.callS X113 hx (y := (⟨"com/example/terseform/terseform/xml/XmlNamesIsWhitespacePinLaw", "draw", "(I)C"⟩ : MethodName)) hown (mvT hZ (hw _ (List.mem_of_getElem? (i := 1) rfl))) (mvT hZ (hw _ (List.mem_of_getElem? (i := 2) rfl))) (mvT hZ (hw _ (List.mem_of_getElem? (i := 3) rfl))) (mvT hZ (hw _ (List.mem_of_getElem? (i := 4) rfl))) (by decide) (backOf (W := 2) (rm1 l Z a0 hw [] P3 h113 n0 Z114 ) hZ (hw _ (List.mem_of_getElem? (i := 4) rfl)) (hw _ (List.mem_of_getElem? (i := 3) rfl)) (by decide) (by decide)) (g := (mkF m 33 #[.val (.int P0), .val (.int P1), .val (.int P2), .val (.int P3), .val (.int P4), .val (.int P5), .val (.ref b101), .unset, .unset, .unset] [(.int P3), (.int (3 : Int32)), (.ref b101)])) rfl (by rw [hml]; rfl) (argsL := [(.int P3)]) (rest := [(.int (3 : Int32)), (.ref b101)]) (lenOf pd_0_0 rfl) rfl (by show 2 * 0 + _ ≤ _; exact Nat.le_of_eq rfl) (hb hby at_33) (fun _ _ => ⟨rfl, e113, (by decide : 1 + 0 ≤ _), (by decide : 4 + 0 ≤ _)⟩)
  dsimp only [Pt.U, Pt.locs, Pt.cells, Pt.slots] at X115 l115 y115 z115 st115 hQ115
  subst l115 y115 z115
  obtain ⟨rfl, N115q, K115⟩ := hQ115
  have N115 := Fr.app N113 N115q
  obtain ⟨cl116, Ar116, q116, S116, N_116, H116, G116⟩ := id V113
  have hin116 : ¬ ((3 : Int32) < 0 ∨ cl116.slots.size ≤ ((3 : Int32)).toNatClampNeg) := inb_of S116 ⟨by decide, by decide⟩
  obtain ⟨T117, h117, X117, e117, W117, st117⟩ := stC X115 hx hZ K115 Ar116 (j := (3 : Int32)) hin116 (g := (mkF m 36 #[.val (.int P0), .val (.int P1), .val (.int P2), .val (.int P3), .val (.int P4), .val (.int P5), .val (.ref b101), .unset, .unset, .unset] [(.int (own_draw P3)), (.int (3 : Int32)), (.ref b101)])) rfl rfl (hb hby at_36)
  have Z118 : n0 ≤ h117.size := Nat.le_trans Z114 (Nat.le_of_eq W117.size.symm)
  have V117 : Arv Z h117 b101 k101 .char (4 : Int32) [(.int (nar .char (own_draw P0))), (.int (nar .char (own_draw P1))), (.int (nar .char (own_draw P2))), (.int (nar .char (own_draw P3)))] (.int (0 : Int32)) := Arv.set Ar116 q116 S116 N_116 H116 G116 (fits_nar_char _) W117 3 rfl (Nat.le_of_ble_eq_true rfl)
  have N117 := Fr.snoc X117 N115 g_b101
  obtain ⟨cl119, Ar119, q119, S119, N_119, H119, G119⟩ := id V117
  have hin119 : ¬ ((0 : Int32) < 0 ∨ cl119.slots.size ≤ ((0 : Int32)).toNatClampNeg) := inb_of S119 ⟨by decide, by decide⟩
  obtain ⟨_, _, ⟨T120, L120, k120, n120⟩, -, X120, ⟨Lc120, hQ120, l120, y120, z120⟩, st120⟩ := Jvm.LawKit.callS X117 hx (y := (⟨"com/example/terseform/terseform/xml/XmlNamesIsWhitespacePinLaw", "ok", "(CIII)Z"⟩ : MethodName)) hown (mvT hZ (hw _ (List.mem_of_getElem? (i := 6) rfl))) (mvT hZ (hw _ (List.mem_of_getElem? (i := 7) rfl))) (mvT hZ (hw _ (List.mem_of_getElem? (i := 3) rfl))) (mvT hZ (hw _ (List.mem_of_getElem? (i := 8) rfl))) (by decide) (backOf (W := 0) (rm2 l Z a0 hw [] (nar .char (own_draw P0)) (0 : Int32) ((P4 &&& (2147483647 : Int32)) % (5 : Int32)) ((P5 &&& (2147483647 : Int32)) % ((5 : Int32) - ((P4 &&& (2147483647 : Int32)) % (5 : Int32)))) h117 n0 Z118 ) hZ (hw _ (List.mem_of_getElem? (i := 8) rfl)) (hw _ (List.mem_of_getElem? (i := 3) rfl)) (by decide) (by decide)) (g := (mkF m 67 #[.val (.int P0), .val (.int P1), .val (.int P2), .val (.int P3), .val (.int P4), .val (.int P5), .val (.ref b101), .val (.int ((P4 &&& (2147483647 : Int32)) % (5 : Int32))), .val (.int ((P5 &&& (2147483647 : Int32)) % ((5 : Int32) - ((P4 &&& (2147483647 : Int32)) % (5 : Int32))))), .unset] [(.int ((P5 &&& (2147483647 : Int32)) % ((5 : Int32) - ((P4 &&& (2147483647 : Int32)) % (5 : Int32))))), (.int ((P4 &&& (2147483647 : Int32)) % (5 : Int32))), (.int (0 : Int32)), (.int (nar .char (own_draw P0)))])) rfl (by rw [hml]; rfl) (argsL := [(.int (nar .char (own_draw P0))), (.int (0 : Int32)), (.int ((P4 &&& (2147483647 : Int32)) % (5 : Int32))), (.int ((P5 &&& (2147483647 : Int32)) % ((5 : Int32) - ((P4 &&& (2147483647 : Int32)) % (5 : Int32)))))]) (rest := []) (lenOf pd_0_1 rfl) rfl (by show 2 * 0 + _ ≤ _; exact Nat.le_of_eq rfl) (hb hby at_67) (fun _ _ => ⟨rfl, e117, (by decide : 1 + 0 ≤ _), (by decide : 4 + 0 ≤ _)⟩)
  dsimp only [Pt.U, Pt.locs, Pt.cells, Pt.slots] at X120 l120 y120 z120 st120 hQ120
  subst l120 y120 z120
  obtain ⟨rfl, N120q, K120⟩ := hQ120
  have N120 := Fr.app N117 N120q
  have pre121 : ∀ t, Steps p.tables e below (T120.setTop (mkF m 70 #[.val (.int P0), .val (.int P1), .val (.int P2), .val (.int P3), .val (.int P4), .val (.int P5), .val (.ref b101), .val (.int ((P4 &&& (2147483647 : Int32)) % (5 : Int32))), .val (.int ((P5 &&& (2147483647 : Int32)) % ((5 : Int32) - ((P4 &&& (2147483647 : Int32)) % (5 : Int32))))), .unset] [(.int (tf2_0 (nar .char (own_draw P0)) (0 : Int32) ((P4 &&& (2147483647 : Int32)) % (5 : Int32)) ((P5 &&& (2147483647 : Int32)) % ((5 : Int32) - ((P4 &&& (2147483647 : Int32)) % (5 : Int32))))))])) t → Steps p.tables e below (s₁.setTop (entryFrame m #[(.int P0), (.int P1), (.int P2), (.int P3), (.int P4), (.int P5)] maxLocals)) t := fun t kt => pre0 t (by
      show Steps p.tables e below (s₁.setTop (mkF m 0 #[.val (.int P0), .val (.int P1), .val (.int P2), .val (.int P3), .val (.int P4), .val (.int P5), .unset, .unset, .unset, .unset] [])) _
      refine XS.iconst X0.here hx rfl (hb hby at_0) ?_
      show Steps p.tables e below (s₁.setTop (mkF m 1 #[.val (.int P0), .val (.int P1), .val (.int P2), .val (.int P3), .val (.int P4), .val (.int P5), .unset, .unset, .unset, .unset] [(.int (4 : Int32))])) _
      refine st101 _ ?_
      show Steps p.tables e below (T101.setTop (mkF m 3 #[.val (.int P0), .val (.int P1), .val (.int P2), .val (.int P3), .val (.int P4), .val (.int P5), .unset, .unset, .unset, .unset] [(.ref b101)])) _
      refine XS.astore X101.here hx rfl (hb hby at_3) rfl rfl (l' := #[.val (.int P0), .val (.int P1), .val (.int P2), .val (.int P3), .val (.int P4), .val (.int P5), .val (.ref b101), .unset, .unset, .unset]) rfl ?_
      show Steps p.tables e below (T101.setTop (mkF m 5 #[.val (.int P0), .val (.int P1), .val (.int P2), .val (.int P3), .val (.int P4), .val (.int P5), .val (.ref b101), .unset, .unset, .unset] [])) _
      refine XS.aload X101.here hx rfl (hb hby at_5) rfl rfl ?_
      show Steps p.tables e below (T101.setTop (mkF m 7 #[.val (.int P0), .val (.int P1), .val (.int P2), .val (.int P3), .val (.int P4), .val (.int P5), .val (.ref b101), .unset, .unset, .unset] [(.ref b101)])) _
      refine XS.iconst X101.here hx rfl (hb hby at_7) ?_
      show Steps p.tables e below (T101.setTop (mkF m 8 #[.val (.int P0), .val (.int P1), .val (.int P2), .val (.int P3), .val (.int P4), .val (.int P5), .val (.ref b101), .unset, .unset, .unset] [(.int (0 : Int32)), (.ref b101)])) _
      refine XS.iloadN X101.here hx rfl (hb hby at_8) rfl ?_
      show Steps p.tables e below (T101.setTop (mkF m 9 #[.val (.int P0), .val (.int P1), .val (.int P2), .val (.int P3), .val (.int P4), .val (.int P5), .val (.ref b101), .unset, .unset, .unset] [(.int P0), (.int (0 : Int32)), (.ref b101)])) _
      refine st103 _ ?_
      show Steps p.tables e below (T103.setTop (mkF m 12 #[.val (.int P0), .val (.int P1), .val (.int P2), .val (.int P3), .val (.int P4), .val (.int P5), .val (.ref b101), .unset, .unset, .unset] [(.int (own_draw P0)), (.int (0 : Int32)), (.ref b101)])) _
      refine st105 _ ?_
      show Steps p.tables e below (T105.setTop (mkF m 13 #[.val (.int P0), .val (.int P1), .val (.int P2), .val (.int P3), .val (.int P4), .val (.int P5), .val (.ref b101), .unset, .unset, .unset] [])) _
      refine XS.aload X105.here hx rfl (hb hby at_13) rfl rfl ?_
      show Steps p.tables e below (T105.setTop (mkF m 15 #[.val (.int P0), .val (.int P1), .val (.int P2), .val (.int P3), .val (.int P4), .val (.int P5), .val (.ref b101), .unset, .unset, .unset] [(.ref b101)])) _
      refine XS.iconst X105.here hx rfl (hb hby at_15) ?_
      show Steps p.tables e below (T105.setTop (mkF m 16 #[.val (.int P0), .val (.int P1), .val (.int P2), .val (.int P3), .val (.int P4), .val (.int P5), .val (.ref b101), .unset, .unset, .unset] [(.int (1 : Int32)), (.ref b101)])) _
      refine XS.iloadN X105.here hx rfl (hb hby at_16) rfl ?_
      show Steps p.tables e below (T105.setTop (mkF m 17 #[.val (.int P0), .val (.int P1), .val (.int P2), .val (.int P3), .val (.int P4), .val (.int P5), .val (.ref b101), .unset, .unset, .unset] [(.int P1), (.int (1 : Int32)), (.ref b101)])) _
      refine st107 _ ?_
      show Steps p.tables e below (T107.setTop (mkF m 20 #[.val (.int P0), .val (.int P1), .val (.int P2), .val (.int P3), .val (.int P4), .val (.int P5), .val (.ref b101), .unset, .unset, .unset] [(.int (own_draw P1)), (.int (1 : Int32)), (.ref b101)])) _
      refine st109 _ ?_
      show Steps p.tables e below (T109.setTop (mkF m 21 #[.val (.int P0), .val (.int P1), .val (.int P2), .val (.int P3), .val (.int P4), .val (.int P5), .val (.ref b101), .unset, .unset, .unset] [])) _
      refine XS.aload X109.here hx rfl (hb hby at_21) rfl rfl ?_
      show Steps p.tables e below (T109.setTop (mkF m 23 #[.val (.int P0), .val (.int P1), .val (.int P2), .val (.int P3), .val (.int P4), .val (.int P5), .val (.ref b101), .unset, .unset, .unset] [(.ref b101)])) _
      refine XS.iconst X109.here hx rfl (hb hby at_23) ?_
      show Steps p.tables e below (T109.setTop (mkF m 24 #[.val (.int P0), .val (.int P1), .val (.int P2), .val (.int P3), .val (.int P4), .val (.int P5), .val (.ref b101), .unset, .unset, .unset] [(.int (2 : Int32)), (.ref b101)])) _
      refine XS.iloadN X109.here hx rfl (hb hby at_24) rfl ?_
      show Steps p.tables e below (T109.setTop (mkF m 25 #[.val (.int P0), .val (.int P1), .val (.int P2), .val (.int P3), .val (.int P4), .val (.int P5), .val (.ref b101), .unset, .unset, .unset] [(.int P2), (.int (2 : Int32)), (.ref b101)])) _
      refine st111 _ ?_
      show Steps p.tables e below (T111.setTop (mkF m 28 #[.val (.int P0), .val (.int P1), .val (.int P2), .val (.int P3), .val (.int P4), .val (.int P5), .val (.ref b101), .unset, .unset, .unset] [(.int (own_draw P2)), (.int (2 : Int32)), (.ref b101)])) _
      refine st113 _ ?_
      show Steps p.tables e below (T113.setTop (mkF m 29 #[.val (.int P0), .val (.int P1), .val (.int P2), .val (.int P3), .val (.int P4), .val (.int P5), .val (.ref b101), .unset, .unset, .unset] [])) _
      refine XS.aload X113.here hx rfl (hb hby at_29) rfl rfl ?_
      show Steps p.tables e below (T113.setTop (mkF m 31 #[.val (.int P0), .val (.int P1), .val (.int P2), .val (.int P3), .val (.int P4), .val (.int P5), .val (.ref b101), .unset, .unset, .unset] [(.ref b101)])) _
      refine XS.iconst X113.here hx rfl (hb hby at_31) ?_
      show Steps p.tables e below (T113.setTop (mkF m 32 #[.val (.int P0), .val (.int P1), .val (.int P2), .val (.int P3), .val (.int P4), .val (.int P5), .val (.ref b101), .unset, .unset, .unset] [(.int (3 : Int32)), (.ref b101)])) _
      refine XS.iloadN X113.here hx rfl (hb hby at_32) rfl ?_
      show Steps p.tables e below (T113.setTop (mkF m 33 #[.val (.int P0), .val (.int P1), .val (.int P2), .val (.int P3), .val (.int P4), .val (.int P5), .val (.ref b101), .unset, .unset, .unset] [(.int P3), (.int (3 : Int32)), (.ref b101)])) _
      refine st115 _ ?_
      show Steps p.tables e below (T115.setTop (mkF m 36 #[.val (.int P0), .val (.int P1), .val (.int P2), .val (.int P3), .val (.int P4), .val (.int P5), .val (.ref b101), .unset, .unset, .unset] [(.int (own_draw P3)), (.int (3 : Int32)), (.ref b101)])) _
      refine st117 _ ?_
      show Steps p.tables e below (T117.setTop (mkF m 37 #[.val (.int P0), .val (.int P1), .val (.int P2), .val (.int P3), .val (.int P4), .val (.int P5), .val (.ref b101), .unset, .unset, .unset] [])) _
      refine XS.iload X117.here hx rfl (hb hby at_37) rfl ?_
      show Steps p.tables e below (T117.setTop (mkF m 39 #[.val (.int P0), .val (.int P1), .val (.int P2), .val (.int P3), .val (.int P4), .val (.int P5), .val (.ref b101), .unset, .unset, .unset] [(.int P4)])) _
      refine X117.ldcInt hx hown (mvT hZ (hw _ (List.mem_of_getElem? (i := 5) rfl))) (g := (mkF m 39 #[.val (.int P0), .val (.int P1), .val (.int P2), .val (.int P3), .val (.int P4), .val (.int P5), .val (.ref b101), .unset, .unset, .unset] [(.int P4)])) rfl (hb hby at_39) _ ?_
      show Steps p.tables e below (T117.setTop (mkF m 41 #[.val (.int P0), .val (.int P1), .val (.int P2), .val (.int P3), .val (.int P4), .val (.int P5), .val (.ref b101), .unset, .unset, .unset] [(.int (2147483647 : Int32)), (.int P4)])) _
      refine XS.iand X117.here hx rfl (hb hby at_41) rfl ?_
      show Steps p.tables e below (T117.setTop (mkF m 42 #[.val (.int P0), .val (.int P1), .val (.int P2), .val (.int P3), .val (.int P4), .val (.int P5), .val (.ref b101), .unset, .unset, .unset] [(.int (P4 &&& (2147483647 : Int32)))])) _
      refine XS.iconst X117.here hx rfl (hb hby at_42) ?_
      show Steps p.tables e below (T117.setTop (mkF m 43 #[.val (.int P0), .val (.int P1), .val (.int P2), .val (.int P3), .val (.int P4), .val (.int P5), .val (.ref b101), .unset, .unset, .unset] [(.int (5 : Int32)), (.int (P4 &&& (2147483647 : Int32)))])) _
      refine iremM (g := (mkF m 43 #[.val (.int P0), .val (.int P1), .val (.int P2), .val (.int P3), .val (.int P4), .val (.int P5), .val (.ref b101), .unset, .unset, .unset] [(.int (5 : Int32)), (.int (P4 &&& (2147483647 : Int32)))])) X117 hx rfl (hb hby at_43) rfl (by decide) ?_
      show Steps p.tables e below (T117.setTop (mkF m 44 #[.val (.int P0), .val (.int P1), .val (.int P2), .val (.int P3), .val (.int P4), .val (.int P5), .val (.ref b101), .unset, .unset, .unset] [(.int ((P4 &&& (2147483647 : Int32)) % (5 : Int32)))])) _
      refine XS.istore X117.here hx rfl (hb hby at_44) rfl (l' := #[.val (.int P0), .val (.int P1), .val (.int P2), .val (.int P3), .val (.int P4), .val (.int P5), .val (.ref b101), .val (.int ((P4 &&& (2147483647 : Int32)) % (5 : Int32))), .unset, .unset]) rfl ?_
      show Steps p.tables e below (T117.setTop (mkF m 46 #[.val (.int P0), .val (.int P1), .val (.int P2), .val (.int P3), .val (.int P4), .val (.int P5), .val (.ref b101), .val (.int ((P4 &&& (2147483647 : Int32)) % (5 : Int32))), .unset, .unset] [])) _
      refine XS.iload X117.here hx rfl (hb hby at_46) rfl ?_
      show Steps p.tables e below (T117.setTop (mkF m 48 #[.val (.int P0), .val (.int P1), .val (.int P2), .val (.int P3), .val (.int P4), .val (.int P5), .val (.ref b101), .val (.int ((P4 &&& (2147483647 : Int32)) % (5 : Int32))), .unset, .unset] [(.int P5)])) _
      refine X117.ldcInt hx hown (mvT hZ (hw _ (List.mem_of_getElem? (i := 5) rfl))) (g := (mkF m 48 #[.val (.int P0), .val (.int P1), .val (.int P2), .val (.int P3), .val (.int P4), .val (.int P5), .val (.ref b101), .val (.int ((P4 &&& (2147483647 : Int32)) % (5 : Int32))), .unset, .unset] [(.int P5)])) rfl (hb hby at_48) _ ?_
      show Steps p.tables e below (T117.setTop (mkF m 50 #[.val (.int P0), .val (.int P1), .val (.int P2), .val (.int P3), .val (.int P4), .val (.int P5), .val (.ref b101), .val (.int ((P4 &&& (2147483647 : Int32)) % (5 : Int32))), .unset, .unset] [(.int (2147483647 : Int32)), (.int P5)])) _
      refine XS.iand X117.here hx rfl (hb hby at_50) rfl ?_
      show Steps p.tables e below (T117.setTop (mkF m 51 #[.val (.int P0), .val (.int P1), .val (.int P2), .val (.int P3), .val (.int P4), .val (.int P5), .val (.ref b101), .val (.int ((P4 &&& (2147483647 : Int32)) % (5 : Int32))), .unset, .unset] [(.int (P5 &&& (2147483647 : Int32)))])) _
      refine XS.iconst X117.here hx rfl (hb hby at_51) ?_
      show Steps p.tables e below (T117.setTop (mkF m 52 #[.val (.int P0), .val (.int P1), .val (.int P2), .val (.int P3), .val (.int P4), .val (.int P5), .val (.ref b101), .val (.int ((P4 &&& (2147483647 : Int32)) % (5 : Int32))), .unset, .unset] [(.int (5 : Int32)), (.int (P5 &&& (2147483647 : Int32)))])) _
      refine XS.iload X117.here hx rfl (hb hby at_52) rfl ?_
      show Steps p.tables e below (T117.setTop (mkF m 54 #[.val (.int P0), .val (.int P1), .val (.int P2), .val (.int P3), .val (.int P4), .val (.int P5), .val (.ref b101), .val (.int ((P4 &&& (2147483647 : Int32)) % (5 : Int32))), .unset, .unset] [(.int ((P4 &&& (2147483647 : Int32)) % (5 : Int32))), (.int (5 : Int32)), (.int (P5 &&& (2147483647 : Int32)))])) _
      refine XS.isub X117.here hx rfl (hb hby at_54) rfl ?_
      show Steps p.tables e below (T117.setTop (mkF m 55 #[.val (.int P0), .val (.int P1), .val (.int P2), .val (.int P3), .val (.int P4), .val (.int P5), .val (.ref b101), .val (.int ((P4 &&& (2147483647 : Int32)) % (5 : Int32))), .unset, .unset] [(.int ((5 : Int32) - ((P4 &&& (2147483647 : Int32)) % (5 : Int32)))), (.int (P5 &&& (2147483647 : Int32)))])) _
      refine iremM (g := (mkF m 55 #[.val (.int P0), .val (.int P1), .val (.int P2), .val (.int P3), .val (.int P4), .val (.int P5), .val (.ref b101), .val (.int ((P4 &&& (2147483647 : Int32)) % (5 : Int32))), .unset, .unset] [(.int ((5 : Int32) - ((P4 &&& (2147483647 : Int32)) % (5 : Int32)))), (.int (P5 &&& (2147483647 : Int32)))])) X117 hx rfl (hb hby at_55) rfl (own_nz P4) ?_
      show Steps p.tables e below (T117.setTop (mkF m 56 #[.val (.int P0), .val (.int P1), .val (.int P2), .val (.int P3), .val (.int P4), .val (.int P5), .val (.ref b101), .val (.int ((P4 &&& (2147483647 : Int32)) % (5 : Int32))), .unset, .unset] [(.int ((P5 &&& (2147483647 : Int32)) % ((5 : Int32) - ((P4 &&& (2147483647 : Int32)) % (5 : Int32)))))])) _
      refine XS.istore X117.here hx rfl (hb hby at_56) rfl (l' := #[.val (.int P0), .val (.int P1), .val (.int P2), .val (.int P3), .val (.int P4), .val (.int P5), .val (.ref b101), .val (.int ((P4 &&& (2147483647 : Int32)) % (5 : Int32))), .val (.int ((P5 &&& (2147483647 : Int32)) % ((5 : Int32) - ((P4 &&& (2147483647 : Int32)) % (5 : Int32))))), .unset]) rfl ?_
      show Steps p.tables e below (T117.setTop (mkF m 58 #[.val (.int P0), .val (.int P1), .val (.int P2), .val (.int P3), .val (.int P4), .val (.int P5), .val (.ref b101), .val (.int ((P4 &&& (2147483647 : Int32)) % (5 : Int32))), .val (.int ((P5 &&& (2147483647 : Int32)) % ((5 : Int32) - ((P4 &&& (2147483647 : Int32)) % (5 : Int32))))), .unset] [])) _
      refine XS.aload X117.here hx rfl (hb hby at_58) rfl rfl ?_
      show Steps p.tables e below (T117.setTop (mkF m 60 #[.val (.int P0), .val (.int P1), .val (.int P2), .val (.int P3), .val (.int P4), .val (.int P5), .val (.ref b101), .val (.int ((P4 &&& (2147483647 : Int32)) % (5 : Int32))), .val (.int ((P5 &&& (2147483647 : Int32)) % ((5 : Int32) - ((P4 &&& (2147483647 : Int32)) % (5 : Int32))))), .unset] [(.ref b101)])) _
      refine XS.iconst X117.here hx rfl (hb hby at_60) ?_
      show Steps p.tables e below (T117.setTop (mkF m 61 #[.val (.int P0), .val (.int P1), .val (.int P2), .val (.int P3), .val (.int P4), .val (.int P5), .val (.ref b101), .val (.int ((P4 &&& (2147483647 : Int32)) % (5 : Int32))), .val (.int ((P5 &&& (2147483647 : Int32)) % ((5 : Int32) - ((P4 &&& (2147483647 : Int32)) % (5 : Int32))))), .unset] [(.int (0 : Int32)), (.ref b101)])) _
      refine X117.caload hx (j := (0 : Int32)) (v := (.int (nar .char (own_draw P0)))) (by rw [e117]; exact Ar119.1) (State.isArrayOf_alike hZ.alike Ar119.2.1) Ar119.2.2 hin119 (H119.at hin119 rfl) (g := (mkF m 61 #[.val (.int P0), .val (.int P1), .val (.int P2), .val (.int P3), .val (.int P4), .val (.int P5), .val (.ref b101), .val (.int ((P4 &&& (2147483647 : Int32)) % (5 : Int32))), .val (.int ((P5 &&& (2147483647 : Int32)) % ((5 : Int32) - ((P4 &&& (2147483647 : Int32)) % (5 : Int32))))), .unset] [(.int (0 : Int32)), (.ref b101)])) rfl rfl (hb hby at_61) _ ?_
      show Steps p.tables e below (T117.setTop (mkF m 62 #[.val (.int P0), .val (.int P1), .val (.int P2), .val (.int P3), .val (.int P4), .val (.int P5), .val (.ref b101), .val (.int ((P4 &&& (2147483647 : Int32)) % (5 : Int32))), .val (.int ((P5 &&& (2147483647 : Int32)) % ((5 : Int32) - ((P4 &&& (2147483647 : Int32)) % (5 : Int32))))), .unset] [(.int (nar .char (own_draw P0)))])) _
      refine XS.iconst X117.here hx rfl (hb hby at_62) ?_
      show Steps p.tables e below (T117.setTop (mkF m 63 #[.val (.int P0), .val (.int P1), .val (.int P2), .val (.int P3), .val (.int P4), .val (.int P5), .val (.ref b101), .val (.int ((P4 &&& (2147483647 : Int32)) % (5 : Int32))), .val (.int ((P5 &&& (2147483647 : Int32)) % ((5 : Int32) - ((P4 &&& (2147483647 : Int32)) % (5 : Int32))))), .unset] [(.int (0 : Int32)), (.int (nar .char (own_draw P0)))])) _
      refine XS.iload X117.here hx rfl (hb hby at_63) rfl ?_
      show Steps p.tables e below (T117.setTop (mkF m 65 #[.val (.int P0), .val (.int P1), .val (.int P2), .val (.int P3), .val (.int P4), .val (.int P5), .val (.ref b101), .val (.int ((P4 &&& (2147483647 : Int32)) % (5 : Int32))), .val (.int ((P5 &&& (2147483647 : Int32)) % ((5 : Int32) - ((P4 &&& (2147483647 : Int32)) % (5 : Int32))))), .unset] [(.int ((P4 &&& (2147483647 : Int32)) % (5 : Int32))), (.int (0 : Int32)), (.int (nar .char (own_draw P0)))])) _
      refine XS.iload X117.here hx rfl (hb hby at_65) rfl ?_
      show Steps p.tables e below (T117.setTop (mkF m 67 #[.val (.int P0), .val (.int P1), .val (.int P2), .val (.int P3), .val (.int P4), .val (.int P5), .val (.ref b101), .val (.int ((P4 &&& (2147483647 : Int32)) % (5 : Int32))), .val (.int ((P5 &&& (2147483647 : Int32)) % ((5 : Int32) - ((P4 &&& (2147483647 : Int32)) % (5 : Int32))))), .unset] [(.int ((P5 &&& (2147483647 : Int32)) % ((5 : Int32) - ((P4 &&& (2147483647 : Int32)) % (5 : Int32))))), (.int ((P4 &&& (2147483647 : Int32)) % (5 : Int32))), (.int (0 : Int32)), (.int (nar .char (own_draw P0)))])) _
      refine st120 _ ?_
      exact kt)
  by_cases hc70 : (tf2_0 (nar .char (own_draw P0)) (0 : Int32) ((P4 &&& (2147483647 : Int32)) % (5 : Int32)) ((P5 &&& (2147483647 : Int32)) % ((5 : Int32) - ((P4 &&& (2147483647 : Int32)) % (5 : Int32))))) = (0 : Int32)
  · obtain ⟨_, _, ⟨T122, L122, k122, n122⟩, -, X122, ⟨Lc122, hQ122, l122, y122, z122⟩, st122⟩ := Jvm.LawKit.callS X120 hx (y := (⟨"com/example/terseform/terseform/xml/XmlNames", "isWhitespace", "([CII)Z"⟩ : MethodName)) hown (mvT hZ (hw _ (List.mem_of_getElem? (i := 9) rfl))) (mvT hZ (hw _ (List.mem_of_getElem? (i := 10) rfl))) (mvT hZ (hw _ (List.mem_of_getElem? (i := 11) rfl))) (mvT hZ (hw _ (List.mem_of_getElem? (i := 12) rfl))) (by decide) (backOf (W := 0) (rm3 l Z a0 hw [] b101 ((P4 &&& (2147483647 : Int32)) % (5 : Int32)) ((P5 &&& (2147483647 : Int32)) % ((5 : Int32) - ((P4 &&& (2147483647 : Int32)) % (5 : Int32)))) k101 (nar .char (own_draw P0)) (nar .char (own_draw P1)) (nar .char (own_draw P2)) (nar .char (own_draw P3)) h117 n0 Z118 V117 (show 0 ≤ (((P4 &&& (2147483647 : Int32)) % (5 : Int32))).toInt from (own_s P4).1) (show 0 ≤ (((P5 &&& (2147483647 : Int32)) % ((5 : Int32) - ((P4 &&& (2147483647 : Int32)) % (5 : Int32))))).toInt from (own_l P4 P5).1) (show (((P4 &&& (2147483647 : Int32)) % (5 : Int32))).toInt + (((P5 &&& (2147483647 : Int32)) % ((5 : Int32) - ((P4 &&& (2147483647 : Int32)) % (5 : Int32))))).toInt ≤ 4 from (own_l P4 P5).2)) hZ (hw _ (List.mem_of_getElem? (i := 12) rfl)) (hw _ (List.mem_of_getElem? (i := 11) rfl)) (by decide) (by decide)) (g := (mkF m 131 #[.val (.int P0), .val (.int P1), .val (.int P2), .val (.int P3), .val (.int P4), .val (.int P5), .val (.ref b101), .val (.int ((P4 &&& (2147483647 : Int32)) % (5 : Int32))), .val (.int ((P5 &&& (2147483647 : Int32)) % ((5 : Int32) - ((P4 &&& (2147483647 : Int32)) % (5 : Int32))))), .val (.int (0 : Int32))] [(.int ((P5 &&& (2147483647 : Int32)) % ((5 : Int32) - ((P4 &&& (2147483647 : Int32)) % (5 : Int32))))), (.int ((P4 &&& (2147483647 : Int32)) % (5 : Int32))), (.ref b101)])) rfl (by rw [hml]; rfl) (argsL := [(.ref b101), (.int ((P4 &&& (2147483647 : Int32)) % (5 : Int32))), (.int ((P5 &&& (2147483647 : Int32)) % ((5 : Int32) - ((P4 &&& (2147483647 : Int32)) % (5 : Int32)))))]) (rest := []) (lenOf pd_0_2 rfl) rfl (by show 2 * 0 + _ ≤ _; exact Nat.le_of_eq rfl) (hb hby at_131) (fun _ _ => ⟨rfl, K120, (by decide : 1 + 0 ≤ _), (by decide : 4 + 0 ≤ _)⟩)
    dsimp only [Pt.U, Pt.locs, Pt.cells, Pt.slots] at X122 l122 y122 z122 st122 hQ122
    subst l122 y122 z122
    obtain ⟨rfl, N122q, K122⟩ := hQ122
    have N122 := Fr.app N120 N122q
    have pre123 : ∀ t, Steps p.tables e below (T122.setTop (mkF m 144 #[.val (.int P0), .val (.int P1), .val (.int P2), .val (.int P3), .val (.int P4), .val (.int P5), .val (.ref b101), .val (.int ((P4 &&& (2147483647 : Int32)) % (5 : Int32))), .val (.int ((P5 &&& (2147483647 : Int32)) % ((5 : Int32) - ((P4 &&& (2147483647 : Int32)) % (5 : Int32))))), .val (.int (0 : Int32))] [(.int (1 : Int32))])) t → Steps p.tables e below (s₁.setTop (entryFrame m #[(.int P0), (.int P1), (.int P2), (.int P3), (.int P4), (.int P5)] maxLocals)) t := fun t kt => pre121 t (by
        show Steps p.tables e below (T120.setTop (mkF m 70 #[.val (.int P0), .val (.int P1), .val (.int P2), .val (.int P3), .val (.int P4), .val (.int P5), .val (.ref b101), .val (.int ((P4 &&& (2147483647 : Int32)) % (5 : Int32))), .val (.int ((P5 &&& (2147483647 : Int32)) % ((5 : Int32) - ((P4 &&& (2147483647 : Int32)) % (5 : Int32))))), .unset] [(.int (tf2_0 (nar .char (own_draw P0)) (0 : Int32) ((P4 &&& (2147483647 : Int32)) % (5 : Int32)) ((P5 &&& (2147483647 : Int32)) % ((5 : Int32) - ((P4 &&& (2147483647 : Int32)) % (5 : Int32))))))])) _
        refine XS.ifYes X120.here hx rfl (pc0 := 70) (pc' := 122) rfl (hb hby at_70) rfl ((if0 _ _).trans (teq hc70).1) (by decide) (by decide) ?_
        show Steps p.tables e below (T120.setTop (mkF m 122 #[.val (.int P0), .val (.int P1), .val (.int P2), .val (.int P3), .val (.int P4), .val (.int P5), .val (.ref b101), .val (.int ((P4 &&& (2147483647 : Int32)) % (5 : Int32))), .val (.int ((P5 &&& (2147483647 : Int32)) % ((5 : Int32) - ((P4 &&& (2147483647 : Int32)) % (5 : Int32))))), .unset] [])) _
        refine XS.iconst X120.here hx rfl (hb hby at_122) ?_
        show Steps p.tables e below (T120.setTop (mkF m 123 #[.val (.int P0), .val (.int P1), .val (.int P2), .val (.int P3), .val (.int P4), .val (.int P5), .val (.ref b101), .val (.int ((P4 &&& (2147483647 : Int32)) % (5 : Int32))), .val (.int ((P5 &&& (2147483647 : Int32)) % ((5 : Int32) - ((P4 &&& (2147483647 : Int32)) % (5 : Int32))))), .unset] [(.int (0 : Int32))])) _
        refine XS.istore X120.here hx rfl (hb hby at_123) rfl (l' := #[.val (.int P0), .val (.int P1), .val (.int P2), .val (.int P3), .val (.int P4), .val (.int P5), .val (.ref b101), .val (.int ((P4 &&& (2147483647 : Int32)) % (5 : Int32))), .val (.int ((P5 &&& (2147483647 : Int32)) % ((5 : Int32) - ((P4 &&& (2147483647 : Int32)) % (5 : Int32))))), .val (.int (0 : Int32))]) rfl ?_
        show Steps p.tables e below (T120.setTop (mkF m 125 #[.val (.int P0), .val (.int P1), .val (.int P2), .val (.int P3), .val (.int P4), .val (.int P5), .val (.ref b101), .val (.int ((P4 &&& (2147483647 : Int32)) % (5 : Int32))), .val (.int ((P5 &&& (2147483647 : Int32)) % ((5 : Int32) - ((P4 &&& (2147483647 : Int32)) % (5 : Int32))))), .val (.int (0 : Int32))] [])) _
        refine XS.aload X120.here hx rfl (hb hby at_125) rfl rfl ?_
        show Steps p.tables e below (T120.setTop (mkF m 127 #[.val (.int P0), .val (.int P1), .val (.int P2), .val (.int P3), .val (.int P4), .val (.int P5), .val (.ref b101), .val (.int ((P4 &&& (2147483647 : Int32)) % (5 : Int32))), .val (.int ((P5 &&& (2147483647 : Int32)) % ((5 : Int32) - ((P4 &&& (2147483647 : Int32)) % (5 : Int32))))), .val (.int (0 : Int32))] [(.ref b101)])) _
        refine XS.iload X120.here hx rfl (hb hby at_127) rfl ?_
        show Steps p.tables e below (T120.setTop (mkF m 129 #[.val (.int P0), .val (.int P1), .val (.int P2), .val (.int P3), .val (.int P4), .val (.int P5), .val (.ref b101), .val (.int ((P4 &&& (2147483647 : Int32)) % (5 : Int32))), .val (.int ((P5 &&& (2147483647 : Int32)) % ((5 : Int32) - ((P4 &&& (2147483647 : Int32)) % (5 : Int32))))), .val (.int (0 : Int32))] [(.int ((P4 &&& (2147483647 : Int32)) % (5 : Int32))), (.ref b101)])) _
        refine XS.iload X120.here hx rfl (hb hby at_129) rfl ?_
        show Steps p.tables e below (T120.setTop (mkF m 131 #[.val (.int P0), .val (.int P1), .val (.int P2), .val (.int P3), .val (.int P4), .val (.int P5), .val (.ref b101), .val (.int ((P4 &&& (2147483647 : Int32)) % (5 : Int32))), .val (.int ((P5 &&& (2147483647 : Int32)) % ((5 : Int32) - ((P4 &&& (2147483647 : Int32)) % (5 : Int32))))), .val (.int (0 : Int32))] [(.int ((P5 &&& (2147483647 : Int32)) % ((5 : Int32) - ((P4 &&& (2147483647 : Int32)) % (5 : Int32))))), (.int ((P4 &&& (2147483647 : Int32)) % (5 : Int32))), (.ref b101)])) _
        refine st122 _ ?_
        show Steps p.tables e below (T122.setTop (mkF m 134 #[.val (.int P0), .val (.int P1), .val (.int P2), .val (.int P3), .val (.int P4), .val (.int P5), .val (.ref b101), .val (.int ((P4 &&& (2147483647 : Int32)) % (5 : Int32))), .val (.int ((P5 &&& (2147483647 : Int32)) % ((5 : Int32) - ((P4 &&& (2147483647 : Int32)) % (5 : Int32))))), .val (.int (0 : Int32))] [(.int (own_all (own_ch (nar .char (own_draw P0)) (nar .char (own_draw P1)) (nar .char (own_draw P2)) (nar .char (own_draw P3))) ((P4 &&& (2147483647 : Int32)) % (5 : Int32)) (((P5 &&& (2147483647 : Int32)) % ((5 : Int32) - ((P4 &&& (2147483647 : Int32)) % (5 : Int32))))).toInt.toNat))])) _
        refine XS.iload X122.here hx rfl (hb hby at_134) rfl ?_
        show Steps p.tables e below (T122.setTop (mkF m 136 #[.val (.int P0), .val (.int P1), .val (.int P2), .val (.int P3), .val (.int P4), .val (.int P5), .val (.ref b101), .val (.int ((P4 &&& (2147483647 : Int32)) % (5 : Int32))), .val (.int ((P5 &&& (2147483647 : Int32)) % ((5 : Int32) - ((P4 &&& (2147483647 : Int32)) % (5 : Int32))))), .val (.int (0 : Int32))] [(.int (0 : Int32)), (.int (own_all (own_ch (nar .char (own_draw P0)) (nar .char (own_draw P1)) (nar .char (own_draw P2)) (nar .char (own_draw P3))) ((P4 &&& (2147483647 : Int32)) % (5 : Int32)) (((P5 &&& (2147483647 : Int32)) % ((5 : Int32) - ((P4 &&& (2147483647 : Int32)) % (5 : Int32))))).toInt.toNat))])) _
        refine XS.icmpNo X122.here hx rfl (hb hby at_136) rfl (teq (show (own_all (own_ch (nar .char (own_draw P0)) (nar .char (own_draw P1)) (nar .char (own_draw P2)) (nar .char (own_draw P3))) ((P4 &&& (2147483647 : Int32)) % (5 : Int32)) (((P5 &&& (2147483647 : Int32)) % ((5 : Int32) - ((P4 &&& (2147483647 : Int32)) % (5 : Int32))))).toInt.toNat) = (0 : Int32) from ((own_fin _ _ _ _ _ _ (own_s P4).1 (own_l P4 P5).1 (own_l P4 P5).2).trans (if_pos (Or.inl hc70))))).2 ?_
        show Steps p.tables e below (T122.setTop (mkF m 139 #[.val (.int P0), .val (.int P1), .val (.int P2), .val (.int P3), .val (.int P4), .val (.int P5), .val (.ref b101), .val (.int ((P4 &&& (2147483647 : Int32)) % (5 : Int32))), .val (.int ((P5 &&& (2147483647 : Int32)) % ((5 : Int32) - ((P4 &&& (2147483647 : Int32)) % (5 : Int32))))), .val (.int (0 : Int32))] [])) _
        refine XS.iconst X122.here hx rfl (hb hby at_139) ?_
        show Steps p.tables e below (T122.setTop (mkF m 140 #[.val (.int P0), .val (.int P1), .val (.int P2), .val (.int P3), .val (.int P4), .val (.int P5), .val (.ref b101), .val (.int ((P4 &&& (2147483647 : Int32)) % (5 : Int32))), .val (.int ((P5 &&& (2147483647 : Int32)) % ((5 : Int32) - ((P4 &&& (2147483647 : Int32)) % (5 : Int32))))), .val (.int (0 : Int32))] [(.int (1 : Int32))])) _
        refine XS.goto X122.here hx rfl (pc0 := 140) (pc' := 144) rfl (hb hby at_140) (by decide) (by decide) ?_
        exact kt)
    obtain ⟨fs, hr, hrun, hended, hW, hsame⟩ := X122.leave (v := some (.int (1 : Int32))) (fun h => by rw [Bd.returns] at h; cases h)
    refine ⟨_, _, pre123 _ ?_, hrun, hended, _, _, rfl, ?_, ⟨_, rfl⟩, hW, hsame.mono (by decide) (by decide)⟩
    · show Steps p.tables e below (T122.setTop (mkF m 144 #[.val (.int P0), .val (.int P1), .val (.int P2), .val (.int P3), .val (.int P4), .val (.int P5), .val (.ref b101), .val (.int ((P4 &&& (2147483647 : Int32)) % (5 : Int32))), .val (.int ((P5 &&& (2147483647 : Int32)) % ((5 : Int32) - ((P4 &&& (2147483647 : Int32)) % (5 : Int32))))), .val (.int (0 : Int32))] [(.int (1 : Int32))])) _
      exact retN X122 hx (t := .boolean) Bd.returns (by simp) (hb hby at_144) hr
    · show Q0 Z P0 P1 P2 P3 P4 P5 h0 n0 _ T122.heap _
      rw [K122]
      exact ⟨rfl, N122⟩
  · obtain ⟨cl124, Ar124, q124, S124, N_124, H124, G124⟩ := id V117
    have hin124 : ¬ ((1 : Int32) < 0 ∨ cl124.slots.size ≤ ((1 : Int32)).toNatClampNeg) := inb_of S124 ⟨by decide, by decide⟩
    obtain ⟨_, _, ⟨T125, L125, k125, n125⟩, -, X125, ⟨Lc125, hQ125, l125, y125, z125⟩, st125⟩ := Jvm.LawKit.callS X120 hx (y := (⟨"com/example/terseform/terseform/xml/XmlNamesIsWhitespacePinLaw", "ok", "(CIII)Z"⟩ : MethodName)) hown (mvT hZ (hw _ (List.mem_of_getElem? (i := 6) rfl))) (mvT hZ (hw _ (List.mem_of_getElem? (i := 7) rfl))) (mvT hZ (hw _ (List.mem_of_getElem? (i := 3) rfl))) (mvT hZ (hw _ (List.mem_of_getElem? (i := 8) rfl))) (by decide) (backOf (W := 0) (rm2 l Z a0 hw [] (nar .char (own_draw P1)) (1 : Int32) ((P4 &&& (2147483647 : Int32)) % (5 : Int32)) ((P5 &&& (2147483647 : Int32)) % ((5 : Int32) - ((P4 &&& (2147483647 : Int32)) % (5 : Int32)))) h117 n0 Z118 ) hZ (hw _ (List.mem_of_getElem? (i := 8) rfl)) (hw _ (List.mem_of_getElem? (i := 3) rfl)) (by decide) (by decide)) (g := (mkF m 82 #[.val (.int P0), .val (.int P1), .val (.int P2), .val (.int P3), .val (.int P4), .val (.int P5), .val (.ref b101), .val (.int ((P4 &&& (2147483647 : Int32)) % (5 : Int32))), .val (.int ((P5 &&& (2147483647 : Int32)) % ((5 : Int32) - ((P4 &&& (2147483647 : Int32)) % (5 : Int32))))), .unset] [(.int ((P5 &&& (2147483647 : Int32)) % ((5 : Int32) - ((P4 &&& (2147483647 : Int32)) % (5 : Int32))))), (.int ((P4 &&& (2147483647 : Int32)) % (5 : Int32))), (.int (1 : Int32)), (.int (nar .char (own_draw P1)))])) rfl (by rw [hml]; rfl) (argsL := [(.int (nar .char (own_draw P1))), (.int (1 : Int32)), (.int ((P4 &&& (2147483647 : Int32)) % (5 : Int32))), (.int ((P5 &&& (2147483647 : Int32)) % ((5 : Int32) - ((P4 &&& (2147483647 : Int32)) % (5 : Int32)))))]) (rest := []) (lenOf pd_0_1 rfl) rfl (by show 2 * 0 + _ ≤ _; exact Nat.le_of_eq rfl) (hb hby at_82) (fun _ _ => ⟨rfl, K120, (by decide : 1 + 0 ≤ _), (by decide : 4 + 0 ≤ _)⟩)
    dsimp only [Pt.U, Pt.locs, Pt.cells, Pt.slots] at X125 l125 y125 z125 st125 hQ125
    subst l125 y125 z125
    obtain ⟨rfl, N125q, K125⟩ := hQ125
    have N125 := Fr.app N120 N125q
    have pre126 : ∀ t, Steps p.tables e below (T125.setTop (mkF m 85 #[.val (.int P0), .val (.int P1), .val (.int P2), .val (.int P3), .val (.int P4), .val (.int P5), .val (.ref b101), .val (.int ((P4 &&& (2147483647 : Int32)) % (5 : Int32))), .val (.int ((P5 &&& (2147483647 : Int32)) % ((5 : Int32) - ((P4 &&& (2147483647 : Int32)) % (5 : Int32))))), .unset] [(.int (tf2_0 (nar .char (own_draw P1)) (1 : Int32) ((P4 &&& (2147483647 : Int32)) % (5 : Int32)) ((P5 &&& (2147483647 : Int32)) % ((5 : Int32) - ((P4 &&& (2147483647 : Int32)) % (5 : Int32))))))])) t → Steps p.tables e below (s₁.setTop (entryFrame m #[(.int P0), (.int P1), (.int P2), (.int P3), (.int P4), (.int P5)] maxLocals)) t := fun t kt => pre121 t (by
        show Steps p.tables e below (T120.setTop (mkF m 70 #[.val (.int P0), .val (.int P1), .val (.int P2), .val (.int P3), .val (.int P4), .val (.int P5), .val (.ref b101), .val (.int ((P4 &&& (2147483647 : Int32)) % (5 : Int32))), .val (.int ((P5 &&& (2147483647 : Int32)) % ((5 : Int32) - ((P4 &&& (2147483647 : Int32)) % (5 : Int32))))), .unset] [(.int (tf2_0 (nar .char (own_draw P0)) (0 : Int32) ((P4 &&& (2147483647 : Int32)) % (5 : Int32)) ((P5 &&& (2147483647 : Int32)) % ((5 : Int32) - ((P4 &&& (2147483647 : Int32)) % (5 : Int32))))))])) _
        refine XS.ifNo X120.here hx rfl (hb hby at_70) rfl ((if0 _ _).trans (feq hc70).1) ?_
        show Steps p.tables e below (T120.setTop (mkF m 73 #[.val (.int P0), .val (.int P1), .val (.int P2), .val (.int P3), .val (.int P4), .val (.int P5), .val (.ref b101), .val (.int ((P4 &&& (2147483647 : Int32)) % (5 : Int32))), .val (.int ((P5 &&& (2147483647 : Int32)) % ((5 : Int32) - ((P4 &&& (2147483647 : Int32)) % (5 : Int32))))), .unset] [])) _
        refine XS.aload X120.here hx rfl (hb hby at_73) rfl rfl ?_
        show Steps p.tables e below (T120.setTop (mkF m 75 #[.val (.int P0), .val (.int P1), .val (.int P2), .val (.int P3), .val (.int P4), .val (.int P5), .val (.ref b101), .val (.int ((P4 &&& (2147483647 : Int32)) % (5 : Int32))), .val (.int ((P5 &&& (2147483647 : Int32)) % ((5 : Int32) - ((P4 &&& (2147483647 : Int32)) % (5 : Int32))))), .unset] [(.ref b101)])) _
        refine XS.iconst X120.here hx rfl (hb hby at_75) ?_
        show Steps p.tables e below (T120.setTop (mkF m 76 #[.val (.int P0), .val (.int P1), .val (.int P2), .val (.int P3), .val (.int P4), .val (.int P5), .val (.ref b101), .val (.int ((P4 &&& (2147483647 : Int32)) % (5 : Int32))), .val (.int ((P5 &&& (2147483647 : Int32)) % ((5 : Int32) - ((P4 &&& (2147483647 : Int32)) % (5 : Int32))))), .unset] [(.int (1 : Int32)), (.ref b101)])) _
        refine X120.caload hx (j := (1 : Int32)) (v := (.int (nar .char (own_draw P1)))) (by rw [K120]; exact Ar124.1) (State.isArrayOf_alike hZ.alike Ar124.2.1) Ar124.2.2 hin124 (H124.at hin124 rfl) (g := (mkF m 76 #[.val (.int P0), .val (.int P1), .val (.int P2), .val (.int P3), .val (.int P4), .val (.int P5), .val (.ref b101), .val (.int ((P4 &&& (2147483647 : Int32)) % (5 : Int32))), .val (.int ((P5 &&& (2147483647 : Int32)) % ((5 : Int32) - ((P4 &&& (2147483647 : Int32)) % (5 : Int32))))), .unset] [(.int (1 : Int32)), (.ref b101)])) rfl rfl (hb hby at_76) _ ?_
        show Steps p.tables e below (T120.setTop (mkF m 77 #[.val (.int P0), .val (.int P1), .val (.int P2), .val (.int P3), .val (.int P4), .val (.int P5), .val (.ref b101), .val (.int ((P4 &&& (2147483647 : Int32)) % (5 : Int32))), .val (.int ((P5 &&& (2147483647 : Int32)) % ((5 : Int32) - ((P4 &&& (2147483647 : Int32)) % (5 : Int32))))), .unset] [(.int (nar .char (own_draw P1)))])) _
        refine XS.iconst X120.here hx rfl (hb hby at_77) ?_
        show Steps p.tables e below (T120.setTop (mkF m 78 #[.val (.int P0), .val (.int P1), .val (.int P2), .val (.int P3), .val (.int P4), .val (.int P5), .val (.ref b101), .val (.int ((P4 &&& (2147483647 : Int32)) % (5 : Int32))), .val (.int ((P5 &&& (2147483647 : Int32)) % ((5 : Int32) - ((P4 &&& (2147483647 : Int32)) % (5 : Int32))))), .unset] [(.int (1 : Int32)), (.int (nar .char (own_draw P1)))])) _
        refine XS.iload X120.here hx rfl (hb hby at_78) rfl ?_
        show Steps p.tables e below (T120.setTop (mkF m 80 #[.val (.int P0), .val (.int P1), .val (.int P2), .val (.int P3), .val (.int P4), .val (.int P5), .val (.ref b101), .val (.int ((P4 &&& (2147483647 : Int32)) % (5 : Int32))), .val (.int ((P5 &&& (2147483647 : Int32)) % ((5 : Int32) - ((P4 &&& (2147483647 : Int32)) % (5 : Int32))))), .unset] [(.int ((P4 &&& (2147483647 : Int32)) % (5 : Int32))), (.int (1 : Int32)), (.int (nar .char (own_draw P1)))])) _
        refine XS.iload X120.here hx rfl (hb hby at_80) rfl ?_
        show Steps p.tables e below (T120.setTop (mkF m 82 #[.val (.int P0), .val (.int P1), .val (.int P2), .val (.int P3), .val (.int P4), .val (.int P5), .val (.ref b101), .val (.int ((P4 &&& (2147483647 : Int32)) % (5 : Int32))), .val (.int ((P5 &&& (2147483647 : Int32)) % ((5 : Int32) - ((P4 &&& (2147483647 : Int32)) % (5 : Int32))))), .unset] [(.int ((P5 &&& (2147483647 : Int32)) % ((5 : Int32) - ((P4 &&& (2147483647 : Int32)) % (5 : Int32))))), (.int ((P4 &&& (2147483647 : Int32)) % (5 : Int32))), (.int (1 : Int32)), (.int (nar .char (own_draw P1)))])) _
        refine st125 _ ?_
        exact kt)
    by_cases hc85 : (tf2_0 (nar .char (own_draw P1)) (1 : Int32) ((P4 &&& (2147483647 : Int32)) % (5 : Int32)) ((P5 &&& (2147483647 : Int32)) % ((5 : Int32) - ((P4 &&& (2147483647 : Int32)) % (5 : Int32))))) = (0 : Int32)
    · obtain ⟨_, _, ⟨T127, L127, k127, n127⟩, -, X127, ⟨Lc127, hQ127, l127, y127, z127⟩, st127⟩ := Jvm.LawKit.callS X125 hx (y := (⟨"com/example/terseform/terseform/xml/XmlNames", "isWhitespace", "([CII)Z"⟩ : MethodName)) hown (mvT hZ (hw _ (List.mem_of_getElem? (i := 9) rfl))) (mvT hZ (hw _ (List.mem_of_getElem? (i := 10) rfl))) (mvT hZ (hw _ (List.mem_of_getElem? (i := 11) rfl))) (mvT hZ (hw _ (List.mem_of_getElem? (i := 12) rfl))) (by decide) (backOf (W := 0) (rm3 l Z a0 hw [] b101 ((P4 &&& (2147483647 : Int32)) % (5 : Int32)) ((P5 &&& (2147483647 : Int32)) % ((5 : Int32) - ((P4 &&& (2147483647 : Int32)) % (5 : Int32)))) k101 (nar .char (own_draw P0)) (nar .char (own_draw P1)) (nar .char (own_draw P2)) (nar .char (own_draw P3)) h117 n0 Z118 V117 (show 0 ≤ (((P4 &&& (2147483647 : Int32)) % (5 : Int32))).toInt from (own_s P4).1) (show 0 ≤ (((P5 &&& (2147483647 : Int32)) % ((5 : Int32) - ((P4 &&& (2147483647 : Int32)) % (5 : Int32))))).toInt from (own_l P4 P5).1) (show (((P4 &&& (2147483647 : Int32)) % (5 : Int32))).toInt + (((P5 &&& (2147483647 : Int32)) % ((5 : Int32) - ((P4 &&& (2147483647 : Int32)) % (5 : Int32))))).toInt ≤ 4 from (own_l P4 P5).2)) hZ (hw _ (List.mem_of_getElem? (i := 12) rfl)) (hw _ (List.mem_of_getElem? (i := 11) rfl)) (by decide) (by decide)) (g := (mkF m 131 #[.val (.int P0), .val (.int P1), .val (.int P2), .val (.int P3), .val (.int P4), .val (.int P5), .val (.ref b101), .val (.int ((P4 &&& (2147483647 : Int32)) % (5 : Int32))), .val (.int ((P5 &&& (2147483647 : Int32)) % ((5 : Int32) - ((P4 &&& (2147483647 : Int32)) % (5 : Int32))))), .val (.int (0 : Int32))] [(.int ((P5 &&& (2147483647 : Int32)) % ((5 : Int32) - ((P4 &&& (2147483647 : Int32)) % (5 : Int32))))), (.int ((P4 &&& (2147483647 : Int32)) % (5 : Int32))), (.ref b101)])) rfl (by rw [hml]; rfl) (argsL := [(.ref b101), (.int ((P4 &&& (2147483647 : Int32)) % (5 : Int32))), (.int ((P5 &&& (2147483647 : Int32)) % ((5 : Int32) - ((P4 &&& (2147483647 : Int32)) % (5 : Int32)))))]) (rest := []) (lenOf pd_0_2 rfl) rfl (by show 2 * 0 + _ ≤ _; exact Nat.le_of_eq rfl) (hb hby at_131) (fun _ _ => ⟨rfl, K125, (by decide : 1 + 0 ≤ _), (by decide : 4 + 0 ≤ _)⟩)
      dsimp only [Pt.U, Pt.locs, Pt.cells, Pt.slots] at X127 l127 y127 z127 st127 hQ127
      subst l127 y127 z127
      obtain ⟨rfl, N127q, K127⟩ := hQ127
      have N127 := Fr.app N125 N127q
      have pre128 : ∀ t, Steps p.tables e below (T127.setTop (mkF m 144 #[.val (.int P0), .val (.int P1), .val (.int P2), .val (.int P3), .val (.int P4), .val (.int P5), .val (.ref b101), .val (.int ((P4 &&& (2147483647 : Int32)) % (5 : Int32))), .val (.int ((P5 &&& (2147483647 : Int32)) % ((5 : Int32) - ((P4 &&& (2147483647 : Int32)) % (5 : Int32))))), .val (.int (0 : Int32))] [(.int (1 : Int32))])) t → Steps p.tables e below (s₁.setTop (entryFrame m #[(.int P0), (.int P1), (.int P2), (.int P3), (.int P4), (.int P5)] maxLocals)) t := fun t kt => pre126 t (by
          show Steps p.tables e below (T125.setTop (mkF m 85 #[.val (.int P0), .val (.int P1), .val (.int P2), .val (.int P3), .val (.int P4), .val (.int P5), .val (.ref b101), .val (.int ((P4 &&& (2147483647 : Int32)) % (5 : Int32))), .val (.int ((P5 &&& (2147483647 : Int32)) % ((5 : Int32) - ((P4 &&& (2147483647 : Int32)) % (5 : Int32))))), .unset] [(.int (tf2_0 (nar .char (own_draw P1)) (1 : Int32) ((P4 &&& (2147483647 : Int32)) % (5 : Int32)) ((P5 &&& (2147483647 : Int32)) % ((5 : Int32) - ((P4 &&& (2147483647 : Int32)) % (5 : Int32))))))])) _
          refine XS.ifYes X125.here hx rfl (pc0 := 85) (pc' := 122) rfl (hb hby at_85) rfl ((if0 _ _).trans (teq hc85).1) (by decide) (by decide) ?_
          show Steps p.tables e below (T125.setTop (mkF m 122 #[.val (.int P0), .val (.int P1), .val (.int P2), .val (.int P3), .val (.int P4), .val (.int P5), .val (.ref b101), .val (.int ((P4 &&& (2147483647 : Int32)) % (5 : Int32))), .val (.int ((P5 &&& (2147483647 : Int32)) % ((5 : Int32) - ((P4 &&& (2147483647 : Int32)) % (5 : Int32))))), .unset] [])) _
          refine XS.iconst X125.here hx rfl (hb hby at_122) ?_
          show Steps p.tables e below (T125.setTop (mkF m 123 #[.val (.int P0), .val (.int P1), .val (.int P2), .val (.int P3), .val (.int P4), .val (.int P5), .val (.ref b101), .val (.int ((P4 &&& (2147483647 : Int32)) % (5 : Int32))), .val (.int ((P5 &&& (2147483647 : Int32)) % ((5 : Int32) - ((P4 &&& (2147483647 : Int32)) % (5 : Int32))))), .unset] [(.int (0 : Int32))])) _
          refine XS.istore X125.here hx rfl (hb hby at_123) rfl (l' := #[.val (.int P0), .val (.int P1), .val (.int P2), .val (.int P3), .val (.int P4), .val (.int P5), .val (.ref b101), .val (.int ((P4 &&& (2147483647 : Int32)) % (5 : Int32))), .val (.int ((P5 &&& (2147483647 : Int32)) % ((5 : Int32) - ((P4 &&& (2147483647 : Int32)) % (5 : Int32))))), .val (.int (0 : Int32))]) rfl ?_
          show Steps p.tables e below (T125.setTop (mkF m 125 #[.val (.int P0), .val (.int P1), .val (.int P2), .val (.int P3), .val (.int P4), .val (.int P5), .val (.ref b101), .val (.int ((P4 &&& (2147483647 : Int32)) % (5 : Int32))), .val (.int ((P5 &&& (2147483647 : Int32)) % ((5 : Int32) - ((P4 &&& (2147483647 : Int32)) % (5 : Int32))))), .val (.int (0 : Int32))] [])) _
          refine XS.aload X125.here hx rfl (hb hby at_125) rfl rfl ?_
          show Steps p.tables e below (T125.setTop (mkF m 127 #[.val (.int P0), .val (.int P1), .val (.int P2), .val (.int P3), .val (.int P4), .val (.int P5), .val (.ref b101), .val (.int ((P4 &&& (2147483647 : Int32)) % (5 : Int32))), .val (.int ((P5 &&& (2147483647 : Int32)) % ((5 : Int32) - ((P4 &&& (2147483647 : Int32)) % (5 : Int32))))), .val (.int (0 : Int32))] [(.ref b101)])) _
          refine XS.iload X125.here hx rfl (hb hby at_127) rfl ?_
          show Steps p.tables e below (T125.setTop (mkF m 129 #[.val (.int P0), .val (.int P1), .val (.int P2), .val (.int P3), .val (.int P4), .val (.int P5), .val (.ref b101), .val (.int ((P4 &&& (2147483647 : Int32)) % (5 : Int32))), .val (.int ((P5 &&& (2147483647 : Int32)) % ((5 : Int32) - ((P4 &&& (2147483647 : Int32)) % (5 : Int32))))), .val (.int (0 : Int32))] [(.int ((P4 &&& (2147483647 : Int32)) % (5 : Int32))), (.ref b101)])) _
          refine XS.iload X125.here hx rfl (hb hby at_129) rfl ?_
          show Steps p.tables e below (T125.setTop (mkF m 131 #[.val (.int P0), .val (.int P1), .val (.int P2), .val (.int P3), .val (.int P4), .val (.int P5), .val (.ref b101), .val (.int ((P4 &&& (2147483647 : Int32)) % (5 : Int32))), .val (.int ((P5 &&& (2147483647 : Int32)) % ((5 : Int32) - ((P4 &&& (2147483647 : Int32)) % (5 : Int32))))), .val (.int (0 : Int32))] [(.int ((P5 &&& (2147483647 : Int32)) % ((5 : Int32) - ((P4 &&& (2147483647 : Int32)) % (5 : Int32))))), (.int ((P4 &&& (2147483647 : Int32)) % (5 : Int32))), (.ref b101)])) _
          refine st127 _ ?_
          show Steps p.tables e below (T127.setTop (mkF m 134 #[.val (.int P0), .val (.int P1), .val (.int P2), .val (.int P3), .val (.int P4), .val (.int P5), .val (.ref b101), .val (.int ((P4 &&& (2147483647 : Int32)) % (5 : Int32))), .val (.int ((P5 &&& (2147483647 : Int32)) % ((5 : Int32) - ((P4 &&& (2147483647 : Int32)) % (5 : Int32))))), .val (.int (0 : Int32))] [(.int (own_all (own_ch (nar .char (own_draw P0)) (nar .char (own_draw P1)) (nar .char (own_draw P2)) (nar .char (own_draw P3))) ((P4 &&& (2147483647 : Int32)) % (5 : Int32)) (((P5 &&& (2147483647 : Int32)) % ((5 : Int32) - ((P4 &&& (2147483647 : Int32)) % (5 : Int32))))).toInt.toNat))])) _
          refine XS.iload X127.here hx rfl (hb hby at_134) rfl ?_
          show Steps p.tables e below (T127.setTop (mkF m 136 #[.val (.int P0), .val (.int P1), .val (.int P2), .val (.int P3), .val (.int P4), .val (.int P5), .val (.ref b101), .val (.int ((P4 &&& (2147483647 : Int32)) % (5 : Int32))), .val (.int ((P5 &&& (2147483647 : Int32)) % ((5 : Int32) - ((P4 &&& (2147483647 : Int32)) % (5 : Int32))))), .val (.int (0 : Int32))] [(.int (0 : Int32)), (.int (own_all (own_ch (nar .char (own_draw P0)) (nar .char (own_draw P1)) (nar .char (own_draw P2)) (nar .char (own_draw P3))) ((P4 &&& (2147483647 : Int32)) % (5 : Int32)) (((P5 &&& (2147483647 : Int32)) % ((5 : Int32) - ((P4 &&& (2147483647 : Int32)) % (5 : Int32))))).toInt.toNat))])) _
          refine XS.icmpNo X127.here hx rfl (hb hby at_136) rfl (teq (show (own_all (own_ch (nar .char (own_draw P0)) (nar .char (own_draw P1)) (nar .char (own_draw P2)) (nar .char (own_draw P3))) ((P4 &&& (2147483647 : Int32)) % (5 : Int32)) (((P5 &&& (2147483647 : Int32)) % ((5 : Int32) - ((P4 &&& (2147483647 : Int32)) % (5 : Int32))))).toInt.toNat) = (0 : Int32) from ((own_fin _ _ _ _ _ _ (own_s P4).1 (own_l P4 P5).1 (own_l P4 P5).2).trans (if_pos (Or.inr (Or.inl hc85)))))).2 ?_
          show Steps p.tables e below (T127.setTop (mkF m 139 #[.val (.int P0), .val (.int P1), .val (.int P2), .val (.int P3), .val (.int P4), .val (.int P5), .val (.ref b101), .val (.int ((P4 &&& (2147483647 : Int32)) % (5 : Int32))), .val (.int ((P5 &&& (2147483647 : Int32)) % ((5 : Int32) - ((P4 &&& (2147483647 : Int32)) % (5 : Int32))))), .val (.int (0 : Int32))] [])) _
          refine XS.iconst X127.here hx rfl (hb hby at_139) ?_
          show Steps p.tables e below (T127.setTop (mkF m 140 #[.val (.int P0), .val (.int P1), .val (.int P2), .val (.int P3), .val (.int P4), .val (.int P5), .val (.ref b101), .val (.int ((P4 &&& (2147483647 : Int32)) % (5 : Int32))), .val (.int ((P5 &&& (2147483647 : Int32)) % ((5 : Int32) - ((P4 &&& (2147483647 : Int32)) % (5 : Int32))))), .val (.int (0 : Int32))] [(.int (1 : Int32))])) _
          refine XS.goto X127.here hx rfl (pc0 := 140) (pc' := 144) rfl (hb hby at_140) (by decide) (by decide) ?_
          exact kt)
      obtain ⟨fs, hr, hrun, hended, hW, hsame⟩ := X127.leave (v := some (.int (1 : Int32))) (fun h => by rw [Bd.returns] at h; cases h)
      refine ⟨_, _, pre128 _ ?_, hrun, hended, _, _, rfl, ?_, ⟨_, rfl⟩, hW, hsame.mono (by decide) (by decide)⟩
      · show Steps p.tables e below (T127.setTop (mkF m 144 #[.val (.int P0), .val (.int P1), .val (.int P2), .val (.int P3), .val (.int P4), .val (.int P5), .val (.ref b101), .val (.int ((P4 &&& (2147483647 : Int32)) % (5 : Int32))), .val (.int ((P5 &&& (2147483647 : Int32)) % ((5 : Int32) - ((P4 &&& (2147483647 : Int32)) % (5 : Int32))))), .val (.int (0 : Int32))] [(.int (1 : Int32))])) _
        exact retN X127 hx (t := .boolean) Bd.returns (by simp) (hb hby at_144) hr
      · show Q0 Z P0 P1 P2 P3 P4 P5 h0 n0 _ T127.heap _
        rw [K127]
        exact ⟨rfl, N127⟩
    · obtain ⟨cl129, Ar129, q129, S129, N_129, H129, G129⟩ := id V117
      have hin129 : ¬ ((2 : Int32) < 0 ∨ cl129.slots.size ≤ ((2 : Int32)).toNatClampNeg) := inb_of S129 ⟨by decide, by decide⟩
      obtain ⟨_, _, ⟨T130, L130, k130, n130⟩, -, X130, ⟨Lc130, hQ130, l130, y130, z130⟩, st130⟩ := Jvm.LawKit.callS X125 hx (y := (⟨"com/example/terseform/terseform/xml/XmlNamesIsWhitespacePinLaw", "ok", "(CIII)Z"⟩ : MethodName)) hown (mvT hZ (hw _ (List.mem_of_getElem? (i := 6) rfl))) (mvT hZ (hw _ (List.mem_of_getElem? (i := 7) rfl))) (mvT hZ (hw _ (List.mem_of_getElem? (i := 3) rfl))) (mvT hZ (hw _ (List.mem_of_getElem? (i := 8) rfl))) (by decide) (backOf (W := 0) (rm2 l Z a0 hw [] (nar .char (own_draw P2)) (2 : Int32) ((P4 &&& (2147483647 : Int32)) % (5 : Int32)) ((P5 &&& (2147483647 : Int32)) % ((5 : Int32) - ((P4 &&& (2147483647 : Int32)) % (5 : Int32)))) h117 n0 Z118 ) hZ (hw _ (List.mem_of_getElem? (i := 8) rfl)) (hw _ (List.mem_of_getElem? (i := 3) rfl)) (by decide) (by decide)) (g := (mkF m 97 #[.val (.int P0), .val (.int P1), .val (.int P2), .val (.int P3), .val (.int P4), .val (.int P5), .val (.ref b101), .val (.int ((P4 &&& (2147483647 : Int32)) % (5 : Int32))), .val (.int ((P5 &&& (2147483647 : Int32)) % ((5 : Int32) - ((P4 &&& (2147483647 : Int32)) % (5 : Int32))))), .unset] [(.int ((P5 &&& (2147483647 : Int32)) % ((5 : Int32) - ((P4 &&& (2147483647 : Int32)) % (5 : Int32))))), (.int ((P4 &&& (2147483647 : Int32)) % (5 : Int32))), (.int (2 : Int32)), (.int (nar .char (own_draw P2)))])) rfl (by rw [hml]; rfl) (argsL := [(.int (nar .char (own_draw P2))), (.int (2 : Int32)), (.int ((P4 &&& (2147483647 : Int32)) % (5 : Int32))), (.int ((P5 &&& (2147483647 : Int32)) % ((5 : Int32) - ((P4 &&& (2147483647 : Int32)) % (5 : Int32)))))]) (rest := []) (lenOf pd_0_1 rfl) rfl (by show 2 * 0 + _ ≤ _; exact Nat.le_of_eq rfl) (hb hby at_97) (fun _ _ => ⟨rfl, K125, (by decide : 1 + 0 ≤ _), (by decide : 4 + 0 ≤ _)⟩)
      dsimp only [Pt.U, Pt.locs, Pt.cells, Pt.slots] at X130 l130 y130 z130 st130 hQ130
      subst l130 y130 z130
      obtain ⟨rfl, N130q, K130⟩ := hQ130
      have N130 := Fr.app N125 N130q
      have pre131 : ∀ t, Steps p.tables e below (T130.setTop (mkF m 100 #[.val (.int P0), .val (.int P1), .val (.int P2), .val (.int P3), .val (.int P4), .val (.int P5), .val (.ref b101), .val (.int ((P4 &&& (2147483647 : Int32)) % (5 : Int32))), .val (.int ((P5 &&& (2147483647 : Int32)) % ((5 : Int32) - ((P4 &&& (2147483647 : Int32)) % (5 : Int32))))), .unset] [(.int (tf2_0 (nar .char (own_draw P2)) (2 : Int32) ((P4 &&& (2147483647 : Int32)) % (5 : Int32)) ((P5 &&& (2147483647 : Int32)) % ((5 : Int32) - ((P4 &&& (2147483647 : Int32)) % (5 : Int32))))))])) t → Steps p.tables e below (s₁.setTop (entryFrame m #[(.int P0), (.int P1), (.int P2), (.int P3), (.int P4), (.int P5)] maxLocals)) t := fun t kt => pre126 t (by
          show Steps p.tables e below (T125.setTop (mkF m 85 #[.val (.int P0), .val (.int P1), .val (.int P2), .val (.int P3), .val (.int P4), .val (.int P5), .val (.ref b101), .val (.int ((P4 &&& (2147483647 : Int32)) % (5 : Int32))), .val (.int ((P5 &&& (2147483647 : Int32)) % ((5 : Int32) - ((P4 &&& (2147483647 : Int32)) % (5 : Int32))))), .unset] [(.int (tf2_0 (nar .char (own_draw P1)) (1 : Int32) ((P4 &&& (2147483647 : Int32)) % (5 : Int32)) ((P5 &&& (2147483647 : Int32)) % ((5 : Int32) - ((P4 &&& (2147483647 : Int32)) % (5 : Int32))))))])) _
          refine XS.ifNo X125.here hx rfl (hb hby at_85) rfl ((if0 _ _).trans (feq hc85).1) ?_
          show Steps p.tables e below (T125.setTop (mkF m 88 #[.val (.int P0), .val (.int P1), .val (.int P2), .val (.int P3), .val (.int P4), .val (.int P5), .val (.ref b101), .val (.int ((P4 &&& (2147483647 : Int32)) % (5 : Int32))), .val (.int ((P5 &&& (2147483647 : Int32)) % ((5 : Int32) - ((P4 &&& (2147483647 : Int32)) % (5 : Int32))))), .unset] [])) _
          refine XS.aload X125.here hx rfl (hb hby at_88) rfl rfl ?_
          show Steps p.tables e below (T125.setTop (mkF m 90 #[.val (.int P0), .val (.int P1), .val (.int P2), .val (.int P3), .val (.int P4), .val (.int P5), .val (.ref b101), .val (.int ((P4 &&& (2147483647 : Int32)) % (5 : Int32))), .val (.int ((P5 &&& (2147483647 : Int32)) % ((5 : Int32) - ((P4 &&& (2147483647 : Int32)) % (5 : Int32))))), .unset] [(.ref b101)])) _
          refine XS.iconst X125.here hx rfl (hb hby at_90) ?_
          show Steps p.tables e below (T125.setTop (mkF m 91 #[.val (.int P0), .val (.int P1), .val (.int P2), .val (.int P3), .val (.int P4), .val (.int P5), .val (.ref b101), .val (.int ((P4 &&& (2147483647 : Int32)) % (5 : Int32))), .val (.int ((P5 &&& (2147483647 : Int32)) % ((5 : Int32) - ((P4 &&& (2147483647 : Int32)) % (5 : Int32))))), .unset] [(.int (2 : Int32)), (.ref b101)])) _
          refine X125.caload hx (j := (2 : Int32)) (v := (.int (nar .char (own_draw P2)))) (by rw [K125]; exact Ar129.1) (State.isArrayOf_alike hZ.alike Ar129.2.1) Ar129.2.2 hin129 (H129.at hin129 rfl) (g := (mkF m 91 #[.val (.int P0), .val (.int P1), .val (.int P2), .val (.int P3), .val (.int P4), .val (.int P5), .val (.ref b101), .val (.int ((P4 &&& (2147483647 : Int32)) % (5 : Int32))), .val (.int ((P5 &&& (2147483647 : Int32)) % ((5 : Int32) - ((P4 &&& (2147483647 : Int32)) % (5 : Int32))))), .unset] [(.int (2 : Int32)), (.ref b101)])) rfl rfl (hb hby at_91) _ ?_
          show Steps p.tables e below (T125.setTop (mkF m 92 #[.val (.int P0), .val (.int P1), .val (.int P2), .val (.int P3), .val (.int P4), .val (.int P5), .val (.ref b101), .val (.int ((P4 &&& (2147483647 : Int32)) % (5 : Int32))), .val (.int ((P5 &&& (2147483647 : Int32)) % ((5 : Int32) - ((P4 &&& (2147483647 : Int32)) % (5 : Int32))))), .unset] [(.int (nar .char (own_draw P2)))])) _
          refine XS.iconst X125.here hx rfl (hb hby at_92) ?_
          show Steps p.tables e below (T125.setTop (mkF m 93 #[.val (.int P0), .val (.int P1), .val (.int P2), .val (.int P3), .val (.int P4), .val (.int P5), .val (.ref b101), .val (.int ((P4 &&& (2147483647 : Int32)) % (5 : Int32))), .val (.int ((P5 &&& (2147483647 : Int32)) % ((5 : Int32) - ((P4 &&& (2147483647 : Int32)) % (5 : Int32))))), .unset] [(.int (2 : Int32)), (.int (nar .char (own_draw P2)))])) _
          refine XS.iload X125.here hx rfl (hb hby at_93) rfl ?_
          show Steps p.tables e below (T125.setTop (mkF m 95 #[.val (.int P0), .val (.int P1), .val (.int P2), .val (.int P3), .val (.int P4), .val (.int P5), .val (.ref b101), .val (.int ((P4 &&& (2147483647 : Int32)) % (5 : Int32))), .val (.int ((P5 &&& (2147483647 : Int32)) % ((5 : Int32) - ((P4 &&& (2147483647 : Int32)) % (5 : Int32))))), .unset] [(.int ((P4 &&& (2147483647 : Int32)) % (5 : Int32))), (.int (2 : Int32)), (.int (nar .char (own_draw P2)))])) _
          refine XS.iload X125.here hx rfl (hb hby at_95) rfl ?_
          show Steps p.tables e below (T125.setTop (mkF m 97 #[.val (.int P0), .val (.int P1), .val (.int P2), .val (.int P3), .val (.int P4), .val (.int P5), .val (.ref b101), .val (.int ((P4 &&& (2147483647 : Int32)) % (5 : Int32))), .val (.int ((P5 &&& (2147483647 : Int32)) % ((5 : Int32) - ((P4 &&& (2147483647 : Int32)) % (5 : Int32))))), .unset] [(.int ((P5 &&& (2147483647 : Int32)) % ((5 : Int32) - ((P4 &&& (2147483647 : Int32)) % (5 : Int32))))), (.int ((P4 &&& (2147483647 : Int32)) % (5 : Int32))), (.int (2 : Int32)), (.int (nar .char (own_draw P2)))])) _
          refine st130 _ ?_
          exact kt)
      by_cases hc100 : (tf2_0 (nar .char (own_draw P2)) (2 : Int32) ((P4 &&& (2147483647 : Int32)) % (5 : Int32)) ((P5 &&& (2147483647 : Int32)) % ((5 : Int32) - ((P4 &&& (2147483647 : Int32)) % (5 : Int32))))) = (0 : Int32)
      · obtain ⟨_, _, ⟨T132, L132, k132, n132⟩, -, X132, ⟨Lc132, hQ132, l132, y132, z132⟩, st132⟩ := Jvm.LawKit.callS X130 hx (y := (⟨"com/example/terseform/terseform/xml/XmlNames", "isWhitespace", "([CII)Z"⟩ : MethodName)) hown (mvT hZ (hw _ (List.mem_of_getElem? (i := 9) rfl))) (mvT hZ (hw _ (List.mem_of_getElem? (i := 10) rfl))) (mvT hZ (hw _ (List.mem_of_getElem? (i := 11) rfl))) (mvT hZ (hw _ (List.mem_of_getElem? (i := 12) rfl))) (by decide) (backOf (W := 0) (rm3 l Z a0 hw [] b101 ((P4 &&& (2147483647 : Int32)) % (5 : Int32)) ((P5 &&& (2147483647 : Int32)) % ((5 : Int32) - ((P4 &&& (2147483647 : Int32)) % (5 : Int32)))) k101 (nar .char (own_draw P0)) (nar .char (own_draw P1)) (nar .char (own_draw P2)) (nar .char (own_draw P3)) h117 n0 Z118 V117 (show 0 ≤ (((P4 &&& (2147483647 : Int32)) % (5 : Int32))).toInt from (own_s P4).1) (show 0 ≤ (((P5 &&& (2147483647 : Int32)) % ((5 : Int32) - ((P4 &&& (2147483647 : Int32)) % (5 : Int32))))).toInt from (own_l P4 P5).1) (show (((P4 &&& (2147483647 : Int32)) % (5 : Int32))).toInt + (((P5 &&& (2147483647 : Int32)) % ((5 : Int32) - ((P4 &&& (2147483647 : Int32)) % (5 : Int32))))).toInt ≤ 4 from (own_l P4 P5).2)) hZ (hw _ (List.mem_of_getElem? (i := 12) rfl)) (hw _ (List.mem_of_getElem? (i := 11) rfl)) (by decide) (by decide)) (g := (mkF m 131 #[.val (.int P0), .val (.int P1), .val (.int P2), .val (.int P3), .val (.int P4), .val (.int P5), .val (.ref b101), .val (.int ((P4 &&& (2147483647 : Int32)) % (5 : Int32))), .val (.int ((P5 &&& (2147483647 : Int32)) % ((5 : Int32) - ((P4 &&& (2147483647 : Int32)) % (5 : Int32))))), .val (.int (0 : Int32))] [(.int ((P5 &&& (2147483647 : Int32)) % ((5 : Int32) - ((P4 &&& (2147483647 : Int32)) % (5 : Int32))))), (.int ((P4 &&& (2147483647 : Int32)) % (5 : Int32))), (.ref b101)])) rfl (by rw [hml]; rfl) (argsL := [(.ref b101), (.int ((P4 &&& (2147483647 : Int32)) % (5 : Int32))), (.int ((P5 &&& (2147483647 : Int32)) % ((5 : Int32) - ((P4 &&& (2147483647 : Int32)) % (5 : Int32)))))]) (rest := []) (lenOf pd_0_2 rfl) rfl (by show 2 * 0 + _ ≤ _; exact Nat.le_of_eq rfl) (hb hby at_131) (fun _ _ => ⟨rfl, K130, (by decide : 1 + 0 ≤ _), (by decide : 4 + 0 ≤ _)⟩)
        dsimp only [Pt.U, Pt.locs, Pt.cells, Pt.slots] at X132 l132 y132 z132 st132 hQ132
        subst l132 y132 z132
        obtain ⟨rfl, N132q, K132⟩ := hQ132
        have N132 := Fr.app N130 N132q
        have pre133 : ∀ t, Steps p.tables e below (T132.setTop (mkF m 144 #[.val (.int P0), .val (.int P1), .val (.int P2), .val (.int P3), .val (.int P4), .val (.int P5), .val (.ref b101), .val (.int ((P4 &&& (2147483647 : Int32)) % (5 : Int32))), .val (.int ((P5 &&& (2147483647 : Int32)) % ((5 : Int32) - ((P4 &&& (2147483647 : Int32)) % (5 : Int32))))), .val (.int (0 : Int32))] [(.int (1 : Int32))])) t → Steps p.tables e below (s₁.setTop (entryFrame m #[(.int P0), (.int P1), (.int P2), (.int P3), (.int P4), (.int P5)] maxLocals)) t := fun t kt => pre131 t (by
            show Steps p.tables e below (T130.setTop (mkF m 100 #[.val (.int P0), .val (.int P1), .val (.int P2), .val (.int P3), .val (.int P4), .val (.int P5), .val (.ref b101), .val (.int ((P4 &&& (2147483647 : Int32)) % (5 : Int32))), .val (.int ((P5 &&& (2147483647 : Int32)) % ((5 : Int32) - ((P4 &&& (2147483647 : Int32)) % (5 : Int32))))), .unset] [(.int (tf2_0 (nar .char (own_draw P2)) (2 : Int32) ((P4 &&& (2147483647 : Int32)) % (5 : Int32)) ((P5 &&& (2147483647 : Int32)) % ((5 : Int32) - ((P4 &&& (2147483647 : Int32)) % (5 : Int32))))))])) _
            refine XS.ifYes X130.here hx rfl (pc0 := 100) (pc' := 122) rfl (hb hby at_100) rfl ((if0 _ _).trans (teq hc100).1) (by decide) (by decide) ?_
            show Steps p.tables e below (T130.setTop (mkF m 122 #[.val (.int P0), .val (.int P1), .val (.int P2), .val (.int P3), .val (.int P4), .val (.int P5), .val (.ref b101), .val (.int ((P4 &&& (2147483647 : Int32)) % (5 : Int32))), .val (.int ((P5 &&& (2147483647 : Int32)) % ((5 : Int32) - ((P4 &&& (2147483647 : Int32)) % (5 : Int32))))), .unset] [])) _
            refine XS.iconst X130.here hx rfl (hb hby at_122) ?_
            show Steps p.tables e below (T130.setTop (mkF m 123 #[.val (.int P0), .val (.int P1), .val (.int P2), .val (.int P3), .val (.int P4), .val (.int P5), .val (.ref b101), .val (.int ((P4 &&& (2147483647 : Int32)) % (5 : Int32))), .val (.int ((P5 &&& (2147483647 : Int32)) % ((5 : Int32) - ((P4 &&& (2147483647 : Int32)) % (5 : Int32))))), .unset] [(.int (0 : Int32))])) _
            refine XS.istore X130.here hx rfl (hb hby at_123) rfl (l' := #[.val (.int P0), .val (.int P1), .val (.int P2), .val (.int P3), .val (.int P4), .val (.int P5), .val (.ref b101), .val (.int ((P4 &&& (2147483647 : Int32)) % (5 : Int32))), .val (.int ((P5 &&& (2147483647 : Int32)) % ((5 : Int32) - ((P4 &&& (2147483647 : Int32)) % (5 : Int32))))), .val (.int (0 : Int32))]) rfl ?_
            show Steps p.tables e below (T130.setTop (mkF m 125 #[.val (.int P0), .val (.int P1), .val (.int P2), .val (.int P3), .val (.int P4), .val (.int P5), .val (.ref b101), .val (.int ((P4 &&& (2147483647 : Int32)) % (5 : Int32))), .val (.int ((P5 &&& (2147483647 : Int32)) % ((5 : Int32) - ((P4 &&& (2147483647 : Int32)) % (5 : Int32))))), .val (.int (0 : Int32))] [])) _
            refine XS.aload X130.here hx rfl (hb hby at_125) rfl rfl ?_
            show Steps p.tables e below (T130.setTop (mkF m 127 #[.val (.int P0), .val (.int P1), .val (.int P2), .val (.int P3), .val (.int P4), .val (.int P5), .val (.ref b101), .val (.int ((P4 &&& (2147483647 : Int32)) % (5 : Int32))), .val (.int ((P5 &&& (2147483647 : Int32)) % ((5 : Int32) - ((P4 &&& (2147483647 : Int32)) % (5 : Int32))))), .val (.int (0 : Int32))] [(.ref b101)])) _
            refine XS.iload X130.here hx rfl (hb hby at_127) rfl ?_
            show Steps p.tables e below (T130.setTop (mkF m 129 #[.val (.int P0), .val (.int P1), .val (.int P2), .val (.int P3), .val (.int P4), .val (.int P5), .val (.ref b101), .val (.int ((P4 &&& (2147483647 : Int32)) % (5 : Int32))), .val (.int ((P5 &&& (2147483647 : Int32)) % ((5 : Int32) - ((P4 &&& (2147483647 : Int32)) % (5 : Int32))))), .val (.int (0 : Int32))] [(.int ((P4 &&& (2147483647 : Int32)) % (5 : Int32))), (.ref b101)])) _
            refine XS.iload X130.here hx rfl (hb hby at_129) rfl ?_
            show Steps p.tables e below (T130.setTop (mkF m 131 #[.val (.int P0), .val (.int P1), .val (.int P2), .val (.int P3), .val (.int P4), .val (.int P5), .val (.ref b101), .val (.int ((P4 &&& (2147483647 : Int32)) % (5 : Int32))), .val (.int ((P5 &&& (2147483647 : Int32)) % ((5 : Int32) - ((P4 &&& (2147483647 : Int32)) % (5 : Int32))))), .val (.int (0 : Int32))] [(.int ((P5 &&& (2147483647 : Int32)) % ((5 : Int32) - ((P4 &&& (2147483647 : Int32)) % (5 : Int32))))), (.int ((P4 &&& (2147483647 : Int32)) % (5 : Int32))), (.ref b101)])) _
            refine st132 _ ?_
            show Steps p.tables e below (T132.setTop (mkF m 134 #[.val (.int P0), .val (.int P1), .val (.int P2), .val (.int P3), .val (.int P4), .val (.int P5), .val (.ref b101), .val (.int ((P4 &&& (2147483647 : Int32)) % (5 : Int32))), .val (.int ((P5 &&& (2147483647 : Int32)) % ((5 : Int32) - ((P4 &&& (2147483647 : Int32)) % (5 : Int32))))), .val (.int (0 : Int32))] [(.int (own_all (own_ch (nar .char (own_draw P0)) (nar .char (own_draw P1)) (nar .char (own_draw P2)) (nar .char (own_draw P3))) ((P4 &&& (2147483647 : Int32)) % (5 : Int32)) (((P5 &&& (2147483647 : Int32)) % ((5 : Int32) - ((P4 &&& (2147483647 : Int32)) % (5 : Int32))))).toInt.toNat))])) _
            refine XS.iload X132.here hx rfl (hb hby at_134) rfl ?_
            show Steps p.tables e below (T132.setTop (mkF m 136 #[.val (.int P0), .val (.int P1), .val (.int P2), .val (.int P3), .val (.int P4), .val (.int P5), .val (.ref b101), .val (.int ((P4 &&& (2147483647 : Int32)) % (5 : Int32))), .val (.int ((P5 &&& (2147483647 : Int32)) % ((5 : Int32) - ((P4 &&& (2147483647 : Int32)) % (5 : Int32))))), .val (.int (0 : Int32))] [(.int (0 : Int32)), (.int (own_all (own_ch (nar .char (own_draw P0)) (nar .char (own_draw P1)) (nar .char (own_draw P2)) (nar .char (own_draw P3))) ((P4 &&& (2147483647 : Int32)) % (5 : Int32)) (((P5 &&& (2147483647 : Int32)) % ((5 : Int32) - ((P4 &&& (2147483647 : Int32)) % (5 : Int32))))).toInt.toNat))])) _
            refine XS.icmpNo X132.here hx rfl (hb hby at_136) rfl (teq (show (own_all (own_ch (nar .char (own_draw P0)) (nar .char (own_draw P1)) (nar .char (own_draw P2)) (nar .char (own_draw P3))) ((P4 &&& (2147483647 : Int32)) % (5 : Int32)) (((P5 &&& (2147483647 : Int32)) % ((5 : Int32) - ((P4 &&& (2147483647 : Int32)) % (5 : Int32))))).toInt.toNat) = (0 : Int32) from ((own_fin _ _ _ _ _ _ (own_s P4).1 (own_l P4 P5).1 (own_l P4 P5).2).trans (if_pos (Or.inr (Or.inr (Or.inl hc100))))))).2 ?_
            show Steps p.tables e below (T132.setTop (mkF m 139 #[.val (.int P0), .val (.int P1), .val (.int P2), .val (.int P3), .val (.int P4), .val (.int P5), .val (.ref b101), .val (.int ((P4 &&& (2147483647 : Int32)) % (5 : Int32))), .val (.int ((P5 &&& (2147483647 : Int32)) % ((5 : Int32) - ((P4 &&& (2147483647 : Int32)) % (5 : Int32))))), .val (.int (0 : Int32))] [])) _
            refine XS.iconst X132.here hx rfl (hb hby at_139) ?_
            show Steps p.tables e below (T132.setTop (mkF m 140 #[.val (.int P0), .val (.int P1), .val (.int P2), .val (.int P3), .val (.int P4), .val (.int P5), .val (.ref b101), .val (.int ((P4 &&& (2147483647 : Int32)) % (5 : Int32))), .val (.int ((P5 &&& (2147483647 : Int32)) % ((5 : Int32) - ((P4 &&& (2147483647 : Int32)) % (5 : Int32))))), .val (.int (0 : Int32))] [(.int (1 : Int32))])) _
            refine XS.goto X132.here hx rfl (pc0 := 140) (pc' := 144) rfl (hb hby at_140) (by decide) (by decide) ?_
            exact kt)
        obtain ⟨fs, hr, hrun, hended, hW, hsame⟩ := X132.leave (v := some (.int (1 : Int32))) (fun h => by rw [Bd.returns] at h; cases h)
        refine ⟨_, _, pre133 _ ?_, hrun, hended, _, _, rfl, ?_, ⟨_, rfl⟩, hW, hsame.mono (by decide) (by decide)⟩
        · show Steps p.tables e below (T132.setTop (mkF m 144 #[.val (.int P0), .val (.int P1), .val (.int P2), .val (.int P3), .val (.int P4), .val (.int P5), .val (.ref b101), .val (.int ((P4 &&& (2147483647 : Int32)) % (5 : Int32))), .val (.int ((P5 &&& (2147483647 : Int32)) % ((5 : Int32) - ((P4 &&& (2147483647 : Int32)) % (5 : Int32))))), .val (.int (0 : Int32))] [(.int (1 : Int32))])) _
          exact retN X132 hx (t := .boolean) Bd.returns (by simp) (hb hby at_144) hr
        · show Q0 Z P0 P1 P2 P3 P4 P5 h0 n0 _ T132.heap _
          rw [K132]
          exact ⟨rfl, N132⟩
      · obtain ⟨cl134, Ar134, q134, S134, N_134, H134, G134⟩ := id V117
        have hin134 : ¬ ((3 : Int32) < 0 ∨ cl134.slots.size ≤ ((3 : Int32)).toNatClampNeg) := inb_of S134 ⟨by decide, by decide⟩
        obtain ⟨_, _, ⟨T135, L135, k135, n135⟩, -, X135, ⟨Lc135, hQ135, l135, y135, z135⟩, st135⟩ := Jvm.LawKit.callS X130 hx (y := (⟨"com/example/terseform/terseform/xml/XmlNamesIsWhitespacePinLaw", "ok", "(CIII)Z"⟩ : MethodName)) hown (mvT hZ (hw _ (List.mem_of_getElem? (i := 6) rfl))) (mvT hZ (hw _ (List.mem_of_getElem? (i := 7) rfl))) (mvT hZ (hw _ (List.mem_of_getElem? (i := 3) rfl))) (mvT hZ (hw _ (List.mem_of_getElem? (i := 8) rfl))) (by decide) (backOf (W := 0) (rm2 l Z a0 hw [] (nar .char (own_draw P3)) (3 : Int32) ((P4 &&& (2147483647 : Int32)) % (5 : Int32)) ((P5 &&& (2147483647 : Int32)) % ((5 : Int32) - ((P4 &&& (2147483647 : Int32)) % (5 : Int32)))) h117 n0 Z118 ) hZ (hw _ (List.mem_of_getElem? (i := 8) rfl)) (hw _ (List.mem_of_getElem? (i := 3) rfl)) (by decide) (by decide)) (g := (mkF m 112 #[.val (.int P0), .val (.int P1), .val (.int P2), .val (.int P3), .val (.int P4), .val (.int P5), .val (.ref b101), .val (.int ((P4 &&& (2147483647 : Int32)) % (5 : Int32))), .val (.int ((P5 &&& (2147483647 : Int32)) % ((5 : Int32) - ((P4 &&& (2147483647 : Int32)) % (5 : Int32))))), .unset] [(.int ((P5 &&& (2147483647 : Int32)) % ((5 : Int32) - ((P4 &&& (2147483647 : Int32)) % (5 : Int32))))), (.int ((P4 &&& (2147483647 : Int32)) % (5 : Int32))), (.int (3 : Int32)), (.int (nar .char (own_draw P3)))])) rfl (by rw [hml]; rfl) (argsL := [(.int (nar .char (own_draw P3))), (.int (3 : Int32)), (.int ((P4 &&& (2147483647 : Int32)) % (5 : Int32))), (.int ((P5 &&& (2147483647 : Int32)) % ((5 : Int32) - ((P4 &&& (2147483647 : Int32)) % (5 : Int32)))))]) (rest := []) (lenOf pd_0_1 rfl) rfl (by show 2 * 0 + _ ≤ _; exact Nat.le_of_eq rfl) (hb hby at_112) (fun _ _ => ⟨rfl, K130, (by decide : 1 + 0 ≤ _), (by decide : 4 + 0 ≤ _)⟩)
        dsimp only [Pt.U, Pt.locs, Pt.cells, Pt.slots] at X135 l135 y135 z135 st135 hQ135
        subst l135 y135 z135
        obtain ⟨rfl, N135q, K135⟩ := hQ135
        have N135 := Fr.app N130 N135q
        have pre136 : ∀ t, Steps p.tables e below (T135.setTop (mkF m 115 #[.val (.int P0), .val (.int P1), .val (.int P2), .val (.int P3), .val (.int P4), .val (.int P5), .val (.ref b101), .val (.int ((P4 &&& (2147483647 : Int32)) % (5 : Int32))), .val (.int ((P5 &&& (2147483647 : Int32)) % ((5 : Int32) - ((P4 &&& (2147483647 : Int32)) % (5 : Int32))))), .unset] [(.int (tf2_0 (nar .char (own_draw P3)) (3 : Int32) ((P4 &&& (2147483647 : Int32)) % (5 : Int32)) ((P5 &&& (2147483647 : Int32)) % ((5 : Int32) - ((P4 &&& (2147483647 : Int32)) % (5 : Int32))))))])) t → Steps p.tables e below (s₁.setTop (entryFrame m #[(.int P0), (.int P1), (.int P2), (.int P3), (.int P4), (.int P5)] maxLocals)) t := fun t kt => pre131 t (by
            show Steps p.tables e below (T130.setTop (mkF m 100 #[.val (.int P0), .val (.int P1), .val (.int P2), .val (.int P3), .val (.int P4), .val (.int P5), .val (.ref b101), .val (.int ((P4 &&& (2147483647 : Int32)) % (5 : Int32))), .val (.int ((P5 &&& (2147483647 : Int32)) % ((5 : Int32) - ((P4 &&& (2147483647 : Int32)) % (5 : Int32))))), .unset] [(.int (tf2_0 (nar .char (own_draw P2)) (2 : Int32) ((P4 &&& (2147483647 : Int32)) % (5 : Int32)) ((P5 &&& (2147483647 : Int32)) % ((5 : Int32) - ((P4 &&& (2147483647 : Int32)) % (5 : Int32))))))])) _
            refine XS.ifNo X130.here hx rfl (hb hby at_100) rfl ((if0 _ _).trans (feq hc100).1) ?_
            show Steps p.tables e below (T130.setTop (mkF m 103 #[.val (.int P0), .val (.int P1), .val (.int P2), .val (.int P3), .val (.int P4), .val (.int P5), .val (.ref b101), .val (.int ((P4 &&& (2147483647 : Int32)) % (5 : Int32))), .val (.int ((P5 &&& (2147483647 : Int32)) % ((5 : Int32) - ((P4 &&& (2147483647 : Int32)) % (5 : Int32))))), .unset] [])) _
            refine XS.aload X130.here hx rfl (hb hby at_103) rfl rfl ?_
            show Steps p.tables e below (T130.setTop (mkF m 105 #[.val (.int P0), .val (.int P1), .val (.int P2), .val (.int P3), .val (.int P4), .val (.int P5), .val (.ref b101), .val (.int ((P4 &&& (2147483647 : Int32)) % (5 : Int32))), .val (.int ((P5 &&& (2147483647 : Int32)) % ((5 : Int32) - ((P4 &&& (2147483647 : Int32)) % (5 : Int32))))), .unset] [(.ref b101)])) _
            refine XS.iconst X130.here hx rfl (hb hby at_105) ?_
            show Steps p.tables e below (T130.setTop (mkF m 106 #[.val (.int P0), .val (.int P1), .val (.int P2), .val (.int P3), .val (.int P4), .val (.int P5), .val (.ref b101), .val (.int ((P4 &&& (2147483647 : Int32)) % (5 : Int32))), .val (.int ((P5 &&& (2147483647 : Int32)) % ((5 : Int32) - ((P4 &&& (2147483647 : Int32)) % (5 : Int32))))), .unset] [(.int (3 : Int32)), (.ref b101)])) _
            refine X130.caload hx (j := (3 : Int32)) (v := (.int (nar .char (own_draw P3)))) (by rw [K130]; exact Ar134.1) (State.isArrayOf_alike hZ.alike Ar134.2.1) Ar134.2.2 hin134 (H134.at hin134 rfl) (g := (mkF m 106 #[.val (.int P0), .val (.int P1), .val (.int P2), .val (.int P3), .val (.int P4), .val (.int P5), .val (.ref b101), .val (.int ((P4 &&& (2147483647 : Int32)) % (5 : Int32))), .val (.int ((P5 &&& (2147483647 : Int32)) % ((5 : Int32) - ((P4 &&& (2147483647 : Int32)) % (5 : Int32))))), .unset] [(.int (3 : Int32)), (.ref b101)])) rfl rfl (hb hby at_106) _ ?_
            show Steps p.tables e below (T130.setTop (mkF m 107 #[.val (.int P0), .val (.int P1), .val (.int P2), .val (.int P3), .val (.int P4), .val (.int P5), .val (.ref b101), .val (.int ((P4 &&& (2147483647 : Int32)) % (5 : Int32))), .val (.int ((P5 &&& (2147483647 : Int32)) % ((5 : Int32) - ((P4 &&& (2147483647 : Int32)) % (5 : Int32))))), .unset] [(.int (nar .char (own_draw P3)))])) _
            refine XS.iconst X130.here hx rfl (hb hby at_107) ?_
            show Steps p.tables e below (T130.setTop (mkF m 108 #[.val (.int P0), .val (.int P1), .val (.int P2), .val (.int P3), .val (.int P4), .val (.int P5), .val (.ref b101), .val (.int ((P4 &&& (2147483647 : Int32)) % (5 : Int32))), .val (.int ((P5 &&& (2147483647 : Int32)) % ((5 : Int32) - ((P4 &&& (2147483647 : Int32)) % (5 : Int32))))), .unset] [(.int (3 : Int32)), (.int (nar .char (own_draw P3)))])) _
            refine XS.iload X130.here hx rfl (hb hby at_108) rfl ?_
            show Steps p.tables e below (T130.setTop (mkF m 110 #[.val (.int P0), .val (.int P1), .val (.int P2), .val (.int P3), .val (.int P4), .val (.int P5), .val (.ref b101), .val (.int ((P4 &&& (2147483647 : Int32)) % (5 : Int32))), .val (.int ((P5 &&& (2147483647 : Int32)) % ((5 : Int32) - ((P4 &&& (2147483647 : Int32)) % (5 : Int32))))), .unset] [(.int ((P4 &&& (2147483647 : Int32)) % (5 : Int32))), (.int (3 : Int32)), (.int (nar .char (own_draw P3)))])) _
            refine XS.iload X130.here hx rfl (hb hby at_110) rfl ?_
            show Steps p.tables e below (T130.setTop (mkF m 112 #[.val (.int P0), .val (.int P1), .val (.int P2), .val (.int P3), .val (.int P4), .val (.int P5), .val (.ref b101), .val (.int ((P4 &&& (2147483647 : Int32)) % (5 : Int32))), .val (.int ((P5 &&& (2147483647 : Int32)) % ((5 : Int32) - ((P4 &&& (2147483647 : Int32)) % (5 : Int32))))), .unset] [(.int ((P5 &&& (2147483647 : Int32)) % ((5 : Int32) - ((P4 &&& (2147483647 : Int32)) % (5 : Int32))))), (.int ((P4 &&& (2147483647 : Int32)) % (5 : Int32))), (.int (3 : Int32)), (.int (nar .char (own_draw P3)))])) _
            refine st135 _ ?_
            exact kt)
        by_cases hc115 : (tf2_0 (nar .char (own_draw P3)) (3 : Int32) ((P4 &&& (2147483647 : Int32)) % (5 : Int32)) ((P5 &&& (2147483647 : Int32)) % ((5 : Int32) - ((P4 &&& (2147483647 : Int32)) % (5 : Int32))))) = (0 : Int32)
        · obtain ⟨_, _, ⟨T137, L137, k137, n137⟩, -, X137, ⟨Lc137, hQ137, l137, y137, z137⟩, st137⟩ := Jvm.LawKit.callS X135 hx (y := (⟨"com/example/terseform/terseform/xml/XmlNames", "isWhitespace", "([CII)Z"⟩ : MethodName)) hown (mvT hZ (hw _ (List.mem_of_getElem? (i := 9) rfl))) (mvT hZ (hw _ (List.mem_of_getElem? (i := 10) rfl))) (mvT hZ (hw _ (List.mem_of_getElem? (i := 11) rfl))) (mvT hZ (hw _ (List.mem_of_getElem? (i := 12) rfl))) (by decide) (backOf (W := 0) (rm3 l Z a0 hw [] b101 ((P4 &&& (2147483647 : Int32)) % (5 : Int32)) ((P5 &&& (2147483647 : Int32)) % ((5 : Int32) - ((P4 &&& (2147483647 : Int32)) % (5 : Int32)))) k101 (nar .char (own_draw P0)) (nar .char (own_draw P1)) (nar .char (own_draw P2)) (nar .char (own_draw P3)) h117 n0 Z118 V117 (show 0 ≤ (((P4 &&& (2147483647 : Int32)) % (5 : Int32))).toInt from (own_s P4).1) (show 0 ≤ (((P5 &&& (2147483647 : Int32)) % ((5 : Int32) - ((P4 &&& (2147483647 : Int32)) % (5 : Int32))))).toInt from (own_l P4 P5).1) (show (((P4 &&& (2147483647 : Int32)) % (5 : Int32))).toInt + (((P5 &&& (2147483647 : Int32)) % ((5 : Int32) - ((P4 &&& (2147483647 : Int32)) % (5 : Int32))))).toInt ≤ 4 from (own_l P4 P5).2)) hZ (hw _ (List.mem_of_getElem? (i := 12) rfl)) (hw _ (List.mem_of_getElem? (i := 11) rfl)) (by decide) (by decide)) (g := (mkF m 131 #[.val (.int P0), .val (.int P1), .val (.int P2), .val (.int P3), .val (.int P4), .val (.int P5), .val (.ref b101), .val (.int ((P4 &&& (2147483647 : Int32)) % (5 : Int32))), .val (.int ((P5 &&& (2147483647 : Int32)) % ((5 : Int32) - ((P4 &&& (2147483647 : Int32)) % (5 : Int32))))), .val (.int (0 : Int32))] [(.int ((P5 &&& (2147483647 : Int32)) % ((5 : Int32) - ((P4 &&& (2147483647 : Int32)) % (5 : Int32))))), (.int ((P4 &&& (2147483647 : Int32)) % (5 : Int32))), (.ref b101)])) rfl (by rw [hml]; rfl) (argsL := [(.ref b101), (.int ((P4 &&& (2147483647 : Int32)) % (5 : Int32))), (.int ((P5 &&& (2147483647 : Int32)) % ((5 : Int32) - ((P4 &&& (2147483647 : Int32)) % (5 : Int32)))))]) (rest := []) (lenOf pd_0_2 rfl) rfl (by show 2 * 0 + _ ≤ _; exact Nat.le_of_eq rfl) (hb hby at_131) (fun _ _ => ⟨rfl, K135, (by decide : 1 + 0 ≤ _), (by decide : 4 + 0 ≤ _)⟩)
          dsimp only [Pt.U, Pt.locs, Pt.cells, Pt.slots] at X137 l137 y137 z137 st137 hQ137
          subst l137 y137 z137
          obtain ⟨rfl, N137q, K137⟩ := hQ137
          have N137 := Fr.app N135 N137q
          have pre138 : ∀ t, Steps p.tables e below (T137.setTop (mkF m 144 #[.val (.int P0), .val (.int P1), .val (.int P2), .val (.int P3), .val (.int P4), .val (.int P5), .val (.ref b101), .val (.int ((P4 &&& (2147483647 : Int32)) % (5 : Int32))), .val (.int ((P5 &&& (2147483647 : Int32)) % ((5 : Int32) - ((P4 &&& (2147483647 : Int32)) % (5 : Int32))))), .val (.int (0 : Int32))] [(.int (1 : Int32))])) t → Steps p.tables e below (s₁.setTop (entryFrame m #[(.int P0), (.int P1), (.int P2), (.int P3), (.int P4), (.int P5)] maxLocals)) t := fun t kt => pre136 t (by
              show Steps p.tables e below (T135.setTop (mkF m 115 #[.val (.int P0), .val (.int P1), .val (.int P2), .val (.int P3), .val (.int P4), .val (.int P5), .val (.ref b101), .val (.int ((P4 &&& (2147483647 : Int32)) % (5 : Int32))), .val (.int ((P5 &&& (2147483647 : Int32)) % ((5 : Int32) - ((P4 &&& (2147483647 : Int32)) % (5 : Int32))))), .unset] [(.int (tf2_0 (nar .char (own_draw P3)) (3 : Int32) ((P4 &&& (2147483647 : Int32)) % (5 : Int32)) ((P5 &&& (2147483647 : Int32)) % ((5 : Int32) - ((P4 &&& (2147483647 : Int32)) % (5 : Int32))))))])) _
              refine XS.ifYes X135.here hx rfl (pc0 := 115) (pc' := 122) rfl (hb hby at_115) rfl ((if0 _ _).trans (teq hc115).1) (by decide) (by decide) ?_
              show Steps p.tables e below (T135.setTop (mkF m 122 #[.val (.int P0), .val (.int P1), .val (.int P2), .val (.int P3), .val (.int P4), .val (.int P5), .val (.ref b101), .val (.int ((P4 &&& (2147483647 : Int32)) % (5 : Int32))), .val (.int ((P5 &&& (2147483647 : Int32)) % ((5 : Int32) - ((P4 &&& (2147483647 : Int32)) % (5 : Int32))))), .unset] [])) _
              refine XS.iconst X135.here hx rfl (hb hby at_122) ?_
              show Steps p.tables e below (T135.setTop (mkF m 123 #[.val (.int P0), .val (.int P1), .val (.int P2), .val (.int P3), .val (.int P4), .val (.int P5), .val (.ref b101), .val (.int ((P4 &&& (2147483647 : Int32)) % (5 : Int32))), .val (.int ((P5 &&& (2147483647 : Int32)) % ((5 : Int32) - ((P4 &&& (2147483647 : Int32)) % (5 : Int32))))), .unset] [(.int (0 : Int32))])) _
              refine XS.istore X135.here hx rfl (hb hby at_123) rfl (l' := #[.val (.int P0), .val (.int P1), .val (.int P2), .val (.int P3), .val (.int P4), .val (.int P5), .val (.ref b101), .val (.int ((P4 &&& (2147483647 : Int32)) % (5 : Int32))), .val (.int ((P5 &&& (2147483647 : Int32)) % ((5 : Int32) - ((P4 &&& (2147483647 : Int32)) % (5 : Int32))))), .val (.int (0 : Int32))]) rfl ?_
              show Steps p.tables e below (T135.setTop (mkF m 125 #[.val (.int P0), .val (.int P1), .val (.int P2), .val (.int P3), .val (.int P4), .val (.int P5), .val (.ref b101), .val (.int ((P4 &&& (2147483647 : Int32)) % (5 : Int32))), .val (.int ((P5 &&& (2147483647 : Int32)) % ((5 : Int32) - ((P4 &&& (2147483647 : Int32)) % (5 : Int32))))), .val (.int (0 : Int32))] [])) _
              refine XS.aload X135.here hx rfl (hb hby at_125) rfl rfl ?_
              show Steps p.tables e below (T135.setTop (mkF m 127 #[.val (.int P0), .val (.int P1), .val (.int P2), .val (.int P3), .val (.int P4), .val (.int P5), .val (.ref b101), .val (.int ((P4 &&& (2147483647 : Int32)) % (5 : Int32))), .val (.int ((P5 &&& (2147483647 : Int32)) % ((5 : Int32) - ((P4 &&& (2147483647 : Int32)) % (5 : Int32))))), .val (.int (0 : Int32))] [(.ref b101)])) _
              refine XS.iload X135.here hx rfl (hb hby at_127) rfl ?_
              show Steps p.tables e below (T135.setTop (mkF m 129 #[.val (.int P0), .val (.int P1), .val (.int P2), .val (.int P3), .val (.int P4), .val (.int P5), .val (.ref b101), .val (.int ((P4 &&& (2147483647 : Int32)) % (5 : Int32))), .val (.int ((P5 &&& (2147483647 : Int32)) % ((5 : Int32) - ((P4 &&& (2147483647 : Int32)) % (5 : Int32))))), .val (.int (0 : Int32))] [(.int ((P4 &&& (2147483647 : Int32)) % (5 : Int32))), (.ref b101)])) _
              refine XS.iload X135.here hx rfl (hb hby at_129) rfl ?_
              show Steps p.tables e below (T135.setTop (mkF m 131 #[.val (.int P0), .val (.int P1), .val (.int P2), .val (.int P3), .val (.int P4), .val (.int P5), .val (.ref b101), .val (.int ((P4 &&& (2147483647 : Int32)) % (5 : Int32))), .val (.int ((P5 &&& (2147483647 : Int32)) % ((5 : Int32) - ((P4 &&& (2147483647 : Int32)) % (5 : Int32))))), .val (.int (0 : Int32))] [(.int ((P5 &&& (2147483647 : Int32)) % ((5 : Int32) - ((P4 &&& (2147483647 : Int32)) % (5 : Int32))))), (.int ((P4 &&& (2147483647 : Int32)) % (5 : Int32))), (.ref b101)])) _
              refine st137 _ ?_
              show Steps p.tables e below (T137.setTop (mkF m 134 #[.val (.int P0), .val (.int P1), .val (.int P2), .val (.int P3), .val (.int P4), .val (.int P5), .val (.ref b101), .val (.int ((P4 &&& (2147483647 : Int32)) % (5 : Int32))), .val (.int ((P5 &&& (2147483647 : Int32)) % ((5 : Int32) - ((P4 &&& (2147483647 : Int32)) % (5 : Int32))))), .val (.int (0 : Int32))] [(.int (own_all (own_ch (nar .char (own_draw P0)) (nar .char (own_draw P1)) (nar .char (own_draw P2)) (nar .char (own_draw P3))) ((P4 &&& (2147483647 : Int32)) % (5 : Int32)) (((P5 &&& (2147483647 : Int32)) % ((5 : Int32) - ((P4 &&& (2147483647 : Int32)) % (5 : Int32))))).toInt.toNat))])) _
              refine XS.iload X137.here hx rfl (hb hby at_134) rfl ?_
              show Steps p.tables e below (T137.setTop (mkF m 136 #[.val (.int P0), .val (.int P1), .val (.int P2), .val (.int P3), .val (.int P4), .val (.int P5), .val (.ref b101), .val (.int ((P4 &&& (2147483647 : Int32)) % (5 : Int32))), .val (.int ((P5 &&& (2147483647 : Int32)) % ((5 : Int32) - ((P4 &&& (2147483647 : Int32)) % (5 : Int32))))), .val (.int (0 : Int32))] [(.int (0 : Int32)), (.int (own_all (own_ch (nar .char (own_draw P0)) (nar .char (own_draw P1)) (nar .char (own_draw P2)) (nar .char (own_draw P3))) ((P4 &&& (2147483647 : Int32)) % (5 : Int32)) (((P5 &&& (2147483647 : Int32)) % ((5 : Int32) - ((P4 &&& (2147483647 : Int32)) % (5 : Int32))))).toInt.toNat))])) _
              refine XS.icmpNo X137.here hx rfl (hb hby at_136) rfl (teq (show (own_all (own_ch (nar .char (own_draw P0)) (nar .char (own_draw P1)) (nar .char (own_draw P2)) (nar .char (own_draw P3))) ((P4 &&& (2147483647 : Int32)) % (5 : Int32)) (((P5 &&& (2147483647 : Int32)) % ((5 : Int32) - ((P4 &&& (2147483647 : Int32)) % (5 : Int32))))).toInt.toNat) = (0 : Int32) from ((own_fin _ _ _ _ _ _ (own_s P4).1 (own_l P4 P5).1 (own_l P4 P5).2).trans (if_pos (Or.inr (Or.inr (Or.inr hc115))))))).2 ?_
              show Steps p.tables e below (T137.setTop (mkF m 139 #[.val (.int P0), .val (.int P1), .val (.int P2), .val (.int P3), .val (.int P4), .val (.int P5), .val (.ref b101), .val (.int ((P4 &&& (2147483647 : Int32)) % (5 : Int32))), .val (.int ((P5 &&& (2147483647 : Int32)) % ((5 : Int32) - ((P4 &&& (2147483647 : Int32)) % (5 : Int32))))), .val (.int (0 : Int32))] [])) _
              refine XS.iconst X137.here hx rfl (hb hby at_139) ?_
              show Steps p.tables e below (T137.setTop (mkF m 140 #[.val (.int P0), .val (.int P1), .val (.int P2), .val (.int P3), .val (.int P4), .val (.int P5), .val (.ref b101), .val (.int ((P4 &&& (2147483647 : Int32)) % (5 : Int32))), .val (.int ((P5 &&& (2147483647 : Int32)) % ((5 : Int32) - ((P4 &&& (2147483647 : Int32)) % (5 : Int32))))), .val (.int (0 : Int32))] [(.int (1 : Int32))])) _
              refine XS.goto X137.here hx rfl (pc0 := 140) (pc' := 144) rfl (hb hby at_140) (by decide) (by decide) ?_
              exact kt)
          obtain ⟨fs, hr, hrun, hended, hW, hsame⟩ := X137.leave (v := some (.int (1 : Int32))) (fun h => by rw [Bd.returns] at h; cases h)
          refine ⟨_, _, pre138 _ ?_, hrun, hended, _, _, rfl, ?_, ⟨_, rfl⟩, hW, hsame.mono (by decide) (by decide)⟩
          · show Steps p.tables e below (T137.setTop (mkF m 144 #[.val (.int P0), .val (.int P1), .val (.int P2), .val (.int P3), .val (.int P4), .val (.int P5), .val (.ref b101), .val (.int ((P4 &&& (2147483647 : Int32)) % (5 : Int32))), .val (.int ((P5 &&& (2147483647 : Int32)) % ((5 : Int32) - ((P4 &&& (2147483647 : Int32)) % (5 : Int32))))), .val (.int (0 : Int32))] [(.int (1 : Int32))])) _
            exact retN X137 hx (t := .boolean) Bd.returns (by simp) (hb hby at_144) hr
          · show Q0 Z P0 P1 P2 P3 P4 P5 h0 n0 _ T137.heap _
            rw [K137]
            exact ⟨rfl, N137⟩
        · obtain ⟨_, _, ⟨T139, L139, k139, n139⟩, -, X139, ⟨Lc139, hQ139, l139, y139, z139⟩, st139⟩ := Jvm.LawKit.callS X135 hx (y := (⟨"com/example/terseform/terseform/xml/XmlNames", "isWhitespace", "([CII)Z"⟩ : MethodName)) hown (mvT hZ (hw _ (List.mem_of_getElem? (i := 9) rfl))) (mvT hZ (hw _ (List.mem_of_getElem? (i := 10) rfl))) (mvT hZ (hw _ (List.mem_of_getElem? (i := 11) rfl))) (mvT hZ (hw _ (List.mem_of_getElem? (i := 12) rfl))) (by decide) (backOf (W := 0) (rm3 l Z a0 hw [] b101 ((P4 &&& (2147483647 : Int32)) % (5 : Int32)) ((P5 &&& (2147483647 : Int32)) % ((5 : Int32) - ((P4 &&& (2147483647 : Int32)) % (5 : Int32)))) k101 (nar .char (own_draw P0)) (nar .char (own_draw P1)) (nar .char (own_draw P2)) (nar .char (own_draw P3)) h117 n0 Z118 V117 (show 0 ≤ (((P4 &&& (2147483647 : Int32)) % (5 : Int32))).toInt from (own_s P4).1) (show 0 ≤ (((P5 &&& (2147483647 : Int32)) % ((5 : Int32) - ((P4 &&& (2147483647 : Int32)) % (5 : Int32))))).toInt from (own_l P4 P5).1) (show (((P4 &&& (2147483647 : Int32)) % (5 : Int32))).toInt + (((P5 &&& (2147483647 : Int32)) % ((5 : Int32) - ((P4 &&& (2147483647 : Int32)) % (5 : Int32))))).toInt ≤ 4 from (own_l P4 P5).2)) hZ (hw _ (List.mem_of_getElem? (i := 12) rfl)) (hw _ (List.mem_of_getElem? (i := 11) rfl)) (by decide) (by decide)) (g := (mkF m 131 #[.val (.int P0), .val (.int P1), .val (.int P2), .val (.int P3), .val (.int P4), .val (.int P5), .val (.ref b101), .val (.int ((P4 &&& (2147483647 : Int32)) % (5 : Int32))), .val (.int ((P5 &&& (2147483647 : Int32)) % ((5 : Int32) - ((P4 &&& (2147483647 : Int32)) % (5 : Int32))))), .val (.int (1 : Int32))] [(.int ((P5 &&& (2147483647 : Int32)) % ((5 : Int32) - ((P4 &&& (2147483647 : Int32)) % (5 : Int32))))), (.int ((P4 &&& (2147483647 : Int32)) % (5 : Int32))), (.ref b101)])) rfl (by rw [hml]; rfl) (argsL := [(.ref b101), (.int ((P4 &&& (2147483647 : Int32)) % (5 : Int32))), (.int ((P5 &&& (2147483647 : Int32)) % ((5 : Int32) - ((P4 &&& (2147483647 : Int32)) % (5 : Int32)))))]) (rest := []) (lenOf pd_0_2 rfl) rfl (by show 2 * 0 + _ ≤ _; exact Nat.le_of_eq rfl) (hb hby at_131) (fun _ _ => ⟨rfl, K135, (by decide : 1 + 0 ≤ _), (by decide : 4 + 0 ≤ _)⟩)
          dsimp only [Pt.U, Pt.locs, Pt.cells, Pt.slots] at X139 l139 y139 z139 st139 hQ139
          subst l139 y139 z139
          obtain ⟨rfl, N139q, K139⟩ := hQ139
          have N139 := Fr.app N135 N139q
          have pre140 : ∀ t, Steps p.tables e below (T139.setTop (mkF m 144 #[.val (.int P0), .val (.int P1), .val (.int P2), .val (.int P3), .val (.int P4), .val (.int P5), .val (.ref b101), .val (.int ((P4 &&& (2147483647 : Int32)) % (5 : Int32))), .val (.int ((P5 &&& (2147483647 : Int32)) % ((5 : Int32) - ((P4 &&& (2147483647 : Int32)) % (5 : Int32))))), .val (.int (1 : Int32))] [(.int (1 : Int32))])) t → Steps p.tables e below (s₁.setTop (entryFrame m #[(.int P0), (.int P1), (.int P2), (.int P3), (.int P4), (.int P5)] maxLocals)) t := fun t kt => pre136 t (by
              show Steps p.tables e below (T135.setTop (mkF m 115 #[.val (.int P0), .val (.int P1), .val (.int P2), .val (.int P3), .val (.int P4), .val (.int P5), .val (.ref b101), .val (.int ((P4 &&& (2147483647 : Int32)) % (5 : Int32))), .val (.int ((P5 &&& (2147483647 : Int32)) % ((5 : Int32) - ((P4 &&& (2147483647 : Int32)) % (5 : Int32))))), .unset] [(.int (tf2_0 (nar .char (own_draw P3)) (3 : Int32) ((P4 &&& (2147483647 : Int32)) % (5 : Int32)) ((P5 &&& (2147483647 : Int32)) % ((5 : Int32) - ((P4 &&& (2147483647 : Int32)) % (5 : Int32))))))])) _
              refine XS.ifNo X135.here hx rfl (hb hby at_115) rfl ((if0 _ _).trans (feq hc115).1) ?_
              show Steps p.tables e below (T135.setTop (mkF m 118 #[.val (.int P0), .val (.int P1), .val (.int P2), .val (.int P3), .val (.int P4), .val (.int P5), .val (.ref b101), .val (.int ((P4 &&& (2147483647 : Int32)) % (5 : Int32))), .val (.int ((P5 &&& (2147483647 : Int32)) % ((5 : Int32) - ((P4 &&& (2147483647 : Int32)) % (5 : Int32))))), .unset] [])) _
              refine XS.iconst X135.here hx rfl (hb hby at_118) ?_
              show Steps p.tables e below (T135.setTop (mkF m 119 #[.val (.int P0), .val (.int P1), .val (.int P2), .val (.int P3), .val (.int P4), .val (.int P5), .val (.ref b101), .val (.int ((P4 &&& (2147483647 : Int32)) % (5 : Int32))), .val (.int ((P5 &&& (2147483647 : Int32)) % ((5 : Int32) - ((P4 &&& (2147483647 : Int32)) % (5 : Int32))))), .unset] [(.int (1 : Int32))])) _
              refine XS.goto X135.here hx rfl (pc0 := 119) (pc' := 123) rfl (hb hby at_119) (by decide) (by decide) ?_
              show Steps p.tables e below (T135.setTop (mkF m 123 #[.val (.int P0), .val (.int P1), .val (.int P2), .val (.int P3), .val (.int P4), .val (.int P5), .val (.ref b101), .val (.int ((P4 &&& (2147483647 : Int32)) % (5 : Int32))), .val (.int ((P5 &&& (2147483647 : Int32)) % ((5 : Int32) - ((P4 &&& (2147483647 : Int32)) % (5 : Int32))))), .unset] [(.int (1 : Int32))])) _
              refine XS.istore X135.here hx rfl (hb hby at_123) rfl (l' := #[.val (.int P0), .val (.int P1), .val (.int P2), .val (.int P3), .val (.int P4), .val (.int P5), .val (.ref b101), .val (.int ((P4 &&& (2147483647 : Int32)) % (5 : Int32))), .val (.int ((P5 &&& (2147483647 : Int32)) % ((5 : Int32) - ((P4 &&& (2147483647 : Int32)) % (5 : Int32))))), .val (.int (1 : Int32))]) rfl ?_
              show Steps p.tables e below (T135.setTop (mkF m 125 #[.val (.int P0), .val (.int P1), .val (.int P2), .val (.int P3), .val (.int P4), .val (.int P5), .val (.ref b101), .val (.int ((P4 &&& (2147483647 : Int32)) % (5 : Int32))), .val (.int ((P5 &&& (2147483647 : Int32)) % ((5 : Int32) - ((P4 &&& (2147483647 : Int32)) % (5 : Int32))))), .val (.int (1 : Int32))] [])) _
              refine XS.aload X135.here hx rfl (hb hby at_125) rfl rfl ?_
              show Steps p.tables e below (T135.setTop (mkF m 127 #[.val (.int P0), .val (.int P1), .val (.int P2), .val (.int P3), .val (.int P4), .val (.int P5), .val (.ref b101), .val (.int ((P4 &&& (2147483647 : Int32)) % (5 : Int32))), .val (.int ((P5 &&& (2147483647 : Int32)) % ((5 : Int32) - ((P4 &&& (2147483647 : Int32)) % (5 : Int32))))), .val (.int (1 : Int32))] [(.ref b101)])) _
              refine XS.iload X135.here hx rfl (hb hby at_127) rfl ?_
              show Steps p.tables e below (T135.setTop (mkF m 129 #[.val (.int P0), .val (.int P1), .val (.int P2), .val (.int P3), .val (.int P4), .val (.int P5), .val (.ref b101), .val (.int ((P4 &&& (2147483647 : Int32)) % (5 : Int32))), .val (.int ((P5 &&& (2147483647 : Int32)) % ((5 : Int32) - ((P4 &&& (2147483647 : Int32)) % (5 : Int32))))), .val (.int (1 : Int32))] [(.int ((P4 &&& (2147483647 : Int32)) % (5 : Int32))), (.ref b101)])) _
              refine XS.iload X135.here hx rfl (hb hby at_129) rfl ?_
              show Steps p.tables e below (T135.setTop (mkF m 131 #[.val (.int P0), .val (.int P1), .val (.int P2), .val (.int P3), .val (.int P4), .val (.int P5), .val (.ref b101), .val (.int ((P4 &&& (2147483647 : Int32)) % (5 : Int32))), .val (.int ((P5 &&& (2147483647 : Int32)) % ((5 : Int32) - ((P4 &&& (2147483647 : Int32)) % (5 : Int32))))), .val (.int (1 : Int32))] [(.int ((P5 &&& (2147483647 : Int32)) % ((5 : Int32) - ((P4 &&& (2147483647 : Int32)) % (5 : Int32))))), (.int ((P4 &&& (2147483647 : Int32)) % (5 : Int32))), (.ref b101)])) _
              refine st139 _ ?_
              show Steps p.tables e below (T139.setTop (mkF m 134 #[.val (.int P0), .val (.int P1), .val (.int P2), .val (.int P3), .val (.int P4), .val (.int P5), .val (.ref b101), .val (.int ((P4 &&& (2147483647 : Int32)) % (5 : Int32))), .val (.int ((P5 &&& (2147483647 : Int32)) % ((5 : Int32) - ((P4 &&& (2147483647 : Int32)) % (5 : Int32))))), .val (.int (1 : Int32))] [(.int (own_all (own_ch (nar .char (own_draw P0)) (nar .char (own_draw P1)) (nar .char (own_draw P2)) (nar .char (own_draw P3))) ((P4 &&& (2147483647 : Int32)) % (5 : Int32)) (((P5 &&& (2147483647 : Int32)) % ((5 : Int32) - ((P4 &&& (2147483647 : Int32)) % (5 : Int32))))).toInt.toNat))])) _
              refine XS.iload X139.here hx rfl (hb hby at_134) rfl ?_
              show Steps p.tables e below (T139.setTop (mkF m 136 #[.val (.int P0), .val (.int P1), .val (.int P2), .val (.int P3), .val (.int P4), .val (.int P5), .val (.ref b101), .val (.int ((P4 &&& (2147483647 : Int32)) % (5 : Int32))), .val (.int ((P5 &&& (2147483647 : Int32)) % ((5 : Int32) - ((P4 &&& (2147483647 : Int32)) % (5 : Int32))))), .val (.int (1 : Int32))] [(.int (1 : Int32)), (.int (own_all (own_ch (nar .char (own_draw P0)) (nar .char (own_draw P1)) (nar .char (own_draw P2)) (nar .char (own_draw P3))) ((P4 &&& (2147483647 : Int32)) % (5 : Int32)) (((P5 &&& (2147483647 : Int32)) % ((5 : Int32) - ((P4 &&& (2147483647 : Int32)) % (5 : Int32))))).toInt.toNat))])) _
              refine XS.icmpNo X139.here hx rfl (hb hby at_136) rfl (teq (show (own_all (own_ch (nar .char (own_draw P0)) (nar .char (own_draw P1)) (nar .char (own_draw P2)) (nar .char (own_draw P3))) ((P4 &&& (2147483647 : Int32)) % (5 : Int32)) (((P5 &&& (2147483647 : Int32)) % ((5 : Int32) - ((P4 &&& (2147483647 : Int32)) % (5 : Int32))))).toInt.toNat) = (1 : Int32) from ((own_fin _ _ _ _ _ _ (own_s P4).1 (own_l P4 P5).1 (own_l P4 P5).2).trans (if_neg (fun q => q.elim hc70 (fun q => q.elim hc85 (fun q => q.elim hc100 hc115))))))).2 ?_
              show Steps p.tables e below (T139.setTop (mkF m 139 #[.val (.int P0), .val (.int P1), .val (.int P2), .val (.int P3), .val (.int P4), .val (.int P5), .val (.ref b101), .val (.int ((P4 &&& (2147483647 : Int32)) % (5 : Int32))), .val (.int ((P5 &&& (2147483647 : Int32)) % ((5 : Int32) - ((P4 &&& (2147483647 : Int32)) % (5 : Int32))))), .val (.int (1 : Int32))] [])) _
              refine XS.iconst X139.here hx rfl (hb hby at_139) ?_
              show Steps p.tables e below (T139.setTop (mkF m 140 #[.val (.int P0), .val (.int P1), .val (.int P2), .val (.int P3), .val (.int P4), .val (.int P5), .val (.ref b101), .val (.int ((P4 &&& (2147483647 : Int32)) % (5 : Int32))), .val (.int ((P5 &&& (2147483647 : Int32)) % ((5 : Int32) - ((P4 &&& (2147483647 : Int32)) % (5 : Int32))))), .val (.int (1 : Int32))] [(.int (1 : Int32))])) _
              refine XS.goto X139.here hx rfl (pc0 := 140) (pc' := 144) rfl (hb hby at_140) (by decide) (by decide) ?_
              exact kt)
          obtain ⟨fs, hr, hrun, hended, hW, hsame⟩ := X139.leave (v := some (.int (1 : Int32))) (fun h => by rw [Bd.returns] at h; cases h)
          refine ⟨_, _, pre140 _ ?_, hrun, hended, _, _, rfl, ?_, ⟨_, rfl⟩, hW, hsame.mono (by decide) (by decide)⟩
          · show Steps p.tables e below (T139.setTop (mkF m 144 #[.val (.int P0), .val (.int P1), .val (.int P2), .val (.int P3), .val (.int P4), .val (.int P5), .val (.ref b101), .val (.int ((P4 &&& (2147483647 : Int32)) % (5 : Int32))), .val (.int ((P5 &&& (2147483647 : Int32)) % ((5 : Int32) - ((P4 &&& (2147483647 : Int32)) % (5 : Int32))))), .val (.int (1 : Int32))] [(.int (1 : Int32))])) _
            exact retN X139 hx (t := .boolean) Bd.returns (by simp) (hb hby at_144) hr
          · show Q0 Z P0 P1 P2 P3 P4 P5 h0 n0 _ T139.heap _
            rw [K139]
            exact ⟨rfl, N139⟩
set_option maxRecDepth 65536 in
set_option maxHeartbeats 40000000 in
theorem comes_1 {Post : Tables → Env → Array Value → State → Outcome → State → Prop} (hpost : ∀ tb e args s v u, (limb_1_1.after args s (.returned v) u = true ∧ limb_1_2.after args s (.returned v) u = true ∧ True) → FrameEnd s (.returned v) u (Jvm.fieldLocs frame_1_writes args s ++ Jvm.arrayLocs frame_1_arrays args s ++ Jvm.staticLocs frame_1_statics s) 16 128 → Post tb e args s (.returned v) u) :
    ArmFor flags0 classFile x code maxLocals ret World_1 tables_1 room_1 Calls_1 rest_1 Pre_1 Post := by
  intro l hfl _ _ p e ha hc hk s m args below hf hA hF happ hP
  obtain ⟨hcalls, hrest, hpre⟩ := hP
  obtain ⟨-, -, -, hnamed, -, -, -, hat⟩ := (Spec.applies_iff hf).mp happ
  obtain ⟨hg, hn⟩ := and_e (Cond.before_iff.mp (show (Jvm.Cond.and given_1 narrow_1).before args s = true from hpre))
  obtain ⟨gv1, gv2⟩ := and_e hg
  obtain ⟨gv3, gv4⟩ := and_e gv2
  obtain ⟨gv5, gv6⟩ := and_e gv4
  obtain ⟨gv7, gv8⟩ := and_e gv6
  obtain ⟨gv9, gv10⟩ := and_e gv8
  obtain ⟨gv11, gv12⟩ := and_e gv10
  obtain ⟨w0, w1, w2, w3, w4, w5, rfl⟩ : ∃ w0 w1 w2 w3 w4 w5 : Value, args = #[w0, w1, w2, w3, w4, w5] := by
    have hs : args.size = 6 := by simpa [Cond.value, given_1] using gv1
    obtain ⟨L⟩ := args
    match L, hs with
    | [w0, w1, w2, w3, w4, w5], _ => exact ⟨w0, w1, w2, w3, w4, w5, rfl⟩
  have hw := fun d (hd : d ∈ tables_1) => atoms_spec (ws := Jvm.Cond.code x code maxLocals ret :: tables_1) hat d (List.mem_cons_of_mem _ hd)
  have hfit : Fit s := fun {y c} hc i hi => by
    obtain ⟨ha, rfl⟩ := Array.getElem?_eq_some_iff.mp hc
    have q := List.all_eq_true.mp ((Array.all_eq_true_iff_forall_mem.mp hF) _ (Array.getElem_mem ha)) i (List.mem_range.mpr hi)
    simpa [Array.getElem?_eq_getElem hi] using q
  obtain ⟨i0, ei0⟩ := is_v gv3
  obtain rfl : w0 = (.int i0) := Option.some.inj ei0
  obtain ⟨i1, ei1⟩ := is_v gv5
  obtain rfl : w1 = (.int i1) := Option.some.inj ei1
  obtain ⟨i2, ei2⟩ := is_v gv7
  obtain rfl : w2 = (.int i2) := Option.some.inj ei2
  obtain ⟨i3, ei3⟩ := is_v gv9
  obtain rfl : w3 = (.int i3) := Option.some.inj ei3
  obtain ⟨i4, ei4⟩ := is_v gv11
  obtain rfl : w4 = (.int i4) := Option.some.inj ei4
  obtain ⟨i5, ei5⟩ := is_v gv12
  obtain rfl : w5 = (.int i5) := Option.some.inj ei5
  obtain ⟨n, o, h1, h2, h3, _, L, rfl, ⟨rfl, N⟩, hq⟩ := rm0 l s _ hw tables_1 i0 i1 i2 i3 i4 i5  s.heap s.heap.size (Nat.le_refl _)  p e ha hc hk s m _ below hf ((Spec.applies_iff_loose hf).mp happ).1 ⟨rfl, State.Warmed39.refl s, rfl⟩ trivial
  refine ⟨n, _, h1, h2, h3, hpost _ _ _ _ _ _ ⟨Cond.after_iff.mpr rfl, Cond.after_iff.mpr (eq_i res_at (Term.int_eval (1)) rfl), trivial⟩ ⟨hq.1, hq.2.1, (hq.2.2.sift fun y hy => Or.inr (N y hy)).mono (by decide) (by decide)⟩⟩
theorem main_1_1 : Claimed_1_1 := comes_1 fun _ _ _ _ _ _ h hF => ⟨h.1, hF⟩
theorem main_1_2 : Claimed_1_2 := comes_1 fun _ _ _ _ _ _ h hF => ⟨h.2.1, hF⟩
end Jvm.Pilot.@@N@@
namespace Jvm.Pilot.@@N@@
open Jvm Jvm.ClassFile Sem Op Lib Jvm.Free Jvm.Stand Jvm.Pilot.@@N@@.Jvm.D
/-! MADE BY PROGRAM (witnessworld.py) out of the Statement's table words and the real class files: 11 classes; the members and pool entries that the words name. The judged class is class 1, her method 1. -/
namespace start1
open Jvm.ClassFile
def u (s : String) : CpInfo := .utf8 (stringToUtf16 s)
/-- a pool by its gaps: so many unusable entries, then the entry; so many at the end -/
def gap : Nat → List CpInfo → List CpInfo
  | 0, r => r
  | n + 1, r => .unusable :: gap n r
def poolList (es : List (Nat × CpInfo)) (last : Nat) : List CpInfo := es.foldr (fun e r => gap e.1 (e.2 :: r)) (gap last [])
def pool (es : List (Nat × CpInfo)) (last : Nat) : Array CpInfo := ⟨poolList es last⟩
def fileOf (pool : Array CpInfo) (this : Nat) (attrs : Array Attribute := #[]) (ms : Array MethodInfo := #[]) (fl : Nat := 33) (sup : Nat := 0) (ifs : Array Nat := #[]) (fds : Array FieldInfo := #[]) : ClassFile where
  minorVersion := 0
  majorVersion := 65
  constantPool := pool
  accessFlags := fl
  thisClass := this
  superClass := sup
  interfaces := ifs
  fields := fds
  methods := ms
  attributes := attrs
def plain (name : String) (sup : Option ClassId) : Class where
  name := name
  kind := .ordinary
  loader := none
  accessFlags := 33
  super := sup
  interfaces := #[]
  cf := none
  fields := #[]
  methods := #[]
  instanceTypes := #[]
  staticTypes := #[]
  resolved := #[]
  callSites := []
  init := .initialized
  statics := none
  mirror := none

def pool0 : Array CpInfo := pool [(5, u "<init>"), (0, u "()V"), (1, .class_ 10), (1, u "java/lang/Object")] 113

def k0m0 : Method := { name := "<init>", desc := "()V", sig := { parameters := [], returnType := none }, accessFlags := 1, code := none }
/-- java/lang/Object -/
def k0 : Class := { plain "java/lang/Object" none with
  accessFlags := 33
  interfaces := #[]
  cf := some (fileOf pool0 8 #[] #[{ accessFlags := 1, nameIndex := 5, descriptorIndex := 6, attributes := #[] }] 33 0 #[] #[])
  fields := #[]
  methods := #[k0m0]
  instanceTypes := #[]
  staticTypes := #[]
  resolved := Array.replicate 124 none
  statics := none }

def pool1 : Array CpInfo := pool [(2, .class_ 4), (1, u "java/lang/Object"), (0, u "<init>"), (0, u "()V"), (0, .methodref 8 9), (0, .class_ 10), (0, .nameAndType 11 12), (0, u "com/example/terseform/terseform/xml/XmlNamesIsWhitespacePinLaw"), (0, u "draw"), (0, u "(I)C"), (0, .integer 2147483647), (0, .methodref 8 15), (0, .nameAndType 16 17), (0, u "ok"), (0, u "(CIII)Z"), (0, .methodref 19 20), (0, .class_ 21), (0, .nameAndType 22 23), (0, u "com/example/terseform/terseform/xml/XmlNames"), (0, u "isWhitespace"), (0, u "([CII)Z"), (2, u "law"), (0, u "(IIIIII)Z")] 5

def k1m0 : Method := { name := "<init>", desc := "()V", sig := { parameters := [], returnType := none }, accessFlags := 2, code := none }
def k1c1 : Code := { maxStack := 4, maxLocals := 10, code := code, exceptionTable := #[], attributes := #[] }
def k1m1 : Method := { name := "law", desc := "(IIIIII)Z", sig := { parameters := [.int, .int, .int, .int, .int, .int], returnType := some .boolean }, accessFlags := 9, code := some k1c1 }
def k1c2 : Code := { maxStack := 2, maxLocals := 2, code := method_3_code, exceptionTable := #[], attributes := #[] }
def k1m2 : Method := { name := "draw", desc := "(I)C", sig := { parameters := [.int], returnType := some .char }, accessFlags := 10, code := some k1c2 }
def k1c3 : Code := { maxStack := 3, maxLocals := 4, code := method_4_code, exceptionTable := #[], attributes := #[] }
def k1m3 : Method := { name := "ok", desc := "(CIII)Z", sig := { parameters := [.char, .int, .int, .int], returnType := some .boolean }, accessFlags := 10, code := some k1c3 }
/-- com/example/terseform/terseform/xml/XmlNamesIsWhitespacePinLaw -/
def k1 : Class := { plain "com/example/terseform/terseform/xml/XmlNamesIsWhitespacePinLaw" (some 0) with
  accessFlags := 49
  interfaces := #[]
  cf := some (fileOf pool1 8 #[] #[{ accessFlags := 2, nameIndex := 5, descriptorIndex := 6, attributes := #[] }, { accessFlags := 9, nameIndex := 26, descriptorIndex := 27, attributes := #[] }, { accessFlags := 10, nameIndex := 11, descriptorIndex := 12, attributes := #[] }, { accessFlags := 10, nameIndex := 16, descriptorIndex := 17, attributes := #[] }] 49 2 #[] #[])
  fields := #[]
  methods := #[k1m0, k1m1, k1m2, k1m3]
  instanceTypes := #[]
  staticTypes := #[]
  resolved := Array.replicate 33 none
  statics := none }

def pool2 : Array CpInfo := pool [(2, .class_ 4), (1, u "java/lang/Object"), (0, u "<init>"), (0, u "()V"), (15, .class_ 24), (1, u "com/example/terseform/terseform/xml/XmlNames"), (66, u "isWhitespace"), (0, u "([CII)Z")] 24

def k2m0 : Method := { name := "<init>", desc := "()V", sig := { parameters := [], returnType := none }, accessFlags := 2, code := none }
def k2c1 : Code := { maxStack := 3, maxLocals := 5, code := prog_62_method_4_code, exceptionTable := #[], attributes := #[] }
def k2m1 : Method := { name := "isWhitespace", desc := "([CII)Z", sig := { parameters := [(.array .char), .int, .int], returnType := some .boolean }, accessFlags := 8, code := some k2c1 }
/-- com/example/terseform/terseform/xml/XmlNames -/
def k2 : Class := { plain "com/example/terseform/terseform/xml/XmlNames" (some 0) with
  accessFlags := 48
  interfaces := #[]
  cf := some (fileOf pool2 22 #[] #[{ accessFlags := 2, nameIndex := 5, descriptorIndex := 6, attributes := #[] }, { accessFlags := 8, nameIndex := 91, descriptorIndex := 92, attributes := #[] }] 48 2 #[] #[])
  fields := #[]
  methods := #[k2m0, k2m1]
  instanceTypes := #[]
  staticTypes := #[]
  resolved := Array.replicate 117 none
  statics := none }

def pool3 : Array CpInfo := pool [(1, u "java/lang/Cloneable"), (0, .class_ 1), (0, u "java/lang/Object"), (0, .class_ 3)] 3

/-- java/lang/Cloneable -/
def k3 : Class := { plain "java/lang/Cloneable" (some 0) with
  accessFlags := 1537
  interfaces := #[]
  cf := some (fileOf pool3 2 #[] #[] 1537 4 #[] #[])
  fields := #[]
  methods := #[]
  instanceTypes := #[]
  staticTypes := #[]
  resolved := Array.replicate 8 none
  statics := none }

def pool4 : Array CpInfo := pool [(1, u "java/io/Serializable"), (0, .class_ 1), (0, u "java/lang/Object"), (0, .class_ 3)] 3

/-- java/io/Serializable -/
def k4 : Class := { plain "java/io/Serializable" (some 0) with
  accessFlags := 1537
  interfaces := #[]
  cf := some (fileOf pool4 2 #[] #[] 1537 4 #[] #[])
  fields := #[]
  methods := #[]
  instanceTypes := #[]
  staticTypes := #[]
  resolved := Array.replicate 8 none
  statics := none }

/-- the primitive byte -/
def k5 : Class := { plain "byte" none with kind := .primitive 'B', accessFlags := 0x411 }
/-- [B -/
def k6 : Class := { plain "[B" (some 0) with kind := .array 5 .byte, interfaces := #[3, 4], accessFlags := 1041 }

/-- the primitive char -/
def k7 : Class := { plain "char" none with kind := .primitive 'C', accessFlags := 0x411 }
/-- [C -/
def k8 : Class := { plain "[C" (some 0) with kind := .array 7 .char, interfaces := #[3, 4], accessFlags := 1041 }

/-- the primitive int -/
def k9 : Class := { plain "int" none with kind := .primitive 'I', accessFlags := 0x411 }
/-- [I -/
def k10 : Class := { plain "[I" (some 0) with kind := .array 9 .int, interfaces := #[3, 4], accessFlags := 1041 }

def heap : Heap := #[]
def classes : Array Class := #[k0, k1, k2, k3, k4, k5, k6, k7, k8, k9, k10]
def interned : List (Array UInt16 × Addr) := []
def slotsUsed : Nat := 0
def theMethod : MethodId := ⟨1, 1⟩
def args0 : Array Value := #[.int 1, .int 2, .int 3, .int 4, .int 5, .int 6]
def aboutOver (below : List Frame) : State where
  vm := { classes := classes, interned := interned.toArray }
  heap := heap
  slotsUsed := slotsUsed
  threads := #[{ frames := .invoking theMethod args0 :: below }]
def below0 : List Frame := [.native { method := ⟨0, 0⟩, args := #[] }]
def about1 : State := aboutOver below0
def p0 : Program := .bare "" "" ""
def e0 : Env := launch0.env 0 0 0
theorem w_frames : about1.frames = Frame.invoking theMethod args0 :: below0 := rfl
set_option maxRecDepth 65536 in
theorem w_args : argsFit about1.vm theMethod args0 = true := by decide +kernel
set_option maxRecDepth 65536 in
theorem w_heap : heapFits about1 = true := by decide +kernel
set_option maxRecDepth 65536 in
theorem w_runnable : about1.curStatus? = some .runnable := by decide +kernel
set_option maxRecDepth 65536 in
theorem w_alone : about1.alone = true := by decide +kernel
set_option maxRecDepth 65536 in
theorem w_named : about1.methodNamed? x = some theMethod := by decide +kernel
set_option maxRecDepth 65536 in
theorem w_hears : about1.hears theMethod below0 = true := by decide +kernel
set_option maxRecDepth 65536 in
theorem w_ripe : about1.ripe theMethod args0 below0 = true := by decide +kernel
theorem w_running : about1.status = .running := rfl
set_option maxRecDepth 65536 in
theorem w_room : about1.hasRoom e0.platform room_1 = true :=
  launch0.hasRoom_least _ room_1 (by decide +kernel) (by decide +kernel) (by decide +kernel) (by decide +kernel) (by decide +kernel) (by decide +kernel)
theorem allAtoms_all (ts : List Jvm.Cond) (a : Array Jvm.Value) (st : Jvm.State) : (allAtoms ts).before a st = ts.all (fun c => c.before a st) := by
  induction ts with
  | nil => rfl
  | cons c t ih =>
    show (Jvm.Cond.and c (allAtoms t)).before a st = _
    rw [Jvm.Cond.before_and, ih, List.all_cons]
def words1 : List Jvm.Cond := Jvm.Cond.code x code maxLocals ret :: tables_1
/-- a 'code' word, met by the world's own term for the bytes: nothing is compared byte by byte -/
theorem code_word {y : MethodName} {bytes : ByteArray} {mx : Nat} {rt : Option FieldType} {a : Array Value} {s : State} {m : MethodId} {meth : Method} {c : Code} (h1 : s.methodNamed? y = some m) (h2 : s.vm.method? m = some meth) (h3 : meth.code = some c) (h4 : c.code = bytes)
    (h5 : (c.maxLocals == mx && c.exceptionTable.isEmpty && decide (c.maxStack ≤ mostOperands) && decide (meth.sig.returnType = rt) && !meth.locks && decide (parseMethodDescriptor y.desc = some meth.sig)) = true) : (Jvm.Cond.code y bytes mx rt).before a s = true := by
  simp only [Bool.and_eq_true, beq_iff_eq, Bool.not_eq_true', decide_eq_true_eq] at h5
  obtain ⟨⟨⟨⟨⟨g1, g2⟩, g3⟩, g4⟩, g5⟩, g6⟩ := h5
  simp [Cond.before, Cond.holds, Cond.value, h1, h2, h3, h4, g1, g2, g3, g4, g5, g6]
def isCode : Jvm.Cond → Bool
  | .code _ _ _ _ => true
  | _ => false
theorem all_split {L : List Jvm.Cond} {P : Jvm.Cond → Bool} (h1 : L.all (fun c => isCode c || P c) = true) (h2 : ∀ c ∈ L.filter isCode, P c = true) : L.all P = true := by
  refine List.all_eq_true.mpr fun c hc => ?_
  have h := List.all_eq_true.mp h1 c hc
  rcases Bool.eq_false_or_eq_true (isCode c) with hi | hi
  · exact h2 c (List.mem_filter.mpr ⟨hc, hi⟩)
  · simpa [hi] using h
set_option maxRecDepth 65536 in
theorem w_c0 : (Jvm.Cond.code x code maxLocals ret).before args0 about1 = true := code_word (m := ⟨1, 1⟩) (meth := k1m1) (c := k1c1) (by decide +kernel) rfl rfl rfl (by decide +kernel)
set_option maxRecDepth 65536 in
theorem w_c1 : (Jvm.Cond.code ({ cls := "com/example/terseform/terseform/xml/XmlNamesIsWhitespacePinLaw", name := "draw", desc := "(I)C" } : Jvm.MethodName) method_3_code (2 : Nat) (Option.some Jvm.ClassFile.FieldType.char)).before args0 about1 = true := code_word (m := ⟨1, 2⟩) (meth := k1m2) (c := k1c2) (by decide +kernel) rfl rfl rfl (by decide +kernel)
set_option maxRecDepth 65536 in
theorem w_c2 : (Jvm.Cond.code ({ cls := "com/example/terseform/terseform/xml/XmlNamesIsWhitespacePinLaw", name := "ok", desc := "(CIII)Z" } : Jvm.MethodName) method_4_code (4 : Nat) (Option.some Jvm.ClassFile.FieldType.boolean)).before args0 about1 = true := code_word (m := ⟨1, 3⟩) (meth := k1m3) (c := k1c3) (by decide +kernel) rfl rfl rfl (by decide +kernel)
set_option maxRecDepth 65536 in
theorem w_c3 : (Jvm.Cond.code ({ cls := "com/example/terseform/terseform/xml/XmlNames", name := "isWhitespace", desc := "([CII)Z" } : Jvm.MethodName) prog_62_method_4_code (5 : Nat) (Option.some Jvm.ClassFile.FieldType.boolean)).before args0 about1 = true := code_word (m := ⟨2, 1⟩) (meth := k2m1) (c := k2c1) (by decide +kernel) rfl rfl rfl (by decide +kernel)
def codes1 : List Jvm.Cond := [Jvm.Cond.code x code maxLocals ret, Jvm.Cond.code ({ cls := "com/example/terseform/terseform/xml/XmlNamesIsWhitespacePinLaw", name := "draw", desc := "(I)C" } : Jvm.MethodName) method_3_code (2 : Nat) (Option.some Jvm.ClassFile.FieldType.char), Jvm.Cond.code ({ cls := "com/example/terseform/terseform/xml/XmlNamesIsWhitespacePinLaw", name := "ok", desc := "(CIII)Z" } : Jvm.MethodName) method_4_code (4 : Nat) (Option.some Jvm.ClassFile.FieldType.boolean), Jvm.Cond.code ({ cls := "com/example/terseform/terseform/xml/XmlNames", name := "isWhitespace", desc := "([CII)Z" } : Jvm.MethodName) prog_62_method_4_code (5 : Nat) (Option.some Jvm.ClassFile.FieldType.boolean)]
set_option maxRecDepth 65536 in
theorem codes_eq : words1.filter isCode = codes1 := rfl
theorem w_codes : ∀ c ∈ words1.filter isCode, c.before args0 about1 = true := by
  rw [codes_eq]
  intro c hc
  simp only [codes1, List.mem_cons, List.not_mem_nil, or_false] at hc
  rcases hc with rfl | rfl | rfl | rfl
  · exact w_c0
  · exact w_c1
  · exact w_c2
  · exact w_c3
set_option maxRecDepth 65536 in
theorem w_t1 : words1.all (fun c => isCode c || c.before args0 about1) = true := by decide +kernel
theorem w_tables : (allAtoms (Jvm.Cond.code x code maxLocals ret :: tables_1)).before args0 about1 = true := by
  rw [allAtoms_all]
  show words1.all (fun c => c.before args0 about1) = true
  refine all_split ?_ w_codes
  rw [w_t1]
set_option maxRecDepth 65536 in
theorem w_case : (Jvm.Cond.and given_1 narrow_1).before args0 about1 = true := by decide +kernel
theorem w_applies : (headSpec (Jvm.Cond.code x code maxLocals ret :: tables_1) room_1).applies x e0.platform about1 = true :=
  (Spec.applies_iff w_frames).mpr ⟨w_running, w_runnable, w_alone, w_named, w_hears, w_ripe, w_room, w_tables⟩
theorem atStart : AtStart classFile x code maxLocals ret World_1 tables_1 room_1 Calls_1 rest_1 Pre_1 launch0 p0 e0 about1 theMethod args0 below0 :=
  ⟨lists_1, trivial, launch0.admits_env _ _ _, launch0.least_env, fairChoices_fair.cas, fairChoices_fair.clock, w_frames, w_args, w_heap, w_applies, trivial, trivial, w_case⟩
end start1
theorem witness_1 : WitnessClaimed_1 := ⟨start1.p0, start1.e0, start1.about1, start1.theMethod, start1.args0, start1.below0, start1.atStart⟩
end Jvm.Pilot.@@N@@
